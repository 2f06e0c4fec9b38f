/- The two tables of unicode/utf8 as a row's list lays them, and DecodeRune over them. -/
import Derived.Test.YtbnnjjilkpdanaaDoorRows
import Derived.WalkKit
import Derived.ProofKit
import Derived.Shelf.Spec.DecodeRune
import Derived.Lib.LaidU8T
import Derived.PinnedBridge
import Derived.Lay
namespace Go.Proofs
open Go.Shelf Go.Lib
namespace YtbnnjjilkpdanaaDoor
open Go.RowKit
/-- The numbers of DecodeRune's text in this dump, and that its text is the one of the library. -/
def lren : Ren := ⟨fun | 32 => 49 | 49 => 72 | n => n,
  fun | 30 => 46 | 21 => 21 | 3 => 3 | 0 => 0 | 5 => 5 | 4 => 4 | 33 => 79 | 66 => 140 | 25 => 53 | 69 => 143 | 68 => 142 | n => n,
  fun | 2 => 5 | 3 => 6 | n => n⟩
theorem lays32 : Lays7.n32 Tryd.prog lren := {
  mixed := (by kernel_rfl), f32 := Tryd.func49.trans (congrArg some (by kernel_rfl)), f49 := Tryd.func72.trans (congrArg some (by kernel_rfl)),
  t0 := Tryd.underlying0, a0 := Tryd.isAgg0, z0 := Tryd.sizeOf0, v0 := Tryd.zeroValue0, i0 := (by kernel_rfl),
  t3 := Tryd.underlying3, a3 := Tryd.isAgg3, z3 := Tryd.sizeOf3, v3 := Tryd.zeroValue3, i3 := (by kernel_rfl),
  t4 := Tryd.underlying4, a4 := Tryd.isAgg4, z4 := Tryd.sizeOf4, v4 := Tryd.zeroValue4, i4 := (by kernel_rfl),
  t5 := Tryd.underlying5, a5 := Tryd.isAgg5, z5 := Tryd.sizeOf5, v5 := Tryd.zeroValue5, i5 := (by kernel_rfl),
  t21 := Tryd.underlying21, a21 := Tryd.isAgg21, z21 := Tryd.sizeOf21, v21 := Tryd.zeroValue21, i21 := (by kernel_rfl),
  t25 := Tryd.underlying53, a25 := Tryd.isAgg53, z25 := Tryd.sizeOf53, v25 := Tryd.zeroValue53, i25 := (by kernel_rfl),
  t30 := Tryd.underlying46, a30 := Tryd.isAgg46, z30 := Tryd.sizeOf46, v30 := Tryd.zeroValue46, i30 := (by kernel_rfl),
  t33 := Tryd.underlying79, a33 := Tryd.isAgg79, z33 := Tryd.sizeOf79, v33 := Tryd.zeroValue79, i33 := (by kernel_rfl),
  t66 := Tryd.underlying140, a66 := Tryd.isAgg140, z66 := Tryd.sizeOf140,
  t68 := Tryd.underlying142, a68 := Tryd.isAgg142, z68 := Tryd.sizeOf142, v68 := Tryd.zeroValue142, i68 := (by kernel_rfl),
  t69 := Tryd.underlying143, a69 := Tryd.isAgg143, z69 := Tryd.sizeOf143, v69 := Tryd.zeroValue143, i69 := (by kernel_rfl),
  g2 := (by kernel_rfl), g3 := (by kernel_rfl) }
/-- The numbers of the tables' types and variables in this dump. -/
def tren : Ren := ⟨fun x => x, fun x => if x = 5 then 5 else if x = 119 then 140 else if x = 138 then 142 else 143, fun x => if x = 3 then 5 else 6⟩
theorem tty : U8Types Tryd.prog tren := ⟨Tryd.underlying5, Tryd.underlying140, Tryd.underlying142, Tryd.underlying143⟩
theorem tex : U8Extra Tryd.prog tren := ⟨by kernel_rfl, by kernel_rfl, by kernel_rfl, by kernel_rfl, by kernel_rfl, by kernel_rfl, by kernel_rfl⟩
/-- What the tables hold. -/
def Tabs (w : World) : Prop := Lib.Utf8Tabs 5 6 w
theorem accept_eq : Rows.laid_unicode_utf8_acceptRanges = acceptData := by kernel_rfl
theorem tabs_of {laid : List (String × DataW Unit)} {w : World} (h : laidMet Tryd.prog laid w)
    (h1 : ("unicode/utf8.first", Rows.laid_unicode_utf8_first) ∈ laid) (h2 : ("unicode/utf8.acceptRanges", Rows.laid_unicode_utf8_acceptRanges) ∈ laid) : Tabs w :=
  utf8Tabs_of_readsT tty tex (Pinned.utf8First_eq ▸ Lib.laidMet.reads h h1) (accept_eq ▸ Lib.laidMet.reads h h2)
theorem Tabs.below {w w' : World} (h : Tabs w) (hb : Below w.heap.size w w') : Tabs w' :=
  ⟨fun c hc => (hb.cell (World.block_lt_of_cell? w _ (h.1 c hc))).trans (h.1 c hc), fun i hi => ⟨(hb.cell (World.block_lt_of_cell? w _ (h.2 i hi).1)).trans (h.2 i hi).1, (hb.cell (World.block_lt_of_cell? w _ (h.2 i hi).2)).trans (h.2 i hi).2⟩⟩
theorem decode_any (s : ByteArray) (b off cap : Nat) (w : World) (hT : Tabs w) (hp : ∀ j, j < s.size → w.cell? ⟨b, off + j, none⟩ = some (.int .u8 (s.get! j).toNat)) :
    Calls Tryd.prog 49 #[.slice (some ⟨b, off, none⟩) s.size cap] w fun e w' => e = .returned (.tuple #[.int .i32 (Lib.decodeGo s).1, .int .i64 (Lib.decodeGo s).2]) ∧ Below w.heap.size w w' :=
  Any7.utf8_DecodeRune lays32 s b off cap w hT hp
end YtbnnjjilkpdanaaDoor
end Go.Proofs
