/- The two tables of unicode/utf8 as a row's list lays them, and DecodeRune over them. -/
import Derived.Test.YtokhmhbjbclcoaaDoorRows
import Derived.WalkKit
import Derived.ProofKit
import Derived.Shelf.Spec.DecodeRune
import Derived.Lib.LaidU8T
import Derived.PinnedBridge
import Derived.Lay
namespace Go.Proofs
set_option linter.unusedVariables false
set_option linter.unusedSimpArgs false
open Go.Shelf Go.Lib
namespace YtokhmhbjbclcoaaDoor
open Go.RowKit
/-- The numbers of DecodeRune's text in this dump, and that its text is the one of the library. -/
def lren : Ren := ⟨fun | 32 => 60 | 49 => 80 | n => n,
  fun | 30 => 46 | 21 => 21 | 3 => 3 | 0 => 0 | 5 => 5 | 4 => 4 | 33 => 108 | 66 => 144 | 25 => 65 | 69 => 147 | 68 => 146 | n => n,
  fun | 2 => 3 | 3 => 4 | n => n⟩
theorem lays32 : Lays7.n32 Tryd.prog lren := {
  mixed := (by kernel_rfl), f32 := Tryd.func60.trans (congrArg some (by kernel_rfl)), f49 := Tryd.func80.trans (congrArg some (by kernel_rfl)),
  t0 := Tryd.underlying0, a0 := Tryd.isAgg0, z0 := Tryd.sizeOf0, v0 := Tryd.zeroValue0, i0 := (by kernel_rfl),
  t3 := Tryd.underlying3, a3 := Tryd.isAgg3, z3 := Tryd.sizeOf3, v3 := Tryd.zeroValue3, i3 := (by kernel_rfl),
  t4 := Tryd.underlying4, a4 := Tryd.isAgg4, z4 := Tryd.sizeOf4, v4 := Tryd.zeroValue4, i4 := (by kernel_rfl),
  t5 := Tryd.underlying5, a5 := Tryd.isAgg5, z5 := Tryd.sizeOf5, v5 := Tryd.zeroValue5, i5 := (by kernel_rfl),
  t21 := Tryd.underlying21, a21 := Tryd.isAgg21, z21 := Tryd.sizeOf21, v21 := Tryd.zeroValue21, i21 := (by kernel_rfl),
  t25 := Tryd.underlying65, a25 := Tryd.isAgg65, z25 := Tryd.sizeOf65, v25 := Tryd.zeroValue65, i25 := (by kernel_rfl),
  t30 := Tryd.underlying46, a30 := Tryd.isAgg46, z30 := Tryd.sizeOf46, v30 := Tryd.zeroValue46, i30 := (by kernel_rfl),
  t33 := Tryd.underlying108, a33 := Tryd.isAgg108, z33 := Tryd.sizeOf108, v33 := Tryd.zeroValue108, i33 := (by kernel_rfl),
  t66 := Tryd.underlying144, a66 := Tryd.isAgg144, z66 := Tryd.sizeOf144,
  t68 := Tryd.underlying146, a68 := Tryd.isAgg146, z68 := Tryd.sizeOf146, v68 := Tryd.zeroValue146, i68 := (by kernel_rfl),
  t69 := Tryd.underlying147, a69 := Tryd.isAgg147, z69 := Tryd.sizeOf147, v69 := Tryd.zeroValue147, i69 := (by kernel_rfl),
  g2 := (by kernel_rfl), g3 := (by kernel_rfl) }
/-- The numbers of the tables' types and variables in this dump. -/
def tren : Ren := ⟨fun x => x, fun x => if x = 5 then 5 else if x = 119 then 144 else if x = 138 then 146 else 147, fun x => if x = 3 then 3 else 4⟩
theorem tty : U8Types Tryd.prog tren := ⟨Tryd.underlying5, Tryd.underlying144, Tryd.underlying146, Tryd.underlying147⟩
theorem tex : U8Extra Tryd.prog tren := ⟨by kernel_rfl, by kernel_rfl, by kernel_rfl, by kernel_rfl, by kernel_rfl, by kernel_rfl, by kernel_rfl⟩
/-- What the tables hold. -/
def Tabs (w : World) : Prop := Lib.Utf8Tabs 3 4 w
theorem accept_eq : Rows.laid_unicode_utf8_acceptRanges = acceptData := by kernel_rfl
theorem tabs_of {laid : List (String × DataW Unit)} {w : World} (h : laidMet Tryd.prog laid w)
    (h1 : ("unicode/utf8.first", Rows.laid_unicode_utf8_first) ∈ laid) (h2 : ("unicode/utf8.acceptRanges", Rows.laid_unicode_utf8_acceptRanges) ∈ laid) : Tabs w :=
  utf8Tabs_of_readsT tty tex (Pinned.utf8First_eq ▸ Lib.laidMet.reads h h1) (accept_eq ▸ Lib.laidMet.reads h h2)
theorem Tabs.below {w w' : World} (h : Tabs w) (hb : Below w.heap.size w w') : Tabs w' :=
  ⟨fun c hc => (hb.cell (World.block_lt_of_cell? w _ (h.1 c hc))).trans (h.1 c hc), fun i hi => ⟨(hb.cell (World.block_lt_of_cell? w _ (h.2 i hi).1)).trans (h.2 i hi).1, (hb.cell (World.block_lt_of_cell? w _ (h.2 i hi).2)).trans (h.2 i hi).2⟩⟩
theorem decode_any (s : ByteArray) (b off cap : Nat) (w : World) (hT : Tabs w) (hp : ∀ j, j < s.size → w.cell? ⟨b, off + j, none⟩ = some (.int .u8 (s.get! j).toNat)) :
    Calls Tryd.prog 60 #[.slice (some ⟨b, off, none⟩) s.size cap] w fun e w' => e = .returned (.tuple #[.int .i32 (Lib.decodeGo s).1, .int .i64 (Lib.decodeGo s).2]) ∧ Below w.heap.size w w' :=
  Any7.utf8_DecodeRune lays32 s b off cap w hT hp
end YtokhmhbjbclcoaaDoor
end Go.Proofs
