/- utf8.DecodeRuneInString over the tables. -/
import Derived.Test.YtbnnjjilkpdanaaDoorCu
import Derived.Shelf.Unicode.DecodeAny
namespace Go.Proofs
open Go.Shelf Go.Lib
namespace YtbnnjjilkpdanaaDoor
open Go.RowKit
/-- The numbers of its text in this dump, and that its text is the one of the library. -/
def sren : Ren := ⟨fun | 197 => 78 | 260 => 102 | n => n,
  fun | 0 => 0 | 3 => 3 | 4 => 4 | 5 => 5 | 9 => 9 | 21 => 21 | 46 => 53 | 105 => 79 | 119 => 140 | 138 => 142 | 139 => 143 | n => n,
  fun | 3 => 5 | 4 => 6 | n => n⟩
theorem lays197 : Lays.n197 Tryd.prog sren := {
  mixed := (by kernel_rfl), f197 := Tryd.func78.trans (congrArg some (by kernel_rfl)), f260 := Tryd.func102.trans (congrArg some (by kernel_rfl)),
  t0 := Tryd.underlying0, a0 := Tryd.isAgg0, z0 := Tryd.sizeOf0, v0 := Tryd.zeroValue0,
  t3 := Tryd.underlying3, a3 := Tryd.isAgg3, z3 := Tryd.sizeOf3, v3 := Tryd.zeroValue3,
  t4 := Tryd.underlying4, a4 := Tryd.isAgg4, z4 := Tryd.sizeOf4, v4 := Tryd.zeroValue4,
  t5 := Tryd.underlying5, a5 := Tryd.isAgg5, z5 := Tryd.sizeOf5, v5 := Tryd.zeroValue5,
  t9 := Tryd.underlying9, a9 := Tryd.isAgg9, z9 := Tryd.sizeOf9, v9 := Tryd.zeroValue9,
  t21 := Tryd.underlying21, a21 := Tryd.isAgg21, z21 := Tryd.sizeOf21, v21 := Tryd.zeroValue21,
  t46 := Tryd.underlying53, a46 := Tryd.isAgg53, z46 := Tryd.sizeOf53, v46 := Tryd.zeroValue53,
  t105 := Tryd.underlying79, a105 := Tryd.isAgg79, z105 := Tryd.sizeOf79, v105 := Tryd.zeroValue79,
  t119 := Tryd.underlying140, a119 := Tryd.isAgg140, z119 := Tryd.sizeOf140,
  t138 := Tryd.underlying142, a138 := Tryd.isAgg142, z138 := Tryd.sizeOf142, v138 := Tryd.zeroValue142,
  t139 := Tryd.underlying143, a139 := Tryd.isAgg143, z139 := Tryd.sizeOf143, v139 := Tryd.zeroValue143,
  g3 := (by kernel_rfl), g4 := (by kernel_rfl) }
theorem decodeN_min (n b0 b1 b2 b3 : Nat) : Lib.decodeN (min n 4) b0 b1 b2 b3 = Lib.decodeN n b0 b1 b2 b3 := by
  have c1 : (1 < min n 4) = (1 < n) := propext ⟨fun h => by omega, fun h => by omega⟩
  have c2 : (2 < min n 4) = (2 < n) := propext ⟨fun h => by omega, fun h => by omega⟩
  have c3 : (3 < min n 4) = (3 < n) := propext ⟨fun h => by omega, fun h => by omega⟩
  unfold Lib.decodeN
  simp only [c1, c2, c3]
/-- The character at a place of a text, read off the four bytes from there. -/
theorem decode_str (s : ByteArray) (k n : Nat) (w : World) (hk : k < s.size) (hn : n = min (s.size - k) 4) (hT : Tabs w) :
    Calls Tryd.prog 78 #[.string (s.extract k (k + n))] w fun e w' => e = .returned (.tuple #[.int .i32 (runeN s k), .int .i64 (stepN s k)]) ∧ Below w.heap.size w w' := by
  have hz : (s.extract k (k + n)).size = n := by rw [ByteArray.size_extract]; omega
  have hg : ∀ j, j < 4 → (s.extract k (k + n)).get! j = s.get! (k + j) := by
    intro j hj
    have h1 := get_bN (s.extract k (k + n)) j
    have h2 := get_bN s (k + j)
    apply UInt8.toNat_inj.1
    rw [h1, h2]
    unfold bN bAt
    by_cases h : j < n
    · rw [dif_pos (by omega), dif_pos (by omega), ByteArray.getElem_extract]
    · rw [dif_neg (by omega), dif_neg (by omega)]
  have h := Any.utf8_DecodeRuneInString lays197 (s.extract k (k + n)) w hT
  have e : Lib.decodeGo (s.extract k (k + n)) = (runeN s k, stepN s k) := by
    unfold Lib.decodeGo
    rw [if_neg (by omega), Lib.decode_at, hz, hg 0 (by omega), hg 1 (by omega), hg 2 (by omega), hg 3 (by omega), ← decode_uw s k hk, Lib.decode_at, Nat.sub_zero, hn, decodeN_min]
    rfl
  rw [e] at h
  exact h
end YtbnnjjilkpdanaaDoor
end Go.Proofs
