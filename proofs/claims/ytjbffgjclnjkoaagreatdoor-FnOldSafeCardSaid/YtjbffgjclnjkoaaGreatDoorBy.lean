/- Texts as bytes: what a conversion of a string lays, and how a walk reads it; the program's own conversion; short lists of strings. -/
import Derived.Test.YtjbffgjclnjkoaaGreatDoorR1
import Derived.Lib.ConvBytes
import Derived.Lib.SlBytesRow
namespace Go.Proofs.YtjbffgjclnjkoaaGreatDoor
set_option linter.unusedVariables false
set_option linter.unusedSimpArgs false
open Go.RowKit

/-- Behind '[]byte(s)': a new row that holds the bytes; all else as it was. -/
structure Conv (w w1 : World) (s : ByteArray) (cap : Nat) : Prop where
  bytes : Lib.Bytes w1 w.heap.size 0 s
  below : Below w.heap.size w w1
  size : w1.heap.size = w.heap.size + 1
  cap_ge : s.size ≤ cap
  cap_le : s.size ≤ maxLen → cap ≤ maxLen
  row : ∃ cur e, w1.heap[w.heap.size]? = some (.cells cur e (cur.size, cur.size + 1)) ∧ cur.size = cap

theorem conv_any {P : Program} (src dst e : TypeId) (hs : P.underlying src = some .string) (hd : P.underlying dst = some (.slice e)) (he : P.underlying e = some (.int .u8)) (s : ByteArray) (w : World) :
    ∃ cap w1, (convert src dst (.string s)).run P w = .ok (.slice (some ⟨w.heap.size, 0, none⟩) s.size cap) w1 ∧ Conv w w1 s cap := by
  refine ⟨_, _, Lib.run_convert_string_bytes w src dst e s hs hd he, ⟨fun i hi => ?_, ⟨?_, ?_, ?_, ?_, fun k hk => Lib.bytesWorld_at_old _ _ _ _ hk⟩, Lib.bytesWorld_size _ _ _, grownCap_ge _ _ _ _, fun h => grownCap_le_maxLen _ _ _ _ h, ⟨_, _, Lib.bytesWorld_at_new _ _ _, ?_⟩⟩⟩
  · rw [Nat.zero_add, Lib.bytesWorld_cell _ _ _ _ hi]
    have : s.data.toList.getD i 0 = s[i] := by
      rw [List.getD_eq_getElem?_getD, List.getElem?_eq_getElem (by simpa using hi)]
      rfl
    rw [this]
  · unfold Lib.bytesWorld World.freeze; split <;> rfl
  · unfold Lib.bytesWorld World.freeze; split <;> rfl
  · unfold Lib.bytesWorld World.freeze; split <;> rfl
  · rw [Lib.bytesWorld_size]; omega
  · unfold Lib.bytesCells
    have := grownCap_ge w s.size 0 e
    simp
    omega

theorem convB (s : ByteArray) (w : World) :
    ∃ cap w1, (convert 9 54 (.string s)).run Tryz.prog w = .ok (.slice (some ⟨w.heap.size, 0, none⟩) s.size cap) w1 ∧ Conv w w1 s cap :=
  conv_any 9 54 5 Tryz.underlying9 Tryz.underlying54 Tryz.underlying5 s w

/-- The cell of a byte, as a walk wants it. -/
theorem bcell {w : World} {b o : Nat} {s : ByteArray} (h : Lib.Bytes w b o s) {i : Nat} (hi : i < s.size) : w.cell? ⟨b, o + i, none⟩ = some (.int .u8 (s[i].toNat : Int)) := h i hi
theorem bcell0 {w : World} {b : Nat} {s : ByteArray} (h : Lib.Bytes w b 0 s) {i : Nat} (hi : i < s.size) : w.cell? ⟨b, i, none⟩ = some (.int .u8 (s[i].toNat : Int)) := by
  have := h i hi; rwa [Nat.zero_add] at this

/-- Where white space ends. -/
def spEnd (s : ByteArray) : Nat → Nat → Nat
  | 0, i => i
  | n + 1, i => if i < s.size ∧ isSp (bAt s i) = true then spEnd s n (i + 1) else i

theorem space_eq (s : ByteArray) : ∀ (n : Nat) (σ : St), St.space s n σ = { σ with at_ := spEnd s n σ.at_ }
  | 0, σ => rfl
  | n + 1, σ => by
    unfold St.space spEnd
    split
    · exact space_eq s n _
    · rfl
theorem spEnd_le (s : ByteArray) : ∀ (n i : Nat), i ≤ s.size → i ≤ spEnd s n i ∧ spEnd s n i ≤ s.size
  | 0, i, h => ⟨Nat.le_refl _, h⟩
  | n + 1, i, h => by
    unfold spEnd
    split
    · have := spEnd_le s n (i + 1) (by omega); omega
    · exact ⟨Nat.le_refl _, h⟩

end Go.Proofs.YtjbffgjclnjkoaaGreatDoor
