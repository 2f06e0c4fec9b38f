/- Texts as bytes: what a conversion of a string lays, and how a walk reads it; the program's own conversion; short lists of strings. -/
import Derived.Test.YtbjgbaffaognhaaRd5
import Derived.Lib.ConvBytes
import Derived.Lib.SlBytesRow
namespace Go.Proofs.Ytbjgbaffaognhaa
open Go.RowKit
set_option linter.unusedVariables false

/-- Behind '[]byte(s)': a new row that holds the bytes; all else as it was. -/
structure Conv (w w1 : World) (s : ByteArray) (cap : Nat) : Prop where
  bytes : Lib.Bytes w1 w.heap.size 0 s
  below : Below w.heap.size w w1
  size : w1.heap.size = w.heap.size + 1
  cap_ge : s.size ≤ cap
  cap_le : s.size ≤ maxLen → cap ≤ maxLen
  row : ∃ cur e, w1.heap[w.heap.size]? = some (.cells cur e (cur.size, cur.size + 1)) ∧ cur.size = cap

theorem conv_any {P : Program} (src dst e : TypeId) (hs : P.underlying src = some .string) (hd : P.underlying dst = some (.slice e)) (he : P.underlying e = some (.int .u8)) (s : ByteArray) (w : World) :
    ∃ cap w1, (convert src dst (.string s)).run P w = .ok (.slice (some ⟨w.heap.size, 0, none⟩) s.size cap) w1 ∧ Conv w w1 s cap := by
  refine ⟨_, _, Lib.run_convert_string_bytes w src dst e s hs hd he, ⟨fun i hi => ?_, ⟨?_, ?_, ?_, ?_, fun k hk => Lib.bytesWorld_at_old _ _ _ _ hk⟩, Lib.bytesWorld_size _ _ _, grownCap_ge _ _ _ _, fun h => grownCap_le_maxLen _ _ _ _ h, ⟨_, _, Lib.bytesWorld_at_new _ _ _, ?_⟩⟩⟩
  · rw [Nat.zero_add, Lib.bytesWorld_cell _ _ _ _ hi]
    have : s.data.toList.getD i 0 = s[i] := by
      rw [List.getD_eq_getElem?_getD, List.getElem?_eq_getElem (by simpa using hi)]
      rfl
    rw [this]
  · unfold Lib.bytesWorld World.freeze; split <;> rfl
  · unfold Lib.bytesWorld World.freeze; split <;> rfl
  · unfold Lib.bytesWorld World.freeze; split <;> rfl
  · rw [Lib.bytesWorld_size]; omega
  · unfold Lib.bytesCells
    have := grownCap_ge w s.size 0 e
    simp
    omega

theorem convB (s : ByteArray) (w : World) :
    ∃ cap w1, (convert 9 46 (.string s)).run Try.prog w = .ok (.slice (some ⟨w.heap.size, 0, none⟩) s.size cap) w1 ∧ Conv w w1 s cap :=
  conv_any 9 46 5 Try.underlying9 Try.underlying46 Try.underlying5 s w

/-- The cell of a byte, as a walk wants it. -/
theorem bcell {w : World} {b o : Nat} {s : ByteArray} (h : Lib.Bytes w b o s) {i : Nat} (hi : i < s.size) : w.cell? ⟨b, o + i, none⟩ = some (.int .u8 (s[i].toNat : Int)) := h i hi
theorem bcell0 {w : World} {b : Nat} {s : ByteArray} (h : Lib.Bytes w b 0 s) {i : Nat} (hi : i < s.size) : w.cell? ⟨b, i, none⟩ = some (.int .u8 (s[i].toNat : Int)) := by
  have := h i hi; rwa [Nat.zero_add] at this

/-- Where white space ends. -/
def spEnd (s : ByteArray) : Nat → Nat → Nat
  | 0, i => i
  | n + 1, i => if i < s.size ∧ isSp (bAt s i) = true then spEnd s n (i + 1) else i

theorem space_eq (s : ByteArray) : ∀ (n : Nat) (σ : St), St.space s n σ = { σ with at_ := spEnd s n σ.at_ }
  | 0, σ => rfl
  | n + 1, σ => by
    unfold St.space spEnd
    split
    · exact space_eq s n _
    · rfl
theorem spEnd_le (s : ByteArray) : ∀ (n i : Nat), i ≤ s.size → i ≤ spEnd s n i ∧ spEnd s n i ≤ s.size
  | 0, i, h => ⟨Nat.le_refl _, h⟩
  | n + 1, i, h => by
    unfold spEnd
    split
    · have := spEnd_le s n (i + 1) (by omega); omega
    · exact ⟨Nat.le_refl _, h⟩

/-- The library's own white space. -/
theorem consumeWs (s : ByteArray) (b cap : Nat) (w : World) (hB : Lib.Bytes w b 0 s) (hs : s.size ≤ maxLen) :
    Calls Try.prog 32 #[.slice (some ⟨b, 0, none⟩) s.size cap] w fun e w' => e = .returned (.int .i64 (spEnd s s.size 0)) ∧ w' = w := by
  unfold maxLen at hs
  have A0 : Aside (spEnd s s.size 0 = spEnd s s.size 0) := rfl
  obtain ⟨R, HR⟩ : ∃ R, R = spEnd s s.size 0 := ⟨_, rfl⟩
  rw [← HR] at A0 ⊢
  have A1 : Aside (spEnd s s.size 0 = R) := HR.symm
  clear A0 HR
  go_enter Try.func32, Try.ntmps32
  go_wp2
  go_loop [2] (fun n => ∃ k : Nat, k ≤ s.size ∧ n = .int .i64 k ∧ Aside (spEnd s (s.size - k) k = R)) (fun n => s.size - (intOf n).toNat)
  case atStart => exact ⟨0, Nat.zero_le _, rfl, A1⟩
  case round =>
    obtain ⟨k, hk, rfl, A⟩ := hrel
    by_cases hlt : k < s.size
    · have hc := bcell0 hB hlt
      have hb := bAt_lt hlt
      by_cases hsp : isSp (bAt s k) = true
      · have A' : Aside (spEnd s (s.size - (k + 1)) (k + 1) = R) := by
          have A0 : spEnd s (s.size - k) k = R := A
          rw [show s.size - k = (s.size - (k + 1)) + 1 by omega, spEnd, if_pos ⟨hlt, hsp⟩] at A0
          exact A0
        have hsp4 : s[k].toNat = 32 ∨ s[k].toNat = 9 ∨ s[k].toNat = 13 ∨ s[k].toNat = 10 := by
          rw [hb] at hsp; simp [isSp] at hsp; omega
        clear hb hsp A
        generalize hv : s[k].toNat = v at hc hsp4
        clear hv
        rcases hsp4 with rfl | rfl | rfl | rfl
        all_goals
          go_wp2
          go_round
          case rel => exact ⟨k + 1, by omega, by go_num, A'⟩
          case measure => simp [intOf]; omega
      · have E : Hid (k = R) := by
          have A0 : spEnd s (s.size - k) k = R := A
          rw [show s.size - k = (s.size - (k + 1)) + 1 by omega, spEnd, if_neg (fun h => hsp h.2)] at A0
          exact A0
        have h1 : ((s[k].toNat : Int) == 32) = false := by rw [hb] at hsp; simp [isSp] at hsp; simp; omega
        have h2 : ((s[k].toNat : Int) == 9) = false := by rw [hb] at hsp; simp [isSp] at hsp; simp; omega
        have h3 : ((s[k].toNat : Int) == 13) = false := by rw [hb] at hsp; simp [isSp] at hsp; simp; omega
        have h4 : ((s[k].toNat : Int) == 10) = false := by rw [hb] at hsp; simp [isSp] at hsp; simp; omega
        clear hb hsp A
        go_wp2
        go_ret
        exact ⟨ret_int (by rw [E.out]), rfl⟩
    · have E : Hid (k = R) := by
        have A0 : spEnd s (s.size - k) k = R := A
        rw [show s.size - k = 0 by omega] at A0
        exact A0
      clear A
      go_wp2
      go_ret
      exact ⟨ret_int (by rw [E.out]), rfl⟩
end Go.Proofs.Ytbjgbaffaognhaa
