/- The walk of the law FnOldQuoteEscape. -/
import Derived.Test.YtbnnjjilkpdanaaDoorOw
import Derived.Test.YtbnnjjilkpdanaaDoorOi
import Derived.Test.YtbnnjjilkpdanaaDoorSt
namespace Go.Proofs.YtbnnjjilkpdanaaDoor
open Go.RowKit
set_option linter.unusedVariables false

theorem bwO {w a b : World} (h : Below w.heap.size w a) (k : Below a.heap.size a b) : Below w.heap.size w b := Below.trans h (Below.mono k h.size)
set_option maxRecDepth 100000 in
set_option maxHeartbeats 4000000 in
theorem oldQuote_any (a s : ByteArray) (html : Bool) (w : World) (ha : a.size ≤ 100000000000) (hs : s.size ≤ 100000000000) (hT : TabsB w.heap.size w) (hF : SafeB w.heap.size w) :
    Calls Tryd.prog 20 #[.string a, .string s, .bool html] w fun e w' => e = .returned (.string (txt (bl a ++ [34] ++ oO html s s.size 0 ++ [34]))) ∧ Below w.heap.size w w' := by
  obtain ⟨c1, w1, hc1, C1⟩ := cnvB a (by unfold maxLen; omega) w
  have hO := oldW html w.heap.size _ (bl a) s w1 C1.bs C1.below.size hs (by rw [bl_len]; omega) (hT.below C1.below) (hF.below C1.below)
  have hb1 := C1.below
  have hbs := C1.bs
  have hsz := C1.below.size
  obtain ⟨m, hm⟩ : ∃ m, a.size = m := ⟨_, rfl⟩
  rw [hm] at hc1 hO hbs
  generalize bl a ++ [34] ++ oO html s s.size 0 ++ [34] = R at hO ⊢
  clear C1 hm ha hs
  go_enter Tryd.func20, Tryd.ntmps20
  go_wp2_with (first | (go_at_call 58; refine hO.mono ?_; rintro e w3 ⟨v3, rfl, hb3, hA3⟩; have hcv := bs_str hb3) | (go_at_call 37; go_in))
  all_goals go_ret
  exact ⟨rfl, hb1.trans (hA3.below hbs hsz)⟩
set_option maxRecDepth 100000 in
set_option maxHeartbeats 4000000 in
theorem oldSafe_any (a s : ByteArray) (w : World) (ha : a.size ≤ 100000000000) (hs : s.size ≤ 100000000000) :
    Calls Tryd.prog 21 #[.string a, .string s] w fun e w' => e = .returned (.string (txt (bl a ++ heL (bl s)))) ∧ Below w.heap.size w w' := by
  obtain ⟨c1, w1, hc1, C1⟩ := cnvB a (by unfold maxLen; omega) w
  obtain ⟨c2, w2, hc2, C2⟩ := cnvB s (by unfold maxLen; omega) w1
  have hbs : Bs w2 w.heap.size _ (bl a) := C1.bs.below C2.below
  have hsz := Nat.le_trans C1.below.size C2.below.size
  have hO := htmlW w.heap.size _ (bl a) s w1.heap.size c2 w2 hbs hsz hs (by rw [bl_len]; omega) C2.cap_ge C2.cap_le C2.bytes (by
    intro e
    have e2 : w.heap.size = w1.heap.size := Option.some.inj e
    have := C1.size
    omega) (by have := C2.size; omega)
  have hb1 := bwO C1.below C2.below
  obtain ⟨m, hm⟩ : ∃ m, a.size = m := ⟨_, rfl⟩
  rw [hm] at hc1 hO hbs
  generalize bl a ++ heL (bl s) = R at hO ⊢
  clear C1 C2 hm ha hs
  go_enter Tryd.func21, Tryd.ntmps21
  go_wp2_with (first | (go_at_call 59; refine hO.mono ?_; rintro e w3 ⟨v3, rfl, hb3, hA3⟩; have hcv := bs_str hb3) | (go_at_call 38; go_in))
  all_goals go_ret
  exact ⟨rfl, hb1.trans (hA3.below hbs hsz)⟩
theorem oO_len (html : Bool) (s : ByteArray) : ∀ (g k : Nat), (oO html s g k).length ≤ 6 * g
  | 0, _ => by simp [oO]
  | g + 1, k => by
    rw [oO]
    split
    · have h1 := oC_len html s k
      have h2 := oO_len html s g (k + stepN s k)
      rw [List.length_append]; omega
    · simp
theorem escO_by {c : Int} (h0 : 0 ≤ c) (h1 : c < 128) : By8 (escO c) := by
  have a1 := hxD_by (n := c / 16) (by omega) (by omega)
  have a2 := hxD_by (n := c % 16) (by omega) (by omega)
  intro x hx
  unfold escO at hx
  repeat' split at hx
  all_goals simp at hx; omega
theorem oC_by (html : Bool) (s : ByteArray) (k : Nat) : By8 (oC html s k) := by
  have h0 := bAt_nonneg s k
  have h1 := bAt_le s k
  unfold oC
  by_cases h : bAt s k < 128
  · rw [if_pos h]
    split
    · intro x hx; simp at hx; omega
    · exact escO_by h0 h
  · rw [if_neg h]
    repeat' split
    all_goals first | exact sub_by s _ _ | (intro x hx; simp at hx; omega)
theorem oO_by (html : Bool) (s : ByteArray) : ∀ (g k : Nat), By8 (oO html s g k)
  | 0, _ => By8.nil
  | g + 1, k => by
    rw [oO]
    split
    · exact (oC_by html s k).app (oO_by html s g _)
    · exact By8.nil

set_option maxRecDepth 100000 in
set_option maxHeartbeats 4000000 in
theorem walk_FnOldQuoteEscape (a0 : ByteArray) (w0 : a0.size ≤ maxLen) (a1 : ByteArray) (w1 : a1.size ≤ maxLen) (w : World) (hT : TabsB w.heap.size w) (hF : SafeB w.heap.size w) :
    Calls Tryd.prog 6 #[.string a0, .string a1] w fun e w' => e = .returned (.bool true) ∧ Below w.heap.size w w' := by
  have hs0 := w0
  have hs1 := w1
  unfold maxLen at hs0 hs1
  have hba : Below w.heap.size w (w.alloc (.cells #[.string a0, .string a1] 9)) := (Below.refl _ _).alloc (Nat.le_refl _) _
  by_cases hz0 : 2147483647 < (a0.size : Int)
  · go_enter Tryd.func6, Tryd.ntmps6
    go_wp2_with fail
    all_goals go_ret
    exact ⟨rfl, Below.refl _ _⟩
  by_cases hz1 : 2147483647 < (a1.size : Int)
  · go_enter Tryd.func6, Tryd.ntmps6
    go_wp2_with fail
    all_goals go_ret
    exact ⟨rfl, Below.refl _ _⟩
  obtain ⟨r, hr⟩ : ∃ r, Hid ((decide (a0.size ≤ 1000) && decide (a1.size ≤ 1000)) = r) := ⟨_, Lib.hid rfl⟩
  cases r
  · go_enter Tryd.func6, Tryd.ntmps6
    go_wp2_with fail
    refine (f8two a0 a1 _ _ false hr (strs2 _ _ _ _) w0 w1).mono ?_
    rintro e wa ⟨rfl, hwa⟩
    obtain rfl := hwa.symm
    go_wp2_with fail
    all_goals go_ret
    exact ⟨rfl, hba⟩
  have hl : a0.size ≤ 1000 ∧ a1.size ≤ 1000 := by simpa using hr.out
  have hE : (ByteArray.mk #[]).size ≤ 100000000000 := by decide
  have hB8 : By8 (bl (ByteArray.mk #[]) ++ [34] ++ oO false a1 a1.size 0 ++ [34]) := by
    have h1 : By8 [(34 : Int)] := by intro x hx; simp at hx; omega
    exact (((bl_by8 _).app h1).app (oO_by false a1 _ _)).app h1
  have hP := fun {w'} (h : Below w.heap.size w w') => oldQuote_any (ByteArray.mk #[]) a1 false w' hE (by omega) ⟨(hT.below h).1, by have := hT.2; have := h.size; omega⟩ ⟨by have := hF.1; have := h.size; omega, (hF.below h).2⟩
  have hH := fun {w'} (h : Below w.heap.size w w') => oldQuote_any a0 a1 true w' (by omega) (by omega) ⟨(hT.below h).1, by have := hT.2; have := h.size; omega⟩ ⟨by have := hF.1; have := h.size; omega, (hF.below h).2⟩
  obtain ⟨X, hX⟩ : ∃ X, txt (bl (ByteArray.mk #[]) ++ [34] ++ oO false a1 a1.size 0 ++ [34]) = X := ⟨_, rfl⟩
  have hbX : bl X = [34] ++ oO false a1 a1.size 0 ++ [34] := by rw [← hX, bl_txt hB8]; rfl
  have hXz : X.size = 2 + (oO false a1 a1.size 0).length := by rw [← bl_len, hbX]; simp; omega
  have hol := oO_len false a1 a1.size 0
  have hSf := fun w' => oldSafe_any a0 X w' (by omega) (by omega)
  rw [hbX, he_quote, ← List.append_assoc, ← List.append_assoc] at hSf
  rw [hX] at hP
  have hX2 : (2 : Int) ≤ (X.size : Int) := by omega
  generalize txt (bl a0 ++ [34] ++ oO true a1 a1.size 0 ++ [34]) = Y at hH hSf
  clear hX hbX hXz hol hB8 hE hl hs0 hs1
  go_enter Tryd.func6, Tryd.ntmps6
  go_wp2_with fail
  refine (f8two a0 a1 _ _ true hr (strs2 _ _ _ _) w0 w1).mono ?_
  rintro e wa ⟨rfl, hwa⟩
  obtain rfl := hwa.symm
  go_wp2_with fail
  refine (hP hba).mono ?_
  rintro e w2 ⟨rfl, h2⟩
  have g2 := bwO hba h2
  go_wp2_with fail
  refine (hH g2).mono ?_
  rintro e w3 ⟨rfl, h3⟩
  have g3 := bwO g2 h3
  go_wp2_with fail
  refine (hSf _).mono ?_
  rintro e w4 ⟨rfl, h4⟩
  have g4 := bwO g3 h4
  go_wp2_with fail
  all_goals go_ret
  exact ⟨by first | rfl | simp, g4⟩
end Go.Proofs.YtbnnjjilkpdanaaDoor
