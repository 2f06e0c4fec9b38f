/- The walk of the law FnPointerThere. -/
import Derived.Test.YtbnnjjilkpdanaaTl
import Derived.Test.YtbnnjjilkpdanaaTh
import Derived.Test.YtbnnjjilkpdanaaPt
import Derived.Test.YtbnnjjilkpdanaaLFnPointerValid
namespace Go.Proofs.Ytbnnjjilkpdanaa
open Go.RowKit
set_option linter.unusedVariables false

theorem text_is (s : ByteArray) (r : Bool) (hr : Hid (textF s s.size 0 = r)) (w : World) (hs : s.size ≤ maxLen) :
    Calls Try.prog 15 #[.string s] w fun e w' => e = .returned (.bool r) ∧ w' = w := by rw [← hr.out]; exact isText_any s w hs

set_option maxRecDepth 100000 in
set_option maxHeartbeats 4000000 in
theorem walk_FnPointerThere (a0 : ByteArray) (a1 : ByteArray) (w0 : a0.size ≤ maxLen) (w1 : a1.size ≤ maxLen) (w : World) :
    Calls Try.prog 5 #[.string a0, .string a1] w fun e w' => e = .returned (.bool true) ∧ Below w.heap.size w w' := by
  have hs0 := w0
  have hs1 := w1
  unfold maxLen at hs0 hs1
  have hba : Below w.heap.size w (w.alloc (.cells #[.string a0] 9)) := (Below.refl _ _).alloc (Nat.le_refl _) _
  have hbb : Below w.heap.size w ((w.alloc (.cells #[.string a0] 9)).alloc (.cells #[.string a1] 9)) := hba.alloc hba.size _
  have hS1 : Strs ((w.alloc (.cells #[.string a0] 9)).alloc (.cells #[.string a1] 9)) (w.heap.size + 1) [a1] := by
    have := strs1 (w.alloc (.cells #[.string a0] 9)) a1 9
    rwa [World.size_alloc] at this
  by_cases hz0 : 2147483647 < (a0.size : Int)
  · go_enter Try.func5, Try.ntmps5
    go_wp2_with fail
    all_goals go_ret
    exact ⟨rfl, Below.refl _ _⟩
  by_cases hz1 : 2147483647 < (a1.size : Int)
  · go_enter Try.func5, Try.ntmps5
    go_wp2_with fail
    all_goals go_ret
    exact ⟨rfl, Below.refl _ _⟩
  obtain ⟨r0, hr0⟩ : ∃ r, Hid (ptrsB [a0] = r) := ⟨_, Lib.hid rfl⟩
  obtain ⟨r1, hr1⟩ : ∃ r, Hid (decide (a1.size ≤ 4000) = r) := ⟨_, Lib.hid rfl⟩
  obtain ⟨t1, ht1⟩ : ∃ r, Hid (textF a1 a1.size 0 = r) := ⟨_, Lib.hid rfl⟩
  cases r0
  · go_enter Try.func5, Try.ntmps5
    go_wp2_with fail
    refine (ptrs1 a0 _ _ false hr0 (strs1 _ _ _) w0).mono ?_
    rintro e wa ⟨rfl, hwa⟩
    obtain rfl := hwa.symm
    go_wp2_with fail
    all_goals go_ret
    exact ⟨rfl, hba⟩
  cases r1
  · go_enter Try.func5, Try.ntmps5
    go_wp2_with fail
    refine (ptrs1 a0 _ _ true hr0 (strs1 _ _ _) w0).mono ?_
    rintro e wa ⟨rfl, hwa⟩
    obtain rfl := hwa.symm
    go_wp2_with fail
    refine (short1 a1 _ _ false hr1 hS1 w1).mono ?_
    rintro e wb ⟨rfl, hwb⟩
    obtain rfl := hwb.symm
    go_wp2_with fail
    all_goals go_ret
    exact ⟨rfl, hbb⟩
  cases t1
  · go_enter Try.func5, Try.ntmps5
    go_wp2_with fail
    refine (ptrs1 a0 _ _ true hr0 (strs1 _ _ _) w0).mono ?_
    rintro e wa ⟨rfl, hwa⟩
    obtain rfl := hwa.symm
    go_wp2_with fail
    refine (short1 a1 _ _ true hr1 hS1 w1).mono ?_
    rintro e wb ⟨rfl, hwb⟩
    obtain rfl := hwb.symm
    go_wp2_with fail
    refine (text_is a1 false ht1 _ w1).mono ?_
    rintro e wc ⟨rfl, hwc⟩
    obtain rfl := hwc.symm
    go_wp2_with fail
    all_goals go_ret
    exact ⟨rfl, hbb⟩
  have h := hr0.out
  unfold ptrsB at h
  simp only [List.all_cons, List.all_nil, Bool.and_true, Bool.and_eq_true, decide_eq_true_eq] at h
  have hl1 : a1.size ≤ 4000 := by simpa using hr1.out
  have hl0 := h.1
  have hE8 : By8 (bl a0 ++ [47] ++ (bl a1).flatMap escP) := ((bl_by8 a0).app (by intro x hx; simp at hx; omega)).app (esc_by (bl_by8 a1))
  have hAP := fun w => append_any a0 a1 w (by omega) (by omega) ht1.out
  obtain ⟨X, hX⟩ : ∃ X, txt (bl a0 ++ [47] ++ (bl a1).flatMap escP) = X := ⟨_, rfl⟩
  have hbX : bl X = bl a0 ++ [47] ++ (bl a1).flatMap escP := by rw [← hX, bl_txt hE8]
  have hXz : X.size = a0.size + 1 + ((bl a1).flatMap escP).length := by rw [← bl_len, hbX]; simp [bl_len]; omega
  have hel := esc_len (bl a1)
  rw [bl_len] at hel
  obtain ⟨L1, L2, L3⟩ := longer_is h.2 ht1.out hbX
  have hXm : X.size ≤ maxLen := by unfold maxLen; omega
  have hIV := fun w => isValid_any X w hXm
  rw [L1] at hIV
  have hLA := fun w => last_any X w (by omega) (by rw [L2]; omega) (by
    rw [L2, bAt_bl hbX a0.size (by simp [bl_len])]
    rw [List.getElem_append_left (by simp [bl_len]), List.getElem_append_right (by rw [bl_len]; exact Nat.le_refl _)]
    simp [bl_len])
  have hT : txt (repP 48 126 (repP 49 47 (bl (X.extract (lastSl X X.size + 1) X.size)))) = a1 := by
    have hd : bl (X.extract (a0.size + 1) X.size) = (bl a1).flatMap escP := by
      rw [bl_sub X (a0.size + 1) X.size (Nat.le_refl _) (by omega)]
      have := sub_all X
      rw [hbX, ← sub_app X (j := 0) (m := a0.size + 1) (k := X.size) (Nat.zero_le _) (by omega)] at this
      exact (List.append_inj this (by rw [sub_len]; simp [bl_len])).2
    rw [L2, hd, rep_esc, txt_bl]
  rw [hT] at hLA
  have hPA := fun w => parent_any X w hXm
  rw [L2, L3] at hPA
  rw [hX] at hAP
  clear L1 L2 L3 hT hXm hXz hbX hE8 hel h hX hl0 hl1 hs0 hs1
  go_enter Try.func5, Try.ntmps5
  go_wp2_with fail
  refine (ptrs1 a0 _ _ true hr0 (strs1 _ _ _) w0).mono ?_
  rintro e wa ⟨rfl, hwa⟩
  obtain rfl := hwa.symm
  go_wp2_with fail
  refine (short1 a1 _ _ true hr1 hS1 w1).mono ?_
  rintro e wb ⟨rfl, hwb⟩
  obtain rfl := hwb.symm
  go_wp2_with fail
  refine (text_is a1 true ht1 _ w1).mono ?_
  rintro e wc ⟨rfl, hwc⟩
  obtain rfl := hwc.symm
  go_wp2_with fail
  refine (hAP _).mono ?_
  rintro e w3 ⟨rfl, h3⟩
  have g3 := bw2 hbb h3
  go_wp2_with fail
  refine (hIV _).mono ?_
  rintro e w4 ⟨rfl, h4⟩
  have g4 := bw2 g3 h4
  go_wp2_with fail
  refine (hLA _).mono ?_
  rintro e w5 ⟨rfl, h5⟩
  have g5 := bw2 g4 h5
  go_wp2_with fail
  refine (hPA _).mono ?_
  rintro e w6 ⟨rfl, hw6⟩
  obtain rfl := hw6.symm
  go_wp2_with fail
  all_goals go_ret
  exact ⟨by first | rfl | simp, g5⟩
end Go.Proofs.Ytbnnjjilkpdanaa
