/- The walk of the law FnCompareNames. -/
import Derived.Test.YtbnnjjilkpdanaaDoorUl
import Derived.Test.YtbnnjjilkpdanaaDoorBf
import Derived.Test.YtbnnjjilkpdanaaDoorUtx
import Derived.Test.YtbnnjjilkpdanaaDoorSt
namespace Go.Proofs.YtbnnjjilkpdanaaDoor
open Go.RowKit
set_option linter.unusedVariables false

theorem text_at2 (s : ByteArray) (r : Bool) (hr : Hid (textF s s.size 0 = r)) (w : World) (hs : s.size ≤ maxLen) :
    Calls Tryd.prog 13 #[.string s] w fun e w' => e = .returned (.bool r) ∧ w' = w := by rw [← hr.out]; exact isText_any s w hs
theorem ord3_cases {R : Int} {p q : Bool} (h : Ord3 R p q) : (R < 0 ∧ p = true ∧ q = false) ∨ (R = 0 ∧ p = false ∧ q = false) ∨ (0 < R ∧ p = false ∧ q = true) := by
  obtain ⟨rfl, rfl⟩ := h
  by_cases h1 : R < 0
  · exact Or.inl ⟨h1, by simp [h1], by simp; omega⟩
  · by_cases h2 : R = 0
    · exact Or.inr (Or.inl ⟨h2, by simp [h1], by simp; omega⟩)
    · exact Or.inr (Or.inr ⟨by omega, by simp [h1], by simp; omega⟩)

set_option maxRecDepth 100000 in
set_option maxHeartbeats 4000000 in
theorem walk_FnCompareNames (a0 : ByteArray) (w0 : a0.size ≤ maxLen) (a1 : ByteArray) (w1 : a1.size ≤ maxLen) (w : World) (hT : TabsB w.heap.size w) :
    Calls Tryd.prog 4 #[.string a0, .string a1] w fun e w' => e = .returned (.bool true) ∧ Below w.heap.size w w' := by
  have hs0 := w0
  have hs1 := w1
  unfold maxLen at hs0 hs1
  have hba : Below w.heap.size w (w.alloc (.cells #[.string a0, .string a1] 9)) := (Below.refl _ _).alloc (Nat.le_refl _) _
  by_cases hz0 : 2147483647 < (a0.size : Int)
  · go_enter Tryd.func4, Tryd.ntmps4
    go_wp2_with fail
    all_goals go_ret
    exact ⟨rfl, Below.refl _ _⟩
  by_cases hz1 : 2147483647 < (a1.size : Int)
  · go_enter Tryd.func4, Tryd.ntmps4
    go_wp2_with fail
    all_goals go_ret
    exact ⟨rfl, Below.refl _ _⟩
  obtain ⟨r, hr⟩ : ∃ r, Hid ((decide (a0.size ≤ 1000) && decide (a1.size ≤ 1000)) = r) := ⟨_, Lib.hid rfl⟩
  obtain ⟨t0, ht0⟩ : ∃ r, Hid (textF a0 a0.size 0 = r) := ⟨_, Lib.hid rfl⟩
  obtain ⟨t1, ht1⟩ : ∃ r, Hid (textF a1 a1.size 0 = r) := ⟨_, Lib.hid rfl⟩
  cases r
  · go_enter Tryd.func4, Tryd.ntmps4
    go_wp2_with fail
    refine (f8two a0 a1 _ _ false hr (strs2 _ _ _ _) w0 w1).mono ?_
    rintro e wa ⟨rfl, hwa⟩
    obtain rfl := hwa.symm
    go_wp2_with fail
    all_goals go_ret
    exact ⟨rfl, hba⟩
  have hl : a0.size ≤ 1000 ∧ a1.size ≤ 1000 := by simpa using hr.out
  cases t0
  · go_enter Tryd.func4, Tryd.ntmps4
    go_wp2_with fail
    refine (f8two a0 a1 _ _ true hr (strs2 _ _ _ _) w0 w1).mono ?_
    rintro e wa ⟨rfl, hwa⟩
    obtain rfl := hwa.symm
    go_wp2_with fail
    refine (text_at2 a0 false ht0 _ w0).mono ?_
    rintro e wa ⟨rfl, hwa⟩
    obtain rfl := hwa.symm
    go_wp2_with fail
    all_goals go_ret
    exact ⟨rfl, hba⟩
  cases t1
  · go_enter Tryd.func4, Tryd.ntmps4
    go_wp2_with fail
    refine (f8two a0 a1 _ _ true hr (strs2 _ _ _ _) w0 w1).mono ?_
    rintro e wa ⟨rfl, hwa⟩
    obtain rfl := hwa.symm
    go_wp2_with fail
    refine (text_at2 a0 true ht0 _ w0).mono ?_
    rintro e wa ⟨rfl, hwa⟩
    obtain rfl := hwa.symm
    go_wp2_with fail
    refine (text_at2 a1 false ht1 _ w1).mono ?_
    rintro e wa ⟨rfl, hwa⟩
    obtain rfl := hwa.symm
    go_wp2_with fail
    all_goals go_ret
    exact ⟨rfl, hba⟩
  have hO := ord3_cases (cmp_text a0 a1 ht0.out ht1.out)
  have hN := fun w' (h : Tabs w') => names_any a0 a1 w' w0 w1 h
  have hP := fun w' => before_any a0 a1 w' (by omega) (by omega) ht0.out ht1.out
  have hQ := fun w' => before_any a1 a0 w' (by omega) (by omega) ht1.out ht0.out
  have T0 := hT.1.below hba
  generalize cmpU a0 a1 (a0.size + 1) 0 0 = R at *
  generalize lexB (unitsL a0 a0.size 0) (unitsL a1 a1.size 0) = p at *
  generalize lexB (unitsL a1 a1.size 0) (unitsL a0 a0.size 0) = q at *
  clear hl hT
  rcases hO with ⟨hR, rfl, rfl⟩ | ⟨rfl, rfl, rfl⟩ | ⟨hR, rfl, rfl⟩
  · have hR2 : ¬ 0 < R := by omega
    go_enter Tryd.func4, Tryd.ntmps4
    go_wp2_with fail
    refine (f8two a0 a1 _ _ true hr (strs2 _ _ _ _) w0 w1).mono ?_
    rintro e wa ⟨rfl, hwa⟩
    obtain rfl := hwa.symm
    go_wp2_with fail
    refine (text_at2 a0 true ht0 _ w0).mono ?_
    rintro e wa ⟨rfl, hwa⟩
    obtain rfl := hwa.symm
    go_wp2_with fail
    refine (text_at2 a1 true ht1 _ w1).mono ?_
    rintro e wa ⟨rfl, hwa⟩
    obtain rfl := hwa.symm
    go_wp2_with fail
    refine (hN _ T0).mono ?_
    rintro e w2 ⟨rfl, h2⟩
    have g2 := bw' hba h2
    go_wp2_with fail
    refine (hP _).mono ?_
    rintro e w3 ⟨rfl, h3⟩
    have g3 := bw' g2 h3
    go_wp2_with fail
    refine (hQ _).mono ?_
    rintro e w4 ⟨rfl, h4⟩
    have g4 := bw' g3 h4
    go_wp2_with fail
    all_goals go_ret
    exact ⟨by first | rfl | (simp [decide_eq_false hR2]; done) | (simp [hR2]), g4⟩
  · go_enter Tryd.func4, Tryd.ntmps4
    go_wp2_with fail
    refine (f8two a0 a1 _ _ true hr (strs2 _ _ _ _) w0 w1).mono ?_
    rintro e wa ⟨rfl, hwa⟩
    obtain rfl := hwa.symm
    go_wp2_with fail
    refine (text_at2 a0 true ht0 _ w0).mono ?_
    rintro e wa ⟨rfl, hwa⟩
    obtain rfl := hwa.symm
    go_wp2_with fail
    refine (text_at2 a1 true ht1 _ w1).mono ?_
    rintro e wa ⟨rfl, hwa⟩
    obtain rfl := hwa.symm
    go_wp2_with fail
    refine (hN _ T0).mono ?_
    rintro e w2 ⟨rfl, h2⟩
    have g2 := bw' hba h2
    go_wp2_with fail
    refine (hP _).mono ?_
    rintro e w3 ⟨rfl, h3⟩
    have g3 := bw' g2 h3
    go_wp2_with fail
    refine (hQ _).mono ?_
    rintro e w4 ⟨rfl, h4⟩
    have g4 := bw' g3 h4
    go_wp2_with fail
    all_goals go_ret
    exact ⟨by first | rfl | (simp [decide_eq_false hR2]; done) | (simp [hR2]), g4⟩
  · have hR2 : ¬ R < 0 := by omega
    go_enter Tryd.func4, Tryd.ntmps4
    go_wp2_with fail
    refine (f8two a0 a1 _ _ true hr (strs2 _ _ _ _) w0 w1).mono ?_
    rintro e wa ⟨rfl, hwa⟩
    obtain rfl := hwa.symm
    go_wp2_with fail
    refine (text_at2 a0 true ht0 _ w0).mono ?_
    rintro e wa ⟨rfl, hwa⟩
    obtain rfl := hwa.symm
    go_wp2_with fail
    refine (text_at2 a1 true ht1 _ w1).mono ?_
    rintro e wa ⟨rfl, hwa⟩
    obtain rfl := hwa.symm
    go_wp2_with fail
    refine (hN _ T0).mono ?_
    rintro e w2 ⟨rfl, h2⟩
    have g2 := bw' hba h2
    go_wp2_with fail
    refine (hP _).mono ?_
    rintro e w3 ⟨rfl, h3⟩
    have g3 := bw' g2 h3
    go_wp2_with fail
    refine (hQ _).mono ?_
    rintro e w4 ⟨rfl, h4⟩
    have g4 := bw' g3 h4
    go_wp2_with fail
    all_goals go_ret
    exact ⟨by first | rfl | (simp [decide_eq_false hR2]; done) | (simp [hR2]), g4⟩
end Go.Proofs.YtbnnjjilkpdanaaDoor
