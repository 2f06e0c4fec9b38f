/- The walk of the law FnNeedsEscapeJoin. -/
import Derived.Test.YtbnnjjilkpdanaaDoorNp
import Derived.Test.YtbnnjjilkpdanaaDoorUtx
import Derived.Test.YtbnnjjilkpdanaaDoorSt
namespace Go.Proofs.YtbnnjjilkpdanaaDoor
open Go.RowKit
set_option linter.unusedVariables false

theorem bwX {w a b : World} (k : Below a.heap.size a b) (h : Below w.heap.size w a) : Below w.heap.size w b := h.trans (Below.mono k h.size)
theorem need_at (s : ByteArray) {w w' : World} (r : Bool) (hr : neF s s.size 0 = r) (hs : s.size ≤ 100000000000) (hT : TabsB w.heap.size w) (hE : EscB w.heap.size w) (hb : Below w.heap.size w w') :
    Calls Tryd.prog 15 #[.string s] w' fun e w2 => e = .returned (.bool r) ∧ Below w'.heap.size w' w2 := by
  have h1 := hT.below hb
  have h2 := hE.below hb
  have hz := hb.size
  subst hr
  exact implNeed s w' hs ⟨h1.1, by have := h1.2; omega⟩ ⟨by have := h2.1; omega, h2.2⟩
theorem sim_at (s : ByteArray) (r : Bool) (hr : simB s = r) (w : World) (hs : s.size ≤ 10000000000) (ht : textF s s.size 0 = true) :
    Calls Tryd.prog 16 #[.string s] w fun e w' => e = .returned (.bool r) ∧ Below w.heap.size w w' := by subst hr; exact simple_text s w hs ht
theorem text_at (s : ByteArray) (r : Bool) (hr : Hid (textF s s.size 0 = r)) (w : World) (hs : s.size ≤ maxLen) :
    Calls Tryd.prog 13 #[.string s] w fun e w' => e = .returned (.bool r) ∧ w' = w := by rw [← hr.out]; exact isText_any s w hs
theorem brk_at (s : ByteArray) (r : Bool) (hr : Hid (hbF s s.size 0 = r)) (w : World) (hs : s.size ≤ 10000000000) :
    Calls Tryd.prog 14 #[.string s] w fun e w' => e = .returned (.bool r) ∧ w' = w := by rw [← hr.out]; exact hasBroken_any s w hs

set_option maxRecDepth 100000 in
set_option maxHeartbeats 4000000 in
theorem walk_FnNeedsEscapeJoin (a0 : ByteArray) (w0 : a0.size ≤ maxLen) (a1 : ByteArray) (w1 : a1.size ≤ maxLen) (w : World) (hT : TabsB w.heap.size w) (hE : EscB w.heap.size w) :
    Calls Tryd.prog 3 #[.string a0, .string a1] w fun e w' => e = .returned (.bool true) ∧ Below w.heap.size w w' := by
  have hs0 := w0
  have hs1 := w1
  unfold maxLen at hs0 hs1
  have hba : Below w.heap.size w (w.alloc (.cells #[.string a0, .string a1] 9)) := (Below.refl _ _).alloc (Nat.le_refl _) _
  by_cases hz0 : 2147483647 < (a0.size : Int)
  · go_enter Tryd.func3, Tryd.ntmps3
    go_wp2_with fail
    all_goals go_ret
    exact ⟨rfl, Below.refl _ _⟩
  by_cases hz1 : 2147483647 < (a1.size : Int)
  · go_enter Tryd.func3, Tryd.ntmps3
    go_wp2_with fail
    all_goals go_ret
    exact ⟨rfl, Below.refl _ _⟩
  obtain ⟨r, hr⟩ : ∃ r, Hid ((decide (a0.size ≤ 1000) && decide (a1.size ≤ 1000)) = r) := ⟨_, Lib.hid rfl⟩
  obtain ⟨t0, ht0⟩ : ∃ r, Hid (textF a0 a0.size 0 = r) := ⟨_, Lib.hid rfl⟩
  obtain ⟨t1, ht1⟩ : ∃ r, Hid (textF a1 a1.size 0 = r) := ⟨_, Lib.hid rfl⟩
  obtain ⟨b0, hb0⟩ : ∃ r, Hid (hbF a0 a0.size 0 = r) := ⟨_, Lib.hid rfl⟩
  obtain ⟨b1, hb1⟩ : ∃ r, Hid (hbF a1 a1.size 0 = r) := ⟨_, Lib.hid rfl⟩
  by_cases hgo : r = true ∧ t0 = true ∧ t1 = true ∧ b0 = false ∧ b1 = false
  · obtain ⟨rfl, rfl, rfl, rfl, rfl⟩ := hgo
    have hl : a0.size ≤ 1000 ∧ a1.size ≤ 1000 := by simpa using hr.out
    obtain ⟨n0, hn0⟩ : ∃ r, neF a0 a0.size 0 = r := ⟨_, rfl⟩
    obtain ⟨n1, hn1⟩ : ∃ r, neF a1 a1.size 0 = r := ⟨_, rfl⟩
    have hj := ne_join a0 a1 ht0.out ht1.out
    rw [hn0, hn1] at hj
    have hsm : simB a0 = !n0 := by have := ne_sim a0 ht0.out hb0.out; rw [hn0] at this; rw [this]; simp
    have hzj : (a0 ++ a1).size ≤ 100000000000 := by rw [ByteArray.size_append]; omega
    have N0 := fun {w'} (h : Below w.heap.size w w') => need_at a0 n0 hn0 (by omega) hT hE h
    have N1 := fun {w'} (h : Below w.heap.size w w') => need_at a1 n1 hn1 (by omega) hT hE h
    have NJ := fun {w'} (h : Below w.heap.size w w') => need_at (a0 ++ a1) (n0 || n1) hj hzj hT hE h
    have S0 := fun w' => sim_at a0 (!n0) hsm w' (by omega) ht0.out
    clear hj hsm hn0 hn1
    cases n0
    · cases n1
      all_goals
        simp only [Bool.or_true, Bool.or_false, Bool.true_or, Bool.false_or, Bool.not_true, Bool.not_false] at NJ S0
        go_enter Tryd.func3, Tryd.ntmps3
        go_wp2_with fail
        refine (f8two a0 a1 _ _ true hr (strs2 _ _ _ _) w0 w1).mono ?_
        rintro e wa ⟨rfl, hwa⟩
        obtain rfl := hwa.symm
        go_wp2_with fail
        refine (text_at a0 true ht0 _ w0).mono ?_
        rintro e wa ⟨rfl, hwa⟩
        obtain rfl := hwa.symm
        go_wp2_with fail
        refine (text_at a1 true ht1 _ w1).mono ?_
        rintro e wa ⟨rfl, hwa⟩
        obtain rfl := hwa.symm
        go_wp2_with fail
        refine (brk_at a0 false hb0 _ (by omega)).mono ?_
        rintro e wa ⟨rfl, hwa⟩
        obtain rfl := hwa.symm
        go_wp2_with fail
        refine (brk_at a1 false hb1 _ (by omega)).mono ?_
        rintro e wa ⟨rfl, hwa⟩
        obtain rfl := hwa.symm
        go_wp2_with fail
        refine (NJ hba).mono ?_
        rintro e w2 ⟨rfl, h2⟩
        have g2 := bwX h2 hba
        go_wp2_with fail
        refine (N0 g2).mono ?_
        rintro e w3 ⟨rfl, h3⟩
        have g3 := bwX h3 g2
        go_wp2_with fail
        refine (N1 g3).mono ?_
        rintro e w4 ⟨rfl, h4⟩
        have g4 := bwX h4 g3
        go_wp2_with fail
        refine (N0 g4).mono ?_
        rintro e w5 ⟨rfl, h5⟩
        have g5 := bwX h5 g4
        go_wp2_with fail
        refine (S0 _).mono ?_
        rintro e w6 ⟨rfl, h6⟩
        have g6 := bwX h6 g5
        go_wp2_with fail
        go_ret
        exact ⟨rfl, g6⟩
    · cases n1
      all_goals
        simp only [Bool.or_true, Bool.or_false, Bool.true_or, Bool.false_or, Bool.not_true, Bool.not_false] at NJ S0
        go_enter Tryd.func3, Tryd.ntmps3
        go_wp2_with fail
        refine (f8two a0 a1 _ _ true hr (strs2 _ _ _ _) w0 w1).mono ?_
        rintro e wa ⟨rfl, hwa⟩
        obtain rfl := hwa.symm
        go_wp2_with fail
        refine (text_at a0 true ht0 _ w0).mono ?_
        rintro e wa ⟨rfl, hwa⟩
        obtain rfl := hwa.symm
        go_wp2_with fail
        refine (text_at a1 true ht1 _ w1).mono ?_
        rintro e wa ⟨rfl, hwa⟩
        obtain rfl := hwa.symm
        go_wp2_with fail
        refine (brk_at a0 false hb0 _ (by omega)).mono ?_
        rintro e wa ⟨rfl, hwa⟩
        obtain rfl := hwa.symm
        go_wp2_with fail
        refine (brk_at a1 false hb1 _ (by omega)).mono ?_
        rintro e wa ⟨rfl, hwa⟩
        obtain rfl := hwa.symm
        go_wp2_with fail
        refine (NJ hba).mono ?_
        rintro e w2 ⟨rfl, h2⟩
        have g2 := bwX h2 hba
        go_wp2_with fail
        refine (N0 g2).mono ?_
        rintro e w3 ⟨rfl, h3⟩
        have g3 := bwX h3 g2
        go_wp2_with fail
        refine (N0 g3).mono ?_
        rintro e w5 ⟨rfl, h5⟩
        have g5 := bwX h5 g3
        go_wp2_with fail
        refine (S0 _).mono ?_
        rintro e w6 ⟨rfl, h6⟩
        have g6 := bwX h6 g5
        go_wp2_with fail
        go_ret
        exact ⟨rfl, g6⟩
  · cases r
    · clear hgo
      go_enter Tryd.func3, Tryd.ntmps3
      go_wp2_with fail
      refine (f8two a0 a1 _ _ false hr (strs2 _ _ _ _) w0 w1).mono ?_
      rintro e wa ⟨rfl, hwa⟩
      obtain rfl := hwa.symm
      go_wp2_with fail
      all_goals go_ret
      exact ⟨rfl, hba⟩
    have hl : a0.size ≤ 1000 ∧ a1.size ≤ 1000 := by simpa using hr.out
    cases t0
    · go_enter Tryd.func3, Tryd.ntmps3
      go_wp2_with fail
      refine (f8two a0 a1 _ _ true hr (strs2 _ _ _ _) w0 w1).mono ?_
      rintro e wa ⟨rfl, hwa⟩
      obtain rfl := hwa.symm
      go_wp2_with fail
      refine (text_at a0 false ht0 _ w0).mono ?_
      rintro e wa ⟨rfl, hwa⟩
      obtain rfl := hwa.symm
      go_wp2_with fail
      all_goals go_ret
      exact ⟨rfl, hba⟩
    cases t1
    · go_enter Tryd.func3, Tryd.ntmps3
      go_wp2_with fail
      refine (f8two a0 a1 _ _ true hr (strs2 _ _ _ _) w0 w1).mono ?_
      rintro e wa ⟨rfl, hwa⟩
      obtain rfl := hwa.symm
      go_wp2_with fail
      refine (text_at a0 true ht0 _ w0).mono ?_
      rintro e wa ⟨rfl, hwa⟩
      obtain rfl := hwa.symm
      go_wp2_with fail
      refine (text_at a1 false ht1 _ w1).mono ?_
      rintro e wa ⟨rfl, hwa⟩
      obtain rfl := hwa.symm
      go_wp2_with fail
      all_goals go_ret
      exact ⟨rfl, hba⟩
    cases b0
    · cases b1
      · exact absurd ⟨rfl, rfl, rfl, rfl, rfl⟩ hgo
      · clear hgo
        go_enter Tryd.func3, Tryd.ntmps3
        go_wp2_with fail
        refine (f8two a0 a1 _ _ true hr (strs2 _ _ _ _) w0 w1).mono ?_
        rintro e wa ⟨rfl, hwa⟩
        obtain rfl := hwa.symm
        go_wp2_with fail
        refine (text_at a0 true ht0 _ w0).mono ?_
        rintro e wa ⟨rfl, hwa⟩
        obtain rfl := hwa.symm
        go_wp2_with fail
        refine (text_at a1 true ht1 _ w1).mono ?_
        rintro e wa ⟨rfl, hwa⟩
        obtain rfl := hwa.symm
        go_wp2_with fail
        refine (brk_at a0 false hb0 _ (by omega)).mono ?_
        rintro e wa ⟨rfl, hwa⟩
        obtain rfl := hwa.symm
        go_wp2_with fail
        refine (brk_at a1 true hb1 _ (by omega)).mono ?_
        rintro e wa ⟨rfl, hwa⟩
        obtain rfl := hwa.symm
        go_wp2_with fail
        all_goals go_ret
        exact ⟨rfl, hba⟩
    · go_enter Tryd.func3, Tryd.ntmps3
      go_wp2_with fail
      refine (f8two a0 a1 _ _ true hr (strs2 _ _ _ _) w0 w1).mono ?_
      rintro e wa ⟨rfl, hwa⟩
      obtain rfl := hwa.symm
      go_wp2_with fail
      refine (text_at a0 true ht0 _ w0).mono ?_
      rintro e wa ⟨rfl, hwa⟩
      obtain rfl := hwa.symm
      go_wp2_with fail
      refine (text_at a1 true ht1 _ w1).mono ?_
      rintro e wa ⟨rfl, hwa⟩
      obtain rfl := hwa.symm
      go_wp2_with fail
      refine (brk_at a0 true hb0 _ (by omega)).mono ?_
      rintro e wa ⟨rfl, hwa⟩
      obtain rfl := hwa.symm
      go_wp2_with fail
      all_goals go_ret
      exact ⟨rfl, hba⟩
end Go.Proofs.YtbnnjjilkpdanaaDoor
