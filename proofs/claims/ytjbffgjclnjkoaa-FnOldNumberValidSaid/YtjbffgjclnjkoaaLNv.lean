/- Numbers and values: the walk of the law. -/
import Derived.Test.YtjbffgjclnjkoaaNe8
import Derived.Test.YtjbffgjclnjkoaaVn
import Derived.Test.YtjbffgjclnjkoaaEv
import Derived.Test.YtjbffgjclnjkoaaSt
namespace Go.Proofs.Ytjbffgjclnjkoaa
set_option linter.unusedVariables false
set_option linter.unusedSimpArgs false
open Go.RowKit Go.Shelf

theorem oldNumber_any (s : ByteArray) (hs : s.size ≤ 9000) (w : World) : Calls Try.prog 10 #[.string s] w fun e w' => e = .returned (.bool (isN (bl s))) ∧ w' = w := by
  have hv := fun w' => isVN_any s hs w'
  go_enter Try.func10, Try.ntmps10
  go_wp2_with (first | (go_at_call 33; refine (hv _).mono ?_; rintro e w2 ⟨rfl, hw⟩; obtain rfl := hw.symm) | (go_at_call 20; go_in))
  all_goals go_ret
  exact ⟨rfl, rfl⟩
def numAl : ByteArray := ⟨#[48, 49, 50, 51, 52, 53, 54, 55, 56, 57, 43, 45, 46, 101, 69]⟩
theorem numAl_iff (l : List Int) (h : (l.all fun c => (bl numAl).any (c == ·)) = true) : ∀ c ∈ l, NumC c := by
  intro c hc
  have h1 := List.all_eq_true.1 h c hc
  rw [List.any_eq_true] at h1
  obtain ⟨x, hx, hcx⟩ := h1
  have e : bl numAl = [48, 49, 50, 51, 52, 53, 54, 55, 56, 57, 43, 45, 46, 101, 69] := by decide
  rw [e] at hx
  have hcx : c = x := by simpa using hcx
  subst hcx
  unfold NumC
  rw [digB_iff]
  simp only [List.mem_cons, List.not_mem_nil, or_false] at hx
  omega
set_option maxRecDepth 100000 in
set_option maxHeartbeats 2000000 in
theorem walk_FnOldNumberValid (a0 : ByteArray) (w0 : a0.size ≤ maxLen) (w : World) :
    Calls Try.prog 4 #[.string a0] w fun e w' => e = .returned (.bool true) ∧ Below w.heap.size w w' := by
  have hs := w0
  unfold maxLen at hs
  by_cases hz : 2147483647 < (a0.size : Int)
  · go_enter Try.func4, Try.ntmps4
    go_wp2_with fail
    all_goals go_ret
    exact ⟨rfl, Below.refl _ _⟩
  · obtain ⟨r, hr⟩ : ∃ r, Hid (decide (a0.size ≤ 1000) = r) := ⟨_, Lib.hid rfl⟩
    go_enter Try.func4, Try.ntmps4
    go_wp2_with fail
    refine (f8one a0 _ _ r hr (strs1 _ _ _) w0).mono ?_
    rintro e w1 ⟨rfl, hw1⟩
    have hb1 : Below w.heap.size w w1 := by rw [hw1]; exact (Below.refl _ _).alloc (Nat.le_refl _) _
    clear hw1
    cases r
    · go_wp2_with fail
      all_goals go_ret
      exact ⟨rfl, hb1⟩
    · have hsz : a0.size ≤ 1000 := by have := hr.out; simpa using this
      obtain ⟨E, hE⟩ : ∃ E, ((bl a0).all fun c => (bl numAl).any (c == ·)) = E := ⟨_, rfl⟩
      have hev := every8_any a0 numAl (by omega) (by decide) w1
      rw [hE] at hev
      unfold numAl at hev
      obtain ⟨N, hN⟩ : ∃ N, isN (bl a0) = N := ⟨_, rfl⟩
      have hon := fun w' => oldNumber_any a0 (by omega) w'
      have hnu := fun w' => number8_any a0 (by omega) w'
      have hov := fun w' => oldValid_any a0 (by omega) w'
      rw [hN] at hon
      rw [← isN_eq, hN] at hnu
      cases E
      · clear hov hon hnu hz hr hsz
        go_wp2_with (go_at_call 9; refine hev.mono ?_; rintro e w2 ⟨rfl, hb2⟩; have hb3 := hb1.trans (hb2.mono hb1.size))
        all_goals go_ret
        exact ⟨rfl, hb3⟩
      · have e1 := valid_num (bl a0) 0 (by decide) (numAl_iff _ hE)
        rw [← isN_eq, hN] at e1
        rw [show validQ sc0 (bl a0) = N from e1] at hov
        clear hz hr hsz hE hN e1
        cases N
        · go_wp2_with (first
            | (go_at_call 9; refine hev.mono ?_; rintro e w2 ⟨rfl, hb2⟩; have hb3 := hb1.trans (hb2.mono hb1.size))
            | (go_at_call 10; refine (hon _).mono ?_; rintro e w3 ⟨rfl, h3⟩; obtain rfl := h3.symm)
            | (go_at_call 11; refine (hov _).mono ?_; clear hov; rintro e w4 ⟨rfl, hb4⟩; have hb5 := hb3.trans (hb4.mono hb3.size))
            | (go_at_call 12; refine (hnu _).mono ?_; rintro e w5 ⟨rfl, h5⟩; obtain rfl := h5.symm))
          all_goals go_ret
          exact ⟨rfl, hb5⟩
        · go_wp2_with (first
            | (go_at_call 9; refine hev.mono ?_; rintro e w2 ⟨rfl, hb2⟩; have hb3 := hb1.trans (hb2.mono hb1.size))
            | (go_at_call 10; refine (hon _).mono ?_; rintro e w3 ⟨rfl, h3⟩; obtain rfl := h3.symm)
            | (go_at_call 11; refine (hov _).mono ?_; clear hov; rintro e w4 ⟨rfl, hb4⟩; have hb5 := hb3.trans (hb4.mono hb3.size))
            | (go_at_call 12; refine (hnu _).mono ?_; rintro e w5 ⟨rfl, h5⟩; obtain rfl := h5.symm))
          all_goals go_ret
          exact ⟨rfl, hb5⟩
end Go.Proofs.Ytjbffgjclnjkoaa
