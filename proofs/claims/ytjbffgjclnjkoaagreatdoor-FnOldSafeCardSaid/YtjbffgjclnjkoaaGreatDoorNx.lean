/- Numbers: the walk of the reference's number, and of the head of a number. -/
import Derived.Test.YtjbffgjclnjkoaaGreatDoorNw
namespace Go.Proofs.YtjbffgjclnjkoaaGreatDoor
set_option linter.unusedVariables false
set_option linter.unusedSimpArgs false
open Go.RowKit

theorem digits_is (b : Nat) (s : ByteArray) (tw lo : Bool) (σ : St) (w : World) (r : Bool) (σ' : St) (H : Hid (St.digits s σ = (r, σ'))) (h : IsR w b s tw lo σ) (hs : s.size ≤ maxLen) (ha : σ.at_ ≤ s.size) :
    Calls Tryz.prog 78 #[.pointer (some ⟨b, 0, none⟩)] w fun e w' => e = .returned (.bool r) ∧ IsR w' b s tw lo σ' ∧ Mv b w w' := by
  have h1 := digits_any b s tw lo σ w h hs ha
  rw [H.out] at h1
  exact h1

/-- What the place becomes behind an optional byte. -/
theorem at1_eq (σ : St) : { σ with at_ := σ.at_ + 1 } = σ.at1 := rfl

set_option maxHeartbeats 2000000 in
theorem number_any (b : Nat) (s : ByteArray) (tw lo : Bool) (σ : St) (w : World) (h : IsR w b s tw lo σ) (hs : s.size ≤ maxLen) (ha : σ.at_ ≤ s.size) :
    Calls Tryz.prog 57 #[.pointer (some ⟨b, 0, none⟩)] w fun e w' => e = .returned (.bool (St.number s σ).1) ∧ IsR w' b s tw lo (St.number s σ).2 ∧ Mv b w w' := by
  have hs' := hs
  unfold maxLen at hs'
  obtain ⟨σ1, H1⟩ : ∃ σ1, Hid (St.sgn s σ = σ1) := ⟨_, Lib.hid rfl⟩
  have a1 : σ1.at_ ≤ s.size := by have := St.sgn_le (s := s) ha; rw [H1.out] at this; exact this
  obtain ⟨r2, σ2, H2⟩ := named (St.numInt s σ1)
  have a2 : σ2.at_ ≤ s.size := by have := St.numInt_le (s := s) a1; rw [H2.out] at this; exact this
  obtain ⟨r3, σ3, H3⟩ := named (St.numFrac s σ2)
  have a3 : σ3.at_ ≤ s.size := by have := St.numFrac_le (s := s) a2; rw [H3.out] at this; exact this
  obtain ⟨r4, σ4, H4⟩ := named (St.numExp s σ3)
  have E0 : Hid (St.number s σ = if r2 then (if r3 then (r4, σ4) else (false, σ3)) else (false, σ2)) := Lib.hid (by
    unfold St.number; rw [H1.out, H2.out]; unfold St.andThen; cases r2
    · rfl
    · simp only [if_true]; rw [H3.out]; cases r3
      · rfl
      · simp only [if_true]; exact H4.out)
  go_enter Tryz.func57, Tryz.ntmps57
  go_upto_if 5 with (go_at_call 29; refine (see_any b s tw lo σ _ h hs ha).mono ?_; rintro e w1 ⟨rfl, n1, rfl⟩)
  go_cut [] (fun wx => IsR wx b s tw lo σ1 ∧ Mv b w wx)
  case first =>
    by_cases k : bAt s σ.at_ = 45
    · have hd : (bAt s σ.at_ == 45) = true := by simpa using k
      have E : Hid (σ.at1 = σ1) := Lib.hid (by rw [← H1.out]; unfold St.sgn; rw [if_pos k])
      have hlt := St.byte_in (s := s) (σ := σ) (by omega)
      obtain ⟨c0, c1, c2, c3, c4, c5, f1, f4, f5⟩ := (h.drewN n1).cells
      clear k
      go_wp2_with fail
      go_meet
      exact ⟨by rw [← E.out]; exact (h.drewN n1).setAt _, ((Mv.refl _ _).drewN _).setCell _ _⟩
    · have hd : (bAt s σ.at_ == 45) = false := by simpa using k
      have E : Hid (σ = σ1) := Lib.hid (by rw [← H1.out]; unfold St.sgn; rw [if_neg k])
      clear k
      go_wp2_with fail
      go_meet
      exact ⟨by rw [← E.out]; exact h.drewN n1, (Mv.refl _ _).drewN _⟩
  case rest =>
    obtain ⟨hR1, hM1⟩ := hcut
    go_upto_if 15 with (go_at_call 29; refine (see_any b s tw lo σ1 _ hR1 hs a1).mono ?_; rintro e w1 ⟨rfl, n2, rfl⟩)
    go_cut [] (fun wx => r2 = true ∧ IsR wx b s tw lo σ2 ∧ Mv b w wx)
    case first =>
      by_cases k : bAt s σ1.at_ = 48
      · have hd : (bAt s σ1.at_ == 48) = true := by simpa using k
        have E : Hid ((true, σ1.at1) = (r2, σ2)) := Lib.hid (by rw [← H2.out]; unfold St.numInt; rw [if_pos k])
        have hlt := St.byte_in (s := s) (σ := σ1) (by omega)
        obtain ⟨c0, c1, c2, c3, c4, c5, f1, f4, f5⟩ := (hR1.drewN n2).cells
        clear k
        go_wp2_with fail
        go_meet
        obtain ⟨e1, e2⟩ := Prod.mk.inj E.out
        exact ⟨e1.symm, by rw [← e2]; exact (hR1.drewN n2).setAt _, (hM1.drewN _).setCell _ _⟩
      · have hd : (bAt s σ1.at_ == 48) = false := by simpa using k
        have E : Hid (St.digits s σ1 = (r2, σ2)) := Lib.hid (by rw [← H2.out]; unfold St.numInt; rw [if_neg k])
        clear k
        cases r2
        · go_wp2_with (go_at_call 78; refine (digits_is b s tw lo σ1 _ _ _ E (hR1.drewN _) hs a1).mono ?_; rintro e w1 ⟨rfl, hR2, hM2⟩)
          all_goals go_ret
          exact ⟨by rw [E0.out]; first | done | rfl, by rw [E0.out]; exact hR2, (hM1.drewN _).trans hM2⟩
        · go_wp2_with (go_at_call 78; refine (digits_is b s tw lo σ1 _ _ _ E (hR1.drewN _) hs a1).mono ?_; rintro e w1 ⟨rfl, hR2, hM2⟩)
          go_meet
          exact ⟨by trivial, hR2, (hM1.drewN _).trans hM2⟩
    case rest =>
      obtain ⟨rfl, hR2, hM2⟩ := hcut
      go_upto_if 28 with (go_at_call 29; refine (see_any b s tw lo σ2 _ hR2 hs a2).mono ?_; rintro e w1 ⟨rfl, n3, rfl⟩)
      go_cut [] (fun wx => r3 = true ∧ IsR wx b s tw lo σ3 ∧ Mv b w wx)
      case first =>
        by_cases k : bAt s σ2.at_ = 46
        · have hd : (bAt s σ2.at_ == 46) = true := by simpa using k
          have E : Hid (St.digits s σ2.at1 = (r3, σ3)) := Lib.hid (by rw [← H3.out]; unfold St.numFrac; rw [if_pos k])
          have hlt := St.byte_in (s := s) (σ := σ2) (by omega)
          have a21 : σ2.at1.at_ ≤ s.size := by simp [St.at1]; omega
          obtain ⟨c0, c1, c2, c3, c4, c5, f1, f4, f5⟩ := (hR2.drewN n3).cells
          clear k
          cases r3
          · go_wp2_with (go_at_call 78; refine (digits_is b s tw lo σ2.at1 _ _ _ E (show IsR _ b s tw lo σ2.at1 from (hR2.drewN n3).setAt _) hs a21).mono ?_; rintro e w1 ⟨rfl, hR3, hM3⟩)
            all_goals go_ret
            exact ⟨by rw [E0.out]; first | done | rfl, by rw [E0.out]; exact hR3, ((hM2.drewN _).setCell _ _).trans hM3⟩
          · go_wp2_with (go_at_call 78; refine (digits_is b s tw lo σ2.at1 _ _ _ E (show IsR _ b s tw lo σ2.at1 from (hR2.drewN n3).setAt _) hs a21).mono ?_; rintro e w1 ⟨rfl, hR3, hM3⟩)
            go_meet
            exact ⟨by trivial, hR3, ((hM2.drewN _).setCell _ _).trans hM3⟩
        · have hd : (bAt s σ2.at_ == 46) = false := by simpa using k
          have E : Hid ((true, σ2) = (r3, σ3)) := Lib.hid (by rw [← H3.out]; unfold St.numFrac; rw [if_neg k])
          clear k
          go_wp2_with fail
          go_meet
          obtain ⟨e1, e2⟩ := Prod.mk.inj E.out
          exact ⟨e1.symm, by rw [← e2]; exact hR2.drewN _, hM2.drewN _⟩
      case rest =>
        obtain ⟨rfl, hR3, hM3⟩ := hcut
        -- region 11: is an exponent there?
        obtain ⟨B4, HB4⟩ : ∃ B4, Hid (decide (bAt s σ3.at_ = 101 ∨ bAt s σ3.at_ = 69) = B4) := ⟨_, Lib.hid rfl⟩
        go_upto_region 11 with fail
        go_cut [46] (fun v wx => v = .bool B4 ∧ ∃ n, wx = wc.drewN n)
        case first =>
          by_cases k : bAt s σ3.at_ = 101
          · have hd : (bAt s σ3.at_ == 101) = true := by simpa using k
            have e : B4 = true := by rw [← HB4.out]; exact decide_eq_true (.inl k)
            subst e
            clear k
            go_wp2_with (go_at_call 29; refine (see_any b s tw lo σ3 _ hR3 hs a3).mono ?_; rintro e w1 ⟨rfl, n4, rfl⟩)
            go_meet
            exact ⟨by trivial, _, rfl⟩
          · have hd : (bAt s σ3.at_ == 101) = false := by simpa using k
            by_cases k2 : bAt s σ3.at_ = 69
            · have hd2 : (bAt s σ3.at_ == 69) = true := by simpa using k2
              have e : B4 = true := by rw [← HB4.out]; exact decide_eq_true (.inr k2)
              subst e
              clear k k2
              go_wp2_with (go_at_call 29; first | (refine (see_any b s tw lo σ3 _ hR3 hs a3).mono ?_; rintro e w1 ⟨rfl, n4, rfl⟩) | (refine (see_any b s tw lo σ3 _ (hR3.drewN _) hs a3).mono ?_; rintro e w1 ⟨rfl, n5, rfl⟩))
              go_meet
              exact ⟨by trivial, _, rfl⟩
            · have hd2 : (bAt s σ3.at_ == 69) = false := by simpa using k2
              have e : B4 = false := by rw [← HB4.out]; exact decide_eq_false (fun h => h.elim k k2)
              subst e
              clear k k2
              go_wp2_with (go_at_call 29; first | (refine (see_any b s tw lo σ3 _ hR3 hs a3).mono ?_; rintro e w1 ⟨rfl, n4, rfl⟩) | (refine (see_any b s tw lo σ3 _ (hR3.drewN _) hs a3).mono ?_; rintro e w1 ⟨rfl, n5, rfl⟩))
              go_meet
              exact ⟨by trivial, _, rfl⟩
        case rest =>
          obtain ⟨rfl, n4, rfl⟩ := hcut
          cases B4
          · have E : Hid ((true, σ3) = (r4, σ4)) := Lib.hid (by rw [← H4.out]; unfold St.numExp; rw [if_neg (of_decide_eq_false HB4.out)])
            go_wp2_with fail
            all_goals go_ret
            obtain ⟨e1, e2⟩ := Prod.mk.inj E.out
            exact ⟨by rw [E0.out, ← e1]; first | done | rfl, by rw [E0.out, ← e2]; exact hR3.drewN _, hM3.drewN _⟩
          · have k0 := of_decide_eq_true HB4.out
            obtain ⟨σ5, H5⟩ : ∃ σ5, Hid (St.sgn2 s σ3.at1 = σ5) := ⟨_, Lib.hid rfl⟩
            have E : Hid (St.digits s σ5 = (r4, σ4)) := Lib.hid (by rw [← H4.out, ← H5.out]; unfold St.numExp; rw [if_pos k0])
            have hlt := St.byte_in (s := s) (σ := σ3) (by omega)
            have a31 : σ3.at1.at_ ≤ s.size := by simp [St.at1]; omega
            have a5 : σ5.at_ ≤ s.size := by have := St.sgn2_le (s := s) a31; rw [H5.out] at this; exact this
            clear k0
            obtain ⟨c0, c1, c2, c3, c4, c5, f1, f4, f5⟩ := (hR3.drewN n4).cells
            obtain ⟨B5, HB5⟩ : ∃ B5, Hid (decide (bAt s σ3.at1.at_ = 43 ∨ bAt s σ3.at1.at_ = 45) = B5) := ⟨_, Lib.hid rfl⟩
            go_upto_region 13 with fail
            go_cut [61] (fun v wx => v = .bool B5 ∧ IsR wx b s tw lo σ3.at1 ∧ Mv b w wx)
            case first =>
              by_cases k : bAt s σ3.at1.at_ = 43
              · have hd : (bAt s σ3.at1.at_ == 43) = true := by simpa using k
                have e : B5 = true := by rw [← HB5.out]; exact decide_eq_true (.inl k)
                subst e
                clear k
                go_wp2_with (go_at_call 29; refine (see_any b s tw lo σ3.at1 _ (show IsR _ b s tw lo σ3.at1 from (hR3.drewN n4).setAt _) hs a31).mono ?_; rintro e w1 ⟨rfl, n5, rfl⟩)
                go_meet
                exact ⟨by trivial, IsR.drewN (show IsR _ b s tw lo σ3.at1 from (hR3.drewN n4).setAt _) _, ((hM3.drewN _).setCell _ _).drewN _⟩
              · have hd : (bAt s σ3.at1.at_ == 43) = false := by simpa using k
                by_cases k2 : bAt s σ3.at1.at_ = 45
                · have hd2 : (bAt s σ3.at1.at_ == 45) = true := by simpa using k2
                  have e : B5 = true := by rw [← HB5.out]; exact decide_eq_true (.inr k2)
                  subst e
                  clear k k2
                  go_wp2_with (go_at_call 29; first | (refine (see_any b s tw lo σ3.at1 _ (show IsR _ b s tw lo σ3.at1 from (hR3.drewN n4).setAt _) hs a31).mono ?_; rintro e w1 ⟨rfl, n5, rfl⟩) | (refine (see_any b s tw lo σ3.at1 _ (IsR.drewN (show IsR _ b s tw lo σ3.at1 from (hR3.drewN n4).setAt _) _) hs a31).mono ?_; rintro e w1 ⟨rfl, n6, rfl⟩))
                  go_meet
                  exact ⟨by trivial, IsR.drewN (show IsR _ b s tw lo σ3.at1 from (hR3.drewN n4).setAt _) _, ((hM3.drewN _).setCell _ _).drewN _⟩
                · have hd2 : (bAt s σ3.at1.at_ == 45) = false := by simpa using k2
                  have e : B5 = false := by rw [← HB5.out]; exact decide_eq_false (fun h => h.elim k k2)
                  subst e
                  clear k k2
                  go_wp2_with (go_at_call 29; first | (refine (see_any b s tw lo σ3.at1 _ (show IsR _ b s tw lo σ3.at1 from (hR3.drewN n4).setAt _) hs a31).mono ?_; rintro e w1 ⟨rfl, n5, rfl⟩) | (refine (see_any b s tw lo σ3.at1 _ (IsR.drewN (show IsR _ b s tw lo σ3.at1 from (hR3.drewN n4).setAt _) _) hs a31).mono ?_; rintro e w1 ⟨rfl, n6, rfl⟩))
                  go_meet
                  exact ⟨by trivial, IsR.drewN (show IsR _ b s tw lo σ3.at1 from (hR3.drewN n4).setAt _) _, ((hM3.drewN _).setCell _ _).drewN _⟩
            case rest =>
              obtain ⟨rfl, hR4, hM4⟩ := hcut
              clear c0 c1 c2 c3 c4 c5 f1 f4 f5
              cases B5
              · have E5 : Hid (σ3.at1 = σ5) := Lib.hid (by rw [← H5.out]; unfold St.sgn2; rw [if_neg (of_decide_eq_false HB5.out)])
                have E6 : Hid (St.digits s σ3.at1 = (r4, σ4)) := Lib.hid (by rw [E5.out]; exact E.out)
                go_wp2_with (go_at_call 78; refine (digits_is b s tw lo σ3.at1 _ _ _ E6 hR4 hs a31).mono ?_; rintro e w1 ⟨rfl, hR5, hM5⟩)
                all_goals go_ret
                exact ⟨by rw [E0.out]; first | done | rfl, by rw [E0.out]; exact hR5, hM4.trans hM5⟩
              · have k0 := of_decide_eq_true HB5.out
                have E5 : Hid (σ3.at1.at1 = σ5) := Lib.hid (by rw [← H5.out]; unfold St.sgn2; rw [if_pos k0])
                have E6 : Hid (St.digits s σ3.at1.at1 = (r4, σ4)) := Lib.hid (by rw [E5.out]; exact E.out)
                have hlt2 := St.byte_in (s := s) (σ := σ3.at1) (by omega)
                have a6 : σ3.at1.at1.at_ ≤ s.size := by rw [E5.out]; exact a5
                obtain ⟨c0, c1, c2, c3, c4, c5, f1, f4, f5⟩ := hR4.cells
                clear k0
                go_wp2_with (go_at_call 78; refine (digits_is b s tw lo σ3.at1.at1 _ _ _ E6 (show IsR _ b s tw lo σ3.at1.at1 from hR4.setAt _) hs a6).mono ?_; rintro e w1 ⟨rfl, hR5, hM5⟩)
                all_goals go_ret
                exact ⟨by rw [E0.out]; first | done | rfl, by rw [E0.out]; exact hR5, (hM4.setCell _ _).trans hM5⟩

/-- What reading a number at the beginning comes to. -/
def nhP (s : ByteArray) : Bool × St := St.number s ⟨0, 0, false⟩
end Go.Proofs.YtjbffgjclnjkoaaGreatDoor
