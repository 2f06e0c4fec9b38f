/- Contracts of the methods of the reader of the reference: escapes, characters, strings, white space. -/
import Derived.Test.YtjbffgjclnjkoaaGreatDoorRd2
import Derived.Deep.LoopGhost
namespace Go.Proofs.YtjbffgjclnjkoaaGreatDoor
set_option linter.unusedVariables false
set_option linter.unusedSimpArgs false
open Go.RowKit

theorem named3 (p : Bool × Bool × St) : ∃ r h σ', Hid (p = (r, h, σ')) := ⟨p.1, p.2.1, p.2.2, Lib.hid rfl⟩
theorem unit_is (b : Nat) (s : ByteArray) (tw lo low : Bool) (σ : St) (w : World) (r g : Bool) (σ' : St) (H : Hid (St.unit s lo low σ = (r, g, σ'))) (h : IsR w b s tw lo σ) (hs : s.size ≤ maxLen) (ha : σ.at_ ≤ s.size) :
    Calls Tryz.prog 95 #[.pointer (some ⟨b, 0, none⟩), .bool low] w fun e w' => e = .returned (.tuple #[.bool r, .bool g]) ∧ IsR w' b s tw lo σ' ∧ Mv b w w' := by
  have h1 := unit_any b s tw lo low σ w h hs ha
  rw [H.out] at h1
  exact h1
theorem unit_le {s : ByteArray} {σ : St} {lo low : Bool} {r g : Bool} {σ' : St} (H : Hid (St.unit s lo low σ = (r, g, σ'))) (ha : σ.at_ ≤ s.size) : σ'.at_ ≤ s.size := by
  have := (St.unit_adv (s := s) ha lo low).2.1; rw [H.out] at this; exact this

set_option maxHeartbeats 1000000 in
theorem escape_any (b : Nat) (s : ByteArray) (tw lo : Bool) (σ : St) (w : World) (h : IsR w b s tw lo σ) (hs : s.size ≤ maxLen) (ha : σ.at_ ≤ s.size) :
    Calls Tryz.prog 77 #[.pointer (some ⟨b, 0, none⟩)] w fun e w' => e = .returned (.bool (St.escape s lo σ).1) ∧ IsR w' b s tw lo (St.escape s lo σ).2 ∧ Mv b w w' := by
  obtain ⟨c0, c1, c2, c3, c4, c5, f1, f4, f5⟩ := h.cells
  have hs' := hs
  unfold maxLen at hs'
  by_cases hc : bAt s σ.at_ = 34 ∨ bAt s σ.at_ = 92 ∨ bAt s σ.at_ = 47 ∨ bAt s σ.at_ = 98 ∨ bAt s σ.at_ = 102 ∨ bAt s σ.at_ = 110 ∨ bAt s σ.at_ = 114 ∨ bAt s σ.at_ = 116
  · have HE : Hid (St.escape s lo σ = (true, { σ with at_ := σ.at_ + 1 })) := Lib.hid (by simp [St.escape, hc])
    have hlt : σ.at_ < s.size := by
      by_cases hl : σ.at_ < s.size
      · exact hl
      · rw [bAt_ge hl] at hc; omega
    generalize hk : bAt s σ.at_ = k at hc
    have HK := Lib.hid hk
    clear hk
    rcases hc with hc | hc | hc | hc | hc | hc | hc | hc
    all_goals
      subst hc
      go_enter Tryz.func77, Tryz.ntmps77
      go_wp2_with fail
      refine (see_any b s tw lo σ _ h hs ha).mono ?_
      rw [HK.out]
      rintro e w1 ⟨rfl, n, rfl⟩
      go_wp2
      all_goals go_ret
      exact ⟨by rw [HE.out]; first | done | rfl, by rw [HE.out]; exact (h.drewN n).setAt _, ((Mv.refl _ _).drewN _).setCell _ _⟩
  · have hne : ∀ k : Int, (k = 34 ∨ k = 92 ∨ k = 47 ∨ k = 98 ∨ k = 102 ∨ k = 110 ∨ k = 114 ∨ k = 116) → (bAt s σ.at_ == k) = false := by
      intro k hk; rw [beq_eq_false_iff_ne]; intro e; rw [← e] at hk; exact hc hk
    have k1 := hne 34 (by omega)
    have k2 := hne 92 (by omega)
    have k3 := hne 47 (by omega)
    have k4 := hne 98 (by omega)
    have k5 := hne 102 (by omega)
    have k6 := hne 110 (by omega)
    have k7 := hne 114 (by omega)
    have k8 := hne 116 (by omega)
    clear hne
    by_cases hu : bAt s σ.at_ = 117
    · have hlt : σ.at_ < s.size := by
        by_cases hl : σ.at_ < s.size
        · exact hl
        · rw [bAt_ge hl] at hu; omega
      have ku : (bAt s σ.at_ == 117) = true := by simp [hu]
      obtain ⟨r1, g1, σ1, H1⟩ := named3 (St.unit s lo false { σ with at_ := σ.at_ + 1 })
      obtain ⟨r2, σ2, H2⟩ := named (St.need s σ1 92 92)
      obtain ⟨r3, σ3, H3⟩ := named (St.need s σ2 117 117)
      obtain ⟨r4, g4, σ4, H4⟩ := named3 (St.unit s lo true σ3)
      have a0 : ({ σ with at_ := σ.at_ + 1 } : St).at_ ≤ s.size := by simp; omega
      have a1 := unit_le H1 a0
      have a2 := need_le H2 a1
      have a3 := need_le H3 a2
      have E0 : Hid (St.escape s lo σ = if r1 && g1 then (if r2 then (if r3 then (r4, σ4) else (false, σ3)) else (false, σ2)) else (r1, σ1)) :=
        Lib.hid (by simp [St.escape, hu, H1.out, St.andThen, H2.out, H3.out, H4.out])
      clear hu hc
      go_enter Tryz.func77, Tryz.ntmps77
      go_wp2_with fail
      refine (see_any b s tw lo σ _ h hs ha).mono ?_
      rintro e w1 ⟨rfl, n, rfl⟩
      go_wp2_with fail
      refine (unit_is b s tw lo _ _ _ _ _ _ H1 ((h.drewN n).setAt _) hs a0).mono ?_
      rintro e w2 ⟨rfl, hR1, hM1⟩
      have hm1 : Mv b w w2 := (((Mv.refl _ _).drewN _).setCell _ _).trans hM1
      cases r1
      · go_wp2_with fail
        all_goals go_ret
        exact ⟨by rw [E0.out]; first | done | rfl, by rw [E0.out]; exact hR1, hm1⟩
      cases g1
      · go_wp2_with fail
        all_goals go_ret
        exact ⟨by rw [E0.out]; first | done | rfl, by rw [E0.out]; exact hR1, hm1⟩
      go_wp2_with fail
      refine (need_is b s tw lo σ1 _ _ _ _ _ H2 hR1 hs a1).mono ?_
      rintro e w3 ⟨rfl, hR2, hM2⟩
      cases r2
      · go_wp2_with fail
        all_goals go_ret
        exact ⟨by rw [E0.out]; first | done | rfl, by rw [E0.out]; exact hR2, hm1.trans hM2⟩
      go_wp2_with fail
      refine (need_is b s tw lo σ2 _ _ _ _ _ H3 hR2 hs a2).mono ?_
      rintro e w4 ⟨rfl, hR3, hM3⟩
      cases r3
      · go_wp2_with fail
        all_goals go_ret
        exact ⟨by rw [E0.out]; first | done | rfl, by rw [E0.out]; exact hR3, (hm1.trans hM2).trans hM3⟩
      go_wp2_with fail
      refine (unit_is b s tw lo _ _ _ _ _ _ H4 hR3 hs a3).mono ?_
      rintro e w5 ⟨rfl, hR4, hM4⟩
      go_wp2_with fail
      all_goals go_ret
      exact ⟨by rw [E0.out]; first | done | rfl, by rw [E0.out]; exact hR4, ((hm1.trans hM2).trans hM3).trans hM4⟩
    · have HE : Hid (St.escape s lo σ = (false, σ.fail 4)) := Lib.hid (by simp [St.escape, hc, hu])
      have ku : (bAt s σ.at_ == 117) = false := by simpa using hu
      clear hu hc
      go_enter Tryz.func77, Tryz.ntmps77
      go_wp2_with fail
      refine (see_any b s tw lo σ _ h hs ha).mono ?_
      rintro e w1 ⟨rfl, n, rfl⟩
      go_wp2_with fail
      refine (fail_any b s tw lo σ _ _ (h.drewN n)).mono ?_
      rintro e w2 ⟨rfl, hR, hM⟩
      go_wp2_with fail
      all_goals go_ret
      exact ⟨by rw [HE.out]; first | done | rfl, by rw [HE.out]; exact hR, ((Mv.refl _ _).drewN _).trans hM⟩

theorem escape_is (b : Nat) (s : ByteArray) (tw lo : Bool) (σ : St) (w : World) (r : Bool) (σ' : St) (H : Hid (St.escape s lo σ = (r, σ'))) (h : IsR w b s tw lo σ) (hs : s.size ≤ maxLen) (ha : σ.at_ ≤ s.size) :
    Calls Tryz.prog 77 #[.pointer (some ⟨b, 0, none⟩)] w fun e w' => e = .returned (.bool r) ∧ IsR w' b s tw lo σ' ∧ Mv b w w' := by
  have h1 := escape_any b s tw lo σ w h hs ha
  rw [H.out] at h1
  exact h1
end Go.Proofs.YtjbffgjclnjkoaaGreatDoor
