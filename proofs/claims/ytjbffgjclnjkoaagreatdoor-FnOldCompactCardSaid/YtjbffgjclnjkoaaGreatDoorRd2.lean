/- Contracts of the methods of the reader of the reference: escapes and characters. Lines by program (genrd.py). -/
import Derived.Test.YtjbffgjclnjkoaaGreatDoorRd
namespace Go.Proofs.YtjbffgjclnjkoaaGreatDoor
set_option linter.unusedVariables false
set_option linter.unusedSimpArgs false
open Go.RowKit


set_option maxHeartbeats 1000000 in
theorem unit_low (b : Nat) (s : ByteArray) (tw lo : Bool) (hlo : lo = false) (σ : St) (w : World) (h : IsR w b s tw lo σ) (hs : s.size ≤ maxLen) (ha : σ.at_ ≤ s.size) :
    Calls Tryz.prog 95 #[.pointer (some ⟨b, 0, none⟩), .bool true] w fun e w' => e = .returned (.tuple #[.bool (St.unit s lo true σ).1, .bool (St.unit s lo true σ).2.1]) ∧ IsR w' b s tw lo (St.unit s lo true σ).2.2 ∧ Mv b w w' := by
  subst hlo
  obtain ⟨c0, c1, c2, c3, c4, c5, f1, f4, f5⟩ := h.cells
  obtain ⟨r1, σ1, H1⟩ := named (St.hex s σ 13 13)
  obtain ⟨r2, σ2, H2⟩ := named (St.hex s σ1 12 15)
  obtain ⟨r3, σ3, H3⟩ := named (St.hex s σ2 0 15)
  obtain ⟨r4, σ4, H4⟩ := named (St.hex s σ3 0 15)
  have a1 := hex_le H1 ha (by omega)
  have a2 := hex_le H2 a1 (by omega)
  have a3 := hex_le H3 a2 (by omega)
  cases r1
  · have HE : Hid (St.unit s false true σ = (false, false, σ1)) := Lib.hid (by simp [St.unit, St.unitX, St.unitY, St.unitLo, St.unitHi, St.hex2, St.andThen, H1.out])
    go_enter Tryz.func95, Tryz.ntmps95
    go_wp2_with fail
    refine (see_any b s tw false σ _ h hs ha).mono ?_
    rintro e wq0 ⟨rfl, n0, rfl⟩
    go_wp2_with fail
    refine (hex_any _ _ (bAt_nonneg _ _) (bAt_le _ _)).mono ?_
    rintro e wq0 ⟨rfl, rfl⟩
    go_wp2_with fail
    refine (hex_is b s tw false σ _ _ _ _ _ H1 (h.drewN n0) hs ha (.inr (by omega))).mono ?_
    rintro e w1 ⟨rfl, hR1, hM1⟩
    go_wp2_with fail
    all_goals go_ret2
    exact ⟨by rw [HE.out]; first | done | rfl, by rw [HE.out]; exact hR1, ((Mv.refl _ _).drewN _).trans hM1⟩
  cases r2
  · have HE : Hid (St.unit s false true σ = (false, false, σ2)) := Lib.hid (by simp [St.unit, St.unitX, St.unitY, St.unitLo, St.unitHi, St.hex2, St.andThen, H1.out, H2.out])
    go_enter Tryz.func95, Tryz.ntmps95
    go_wp2_with fail
    refine (see_any b s tw false σ _ h hs ha).mono ?_
    rintro e wq0 ⟨rfl, n0, rfl⟩
    go_wp2_with fail
    refine (hex_any _ _ (bAt_nonneg _ _) (bAt_le _ _)).mono ?_
    rintro e wq0 ⟨rfl, rfl⟩
    go_wp2_with fail
    refine (hex_is b s tw false σ _ _ _ _ _ H1 (h.drewN n0) hs ha (.inr (by omega))).mono ?_
    rintro e w1 ⟨rfl, hR1, hM1⟩
    go_wp2_with fail
    refine (see_any b s tw false σ1 _ hR1 hs a1).mono ?_
    rintro e wq1 ⟨rfl, n1, rfl⟩
    go_wp2_with fail
    refine (hex_any _ _ (bAt_nonneg _ _) (bAt_le _ _)).mono ?_
    rintro e wq1 ⟨rfl, rfl⟩
    go_wp2_with fail
    refine (hex_is b s tw false σ1 _ _ _ _ _ H2 (hR1.drewN n1) hs a1 (.inr (by omega))).mono ?_
    rintro e w2 ⟨rfl, hR2, hM2⟩
    go_wp2_with fail
    all_goals go_ret2
    exact ⟨by rw [HE.out]; first | done | rfl, by rw [HE.out]; exact hR2, (((Mv.refl _ _).drewN _).trans hM1).trans (((Mv.refl _ _).drewN _).trans hM2)⟩
  cases r3
  · have HE : Hid (St.unit s false true σ = (false, false, σ3)) := Lib.hid (by simp [St.unit, St.unitX, St.unitY, St.unitLo, St.unitHi, St.hex2, St.andThen, H1.out, H2.out, H3.out])
    go_enter Tryz.func95, Tryz.ntmps95
    go_wp2_with fail
    refine (see_any b s tw false σ _ h hs ha).mono ?_
    rintro e wq0 ⟨rfl, n0, rfl⟩
    go_wp2_with fail
    refine (hex_any _ _ (bAt_nonneg _ _) (bAt_le _ _)).mono ?_
    rintro e wq0 ⟨rfl, rfl⟩
    go_wp2_with fail
    refine (hex_is b s tw false σ _ _ _ _ _ H1 (h.drewN n0) hs ha (.inr (by omega))).mono ?_
    rintro e w1 ⟨rfl, hR1, hM1⟩
    go_wp2_with fail
    refine (see_any b s tw false σ1 _ hR1 hs a1).mono ?_
    rintro e wq1 ⟨rfl, n1, rfl⟩
    go_wp2_with fail
    refine (hex_any _ _ (bAt_nonneg _ _) (bAt_le _ _)).mono ?_
    rintro e wq1 ⟨rfl, rfl⟩
    go_wp2_with fail
    refine (hex_is b s tw false σ1 _ _ _ _ _ H2 (hR1.drewN n1) hs a1 (.inr (by omega))).mono ?_
    rintro e w2 ⟨rfl, hR2, hM2⟩
    go_wp2_with fail
    refine (hex_is b s tw false σ2 _ _ _ _ _ H3 hR2 hs a2 (.inr (by omega))).mono ?_
    rintro e w3 ⟨rfl, hR3, hM3⟩
    go_wp2_with fail
    all_goals go_ret2
    exact ⟨by rw [HE.out]; first | done | rfl, by rw [HE.out]; exact hR3, ((((Mv.refl _ _).drewN _).trans hM1).trans (((Mv.refl _ _).drewN _).trans hM2)).trans hM3⟩
  cases r4
  · have HE : Hid (St.unit s false true σ = (false, false, σ4)) := Lib.hid (by simp [St.unit, St.unitX, St.unitY, St.unitLo, St.unitHi, St.hex2, St.andThen, H1.out, H2.out, H3.out, H4.out])
    go_enter Tryz.func95, Tryz.ntmps95
    go_wp2_with fail
    refine (see_any b s tw false σ _ h hs ha).mono ?_
    rintro e wq0 ⟨rfl, n0, rfl⟩
    go_wp2_with fail
    refine (hex_any _ _ (bAt_nonneg _ _) (bAt_le _ _)).mono ?_
    rintro e wq0 ⟨rfl, rfl⟩
    go_wp2_with fail
    refine (hex_is b s tw false σ _ _ _ _ _ H1 (h.drewN n0) hs ha (.inr (by omega))).mono ?_
    rintro e w1 ⟨rfl, hR1, hM1⟩
    go_wp2_with fail
    refine (see_any b s tw false σ1 _ hR1 hs a1).mono ?_
    rintro e wq1 ⟨rfl, n1, rfl⟩
    go_wp2_with fail
    refine (hex_any _ _ (bAt_nonneg _ _) (bAt_le _ _)).mono ?_
    rintro e wq1 ⟨rfl, rfl⟩
    go_wp2_with fail
    refine (hex_is b s tw false σ1 _ _ _ _ _ H2 (hR1.drewN n1) hs a1 (.inr (by omega))).mono ?_
    rintro e w2 ⟨rfl, hR2, hM2⟩
    go_wp2_with fail
    refine (hex_is b s tw false σ2 _ _ _ _ _ H3 hR2 hs a2 (.inr (by omega))).mono ?_
    rintro e w3 ⟨rfl, hR3, hM3⟩
    go_wp2_with fail
    refine (hex_is b s tw false σ3 _ _ _ _ _ H4 hR3 hs a3 (.inr (by omega))).mono ?_
    rintro e w4 ⟨rfl, hR4, hM4⟩
    go_wp2_with fail
    all_goals go_ret2
    exact ⟨by rw [HE.out]; first | done | rfl, by rw [HE.out]; exact hR4, (((((Mv.refl _ _).drewN _).trans hM1).trans (((Mv.refl _ _).drewN _).trans hM2)).trans hM3).trans hM4⟩
  · have HE : Hid (St.unit s false true σ = (true, false, σ4)) := Lib.hid (by simp [St.unit, St.unitX, St.unitY, St.unitLo, St.unitHi, St.hex2, St.andThen, H1.out, H2.out, H3.out, H4.out])
    go_enter Tryz.func95, Tryz.ntmps95
    go_wp2_with fail
    refine (see_any b s tw false σ _ h hs ha).mono ?_
    rintro e wq0 ⟨rfl, n0, rfl⟩
    go_wp2_with fail
    refine (hex_any _ _ (bAt_nonneg _ _) (bAt_le _ _)).mono ?_
    rintro e wq0 ⟨rfl, rfl⟩
    go_wp2_with fail
    refine (hex_is b s tw false σ _ _ _ _ _ H1 (h.drewN n0) hs ha (.inr (by omega))).mono ?_
    rintro e w1 ⟨rfl, hR1, hM1⟩
    go_wp2_with fail
    refine (see_any b s tw false σ1 _ hR1 hs a1).mono ?_
    rintro e wq1 ⟨rfl, n1, rfl⟩
    go_wp2_with fail
    refine (hex_any _ _ (bAt_nonneg _ _) (bAt_le _ _)).mono ?_
    rintro e wq1 ⟨rfl, rfl⟩
    go_wp2_with fail
    refine (hex_is b s tw false σ1 _ _ _ _ _ H2 (hR1.drewN n1) hs a1 (.inr (by omega))).mono ?_
    rintro e w2 ⟨rfl, hR2, hM2⟩
    go_wp2_with fail
    refine (hex_is b s tw false σ2 _ _ _ _ _ H3 hR2 hs a2 (.inr (by omega))).mono ?_
    rintro e w3 ⟨rfl, hR3, hM3⟩
    go_wp2_with fail
    refine (hex_is b s tw false σ3 _ _ _ _ _ H4 hR3 hs a3 (.inr (by omega))).mono ?_
    rintro e w4 ⟨rfl, hR4, hM4⟩
    go_wp2_with fail
    all_goals go_ret2
    exact ⟨by rw [HE.out]; first | done | rfl, by rw [HE.out]; exact hR4, (((((Mv.refl _ _).drewN _).trans hM1).trans (((Mv.refl _ _).drewN _).trans hM2)).trans hM3).trans hM4⟩

set_option maxHeartbeats 1000000 in
theorem unit_first (b : Nat) (s : ByteArray) (tw lo : Bool) (hlo : lo = false) (σ : St) (w : World) (hf : hexV (bAt s σ.at_) = 13) (h : IsR w b s tw lo σ) (hs : s.size ≤ maxLen) (ha : σ.at_ ≤ s.size) :
    Calls Tryz.prog 95 #[.pointer (some ⟨b, 0, none⟩), .bool false] w fun e w' => e = .returned (.tuple #[.bool (St.unit s lo false σ).1, .bool (St.unit s lo false σ).2.1]) ∧ IsR w' b s tw lo (St.unit s lo false σ).2.2 ∧ Mv b w w' := by
  subst hlo
  obtain ⟨c0, c1, c2, c3, c4, c5, f1, f4, f5⟩ := h.cells
  obtain ⟨r1, σ1, H1⟩ := named (St.hex s σ 0 15)
  obtain ⟨r2, σ2, H2⟩ := named (St.hex s σ1 0 11)
  obtain ⟨r3, σ3, H3⟩ := named (St.hex s σ2 0 15)
  obtain ⟨r4, σ4, H4⟩ := named (St.hex s σ3 0 15)
  have a1 := hex_le H1 ha (by omega)
  have a2 := hex_le H2 a1 (by omega)
  have a3 := hex_le H3 a2 (by omega)
  have hf1 : (hexV (bAt s σ.at_) == 13) = true := by simpa using hf
  cases r1
  · have HE : Hid (St.unit s false false σ = (false, false, σ1)) := Lib.hid (by simp [St.unit, St.unitX, St.unitY, St.unitLo, St.unitHi, St.hex2, St.andThen, H1.out, hf])
    clear hf
    go_enter Tryz.func95, Tryz.ntmps95
    go_wp2_with fail
    refine (see_any b s tw false σ _ h hs ha).mono ?_
    rintro e wq0 ⟨rfl, n0, rfl⟩
    go_wp2_with fail
    refine (hex_any _ _ (bAt_nonneg _ _) (bAt_le _ _)).mono ?_
    rintro e wq0 ⟨rfl, rfl⟩
    go_wp2_with fail
    refine (hex_is b s tw false σ _ _ _ _ _ H1 (h.drewN n0) hs ha (.inr (by omega))).mono ?_
    rintro e w1 ⟨rfl, hR1, hM1⟩
    go_wp2_with fail
    all_goals go_ret2
    exact ⟨by rw [HE.out]; first | done | rfl, by rw [HE.out]; exact hR1, ((Mv.refl _ _).drewN _).trans hM1⟩
  cases r2
  · have HE : Hid (St.unit s false false σ = (false, false, σ2)) := Lib.hid (by simp [St.unit, St.unitX, St.unitY, St.unitLo, St.unitHi, St.hex2, St.andThen, H1.out, H2.out, hf])
    clear hf
    go_enter Tryz.func95, Tryz.ntmps95
    go_wp2_with fail
    refine (see_any b s tw false σ _ h hs ha).mono ?_
    rintro e wq0 ⟨rfl, n0, rfl⟩
    go_wp2_with fail
    refine (hex_any _ _ (bAt_nonneg _ _) (bAt_le _ _)).mono ?_
    rintro e wq0 ⟨rfl, rfl⟩
    go_wp2_with fail
    refine (hex_is b s tw false σ _ _ _ _ _ H1 (h.drewN n0) hs ha (.inr (by omega))).mono ?_
    rintro e w1 ⟨rfl, hR1, hM1⟩
    go_wp2_with fail
    refine (see_any b s tw false σ1 _ hR1 hs a1).mono ?_
    rintro e wq1 ⟨rfl, n1, rfl⟩
    go_wp2_with fail
    refine (hex_any _ _ (bAt_nonneg _ _) (bAt_le _ _)).mono ?_
    rintro e wq1 ⟨rfl, rfl⟩
    go_wp2_with fail
    refine (hex_is b s tw false σ1 _ _ _ _ _ H2 (hR1.drewN n1) hs a1 (.inr (by omega))).mono ?_
    rintro e w2 ⟨rfl, hR2, hM2⟩
    go_wp2_with fail
    all_goals go_ret2
    exact ⟨by rw [HE.out]; first | done | rfl, by rw [HE.out]; exact hR2, (((Mv.refl _ _).drewN _).trans hM1).trans (((Mv.refl _ _).drewN _).trans hM2)⟩
  cases r3
  · have HE : Hid (St.unit s false false σ = (false, false, σ3)) := Lib.hid (by simp [St.unit, St.unitX, St.unitY, St.unitLo, St.unitHi, St.hex2, St.andThen, H1.out, H2.out, H3.out, hf])
    clear hf
    go_enter Tryz.func95, Tryz.ntmps95
    go_wp2_with fail
    refine (see_any b s tw false σ _ h hs ha).mono ?_
    rintro e wq0 ⟨rfl, n0, rfl⟩
    go_wp2_with fail
    refine (hex_any _ _ (bAt_nonneg _ _) (bAt_le _ _)).mono ?_
    rintro e wq0 ⟨rfl, rfl⟩
    go_wp2_with fail
    refine (hex_is b s tw false σ _ _ _ _ _ H1 (h.drewN n0) hs ha (.inr (by omega))).mono ?_
    rintro e w1 ⟨rfl, hR1, hM1⟩
    go_wp2_with fail
    refine (see_any b s tw false σ1 _ hR1 hs a1).mono ?_
    rintro e wq1 ⟨rfl, n1, rfl⟩
    go_wp2_with fail
    refine (hex_any _ _ (bAt_nonneg _ _) (bAt_le _ _)).mono ?_
    rintro e wq1 ⟨rfl, rfl⟩
    go_wp2_with fail
    refine (hex_is b s tw false σ1 _ _ _ _ _ H2 (hR1.drewN n1) hs a1 (.inr (by omega))).mono ?_
    rintro e w2 ⟨rfl, hR2, hM2⟩
    go_wp2_with fail
    refine (hex_is b s tw false σ2 _ _ _ _ _ H3 hR2 hs a2 (.inr (by omega))).mono ?_
    rintro e w3 ⟨rfl, hR3, hM3⟩
    go_wp2_with fail
    all_goals go_ret2
    exact ⟨by rw [HE.out]; first | done | rfl, by rw [HE.out]; exact hR3, ((((Mv.refl _ _).drewN _).trans hM1).trans (((Mv.refl _ _).drewN _).trans hM2)).trans hM3⟩
  cases r4
  · have HE : Hid (St.unit s false false σ = (false, false, σ4)) := Lib.hid (by simp [St.unit, St.unitX, St.unitY, St.unitLo, St.unitHi, St.hex2, St.andThen, H1.out, H2.out, H3.out, H4.out, hf])
    clear hf
    go_enter Tryz.func95, Tryz.ntmps95
    go_wp2_with fail
    refine (see_any b s tw false σ _ h hs ha).mono ?_
    rintro e wq0 ⟨rfl, n0, rfl⟩
    go_wp2_with fail
    refine (hex_any _ _ (bAt_nonneg _ _) (bAt_le _ _)).mono ?_
    rintro e wq0 ⟨rfl, rfl⟩
    go_wp2_with fail
    refine (hex_is b s tw false σ _ _ _ _ _ H1 (h.drewN n0) hs ha (.inr (by omega))).mono ?_
    rintro e w1 ⟨rfl, hR1, hM1⟩
    go_wp2_with fail
    refine (see_any b s tw false σ1 _ hR1 hs a1).mono ?_
    rintro e wq1 ⟨rfl, n1, rfl⟩
    go_wp2_with fail
    refine (hex_any _ _ (bAt_nonneg _ _) (bAt_le _ _)).mono ?_
    rintro e wq1 ⟨rfl, rfl⟩
    go_wp2_with fail
    refine (hex_is b s tw false σ1 _ _ _ _ _ H2 (hR1.drewN n1) hs a1 (.inr (by omega))).mono ?_
    rintro e w2 ⟨rfl, hR2, hM2⟩
    go_wp2_with fail
    refine (hex_is b s tw false σ2 _ _ _ _ _ H3 hR2 hs a2 (.inr (by omega))).mono ?_
    rintro e w3 ⟨rfl, hR3, hM3⟩
    go_wp2_with fail
    refine (hex_is b s tw false σ3 _ _ _ _ _ H4 hR3 hs a3 (.inr (by omega))).mono ?_
    rintro e w4 ⟨rfl, hR4, hM4⟩
    go_wp2_with fail
    all_goals go_ret2
    exact ⟨by rw [HE.out]; first | done | rfl, by rw [HE.out]; exact hR4, (((((Mv.refl _ _).drewN _).trans hM1).trans (((Mv.refl _ _).drewN _).trans hM2)).trans hM3).trans hM4⟩
  by_cases hg : 8 ≤ hexV (bAt s σ1.at_)
  · have hg1 : decide (8 ≤ hexV (bAt s σ1.at_)) = true := by simpa using hg
    have HE : Hid (St.unit s false false σ = (true, true, σ4)) := Lib.hid (by simp [St.unit, St.unitX, St.unitY, St.unitLo, St.unitHi, St.hex2, St.andThen, H1.out, H2.out, H3.out, H4.out, hf, hg])
    clear hf
    go_enter Tryz.func95, Tryz.ntmps95
    go_wp2_with fail
    refine (see_any b s tw false σ _ h hs ha).mono ?_
    rintro e wq0 ⟨rfl, n0, rfl⟩
    go_wp2_with fail
    refine (hex_any _ _ (bAt_nonneg _ _) (bAt_le _ _)).mono ?_
    rintro e wq0 ⟨rfl, rfl⟩
    go_wp2_with fail
    refine (hex_is b s tw false σ _ _ _ _ _ H1 (h.drewN n0) hs ha (.inr (by omega))).mono ?_
    rintro e w1 ⟨rfl, hR1, hM1⟩
    go_wp2_with fail
    refine (see_any b s tw false σ1 _ hR1 hs a1).mono ?_
    rintro e wq1 ⟨rfl, n1, rfl⟩
    go_wp2_with fail
    refine (hex_any _ _ (bAt_nonneg _ _) (bAt_le _ _)).mono ?_
    rintro e wq1 ⟨rfl, rfl⟩
    go_wp2_with fail
    refine (hex_is b s tw false σ1 _ _ _ _ _ H2 (hR1.drewN n1) hs a1 (.inr (by omega))).mono ?_
    rintro e w2 ⟨rfl, hR2, hM2⟩
    go_wp2_with fail
    refine (hex_is b s tw false σ2 _ _ _ _ _ H3 hR2 hs a2 (.inr (by omega))).mono ?_
    rintro e w3 ⟨rfl, hR3, hM3⟩
    go_wp2_with fail
    refine (hex_is b s tw false σ3 _ _ _ _ _ H4 hR3 hs a3 (.inr (by omega))).mono ?_
    rintro e w4 ⟨rfl, hR4, hM4⟩
    go_wp2_with fail
    all_goals go_ret2
    exact ⟨by rw [HE.out]; first | done | rfl, by rw [HE.out]; exact hR4, (((((Mv.refl _ _).drewN _).trans hM1).trans (((Mv.refl _ _).drewN _).trans hM2)).trans hM3).trans hM4⟩
  · have hg1 : decide (8 ≤ hexV (bAt s σ1.at_)) = false := by simpa using hg
    have HE : Hid (St.unit s false false σ = (true, false, σ4)) := Lib.hid (by simp [St.unit, St.unitX, St.unitY, St.unitLo, St.unitHi, St.hex2, St.andThen, H1.out, H2.out, H3.out, H4.out, hf, hg])
    clear hf
    go_enter Tryz.func95, Tryz.ntmps95
    go_wp2_with fail
    refine (see_any b s tw false σ _ h hs ha).mono ?_
    rintro e wq0 ⟨rfl, n0, rfl⟩
    go_wp2_with fail
    refine (hex_any _ _ (bAt_nonneg _ _) (bAt_le _ _)).mono ?_
    rintro e wq0 ⟨rfl, rfl⟩
    go_wp2_with fail
    refine (hex_is b s tw false σ _ _ _ _ _ H1 (h.drewN n0) hs ha (.inr (by omega))).mono ?_
    rintro e w1 ⟨rfl, hR1, hM1⟩
    go_wp2_with fail
    refine (see_any b s tw false σ1 _ hR1 hs a1).mono ?_
    rintro e wq1 ⟨rfl, n1, rfl⟩
    go_wp2_with fail
    refine (hex_any _ _ (bAt_nonneg _ _) (bAt_le _ _)).mono ?_
    rintro e wq1 ⟨rfl, rfl⟩
    go_wp2_with fail
    refine (hex_is b s tw false σ1 _ _ _ _ _ H2 (hR1.drewN n1) hs a1 (.inr (by omega))).mono ?_
    rintro e w2 ⟨rfl, hR2, hM2⟩
    go_wp2_with fail
    refine (hex_is b s tw false σ2 _ _ _ _ _ H3 hR2 hs a2 (.inr (by omega))).mono ?_
    rintro e w3 ⟨rfl, hR3, hM3⟩
    go_wp2_with fail
    refine (hex_is b s tw false σ3 _ _ _ _ _ H4 hR3 hs a3 (.inr (by omega))).mono ?_
    rintro e w4 ⟨rfl, hR4, hM4⟩
    go_wp2_with fail
    all_goals go_ret2
    exact ⟨by rw [HE.out]; first | done | rfl, by rw [HE.out]; exact hR4, (((((Mv.refl _ _).drewN _).trans hM1).trans (((Mv.refl _ _).drewN _).trans hM2)).trans hM3).trans hM4⟩

set_option maxHeartbeats 1000000 in
theorem unit_plain (b : Nat) (s : ByteArray) (tw lo : Bool) (hlo : lo = false) (σ : St) (w : World) (hf : ¬ hexV (bAt s σ.at_) = 13) (h : IsR w b s tw lo σ) (hs : s.size ≤ maxLen) (ha : σ.at_ ≤ s.size) :
    Calls Tryz.prog 95 #[.pointer (some ⟨b, 0, none⟩), .bool false] w fun e w' => e = .returned (.tuple #[.bool (St.unit s lo false σ).1, .bool (St.unit s lo false σ).2.1]) ∧ IsR w' b s tw lo (St.unit s lo false σ).2.2 ∧ Mv b w w' := by
  subst hlo
  obtain ⟨c0, c1, c2, c3, c4, c5, f1, f4, f5⟩ := h.cells
  obtain ⟨r1, σ1, H1⟩ := named (St.hex s σ 0 15)
  obtain ⟨r2, σ2, H2⟩ := named (St.hex s σ1 0 15)
  obtain ⟨r3, σ3, H3⟩ := named (St.hex s σ2 0 15)
  obtain ⟨r4, σ4, H4⟩ := named (St.hex s σ3 0 15)
  have a1 := hex_le H1 ha (by omega)
  have a2 := hex_le H2 a1 (by omega)
  have a3 := hex_le H3 a2 (by omega)
  have hf1 : (hexV (bAt s σ.at_) == 13) = false := by simpa using hf
  cases r1
  · have HE : Hid (St.unit s false false σ = (false, false, σ1)) := Lib.hid (by simp [St.unit, St.unitX, St.unitY, St.unitLo, St.unitHi, St.hex2, St.andThen, H1.out, hf])
    clear hf
    go_enter Tryz.func95, Tryz.ntmps95
    go_wp2_with fail
    refine (see_any b s tw false σ _ h hs ha).mono ?_
    rintro e wq0 ⟨rfl, n0, rfl⟩
    go_wp2_with fail
    refine (hex_any _ _ (bAt_nonneg _ _) (bAt_le _ _)).mono ?_
    rintro e wq0 ⟨rfl, rfl⟩
    go_wp2_with fail
    refine (hex_is b s tw false σ _ _ _ _ _ H1 (h.drewN n0) hs ha (.inr (by omega))).mono ?_
    rintro e w1 ⟨rfl, hR1, hM1⟩
    go_wp2_with fail
    all_goals go_ret2
    exact ⟨by rw [HE.out]; first | done | rfl, by rw [HE.out]; exact hR1, ((Mv.refl _ _).drewN _).trans hM1⟩
  cases r2
  · have HE : Hid (St.unit s false false σ = (false, false, σ2)) := Lib.hid (by simp [St.unit, St.unitX, St.unitY, St.unitLo, St.unitHi, St.hex2, St.andThen, H1.out, H2.out, hf])
    clear hf
    go_enter Tryz.func95, Tryz.ntmps95
    go_wp2_with fail
    refine (see_any b s tw false σ _ h hs ha).mono ?_
    rintro e wq0 ⟨rfl, n0, rfl⟩
    go_wp2_with fail
    refine (hex_any _ _ (bAt_nonneg _ _) (bAt_le _ _)).mono ?_
    rintro e wq0 ⟨rfl, rfl⟩
    go_wp2_with fail
    refine (hex_is b s tw false σ _ _ _ _ _ H1 (h.drewN n0) hs ha (.inr (by omega))).mono ?_
    rintro e w1 ⟨rfl, hR1, hM1⟩
    go_wp2_with fail
    refine (see_any b s tw false σ1 _ hR1 hs a1).mono ?_
    rintro e wq1 ⟨rfl, n1, rfl⟩
    go_wp2_with fail
    refine (hex_any _ _ (bAt_nonneg _ _) (bAt_le _ _)).mono ?_
    rintro e wq1 ⟨rfl, rfl⟩
    go_wp2_with fail
    refine (hex_is b s tw false σ1 _ _ _ _ _ H2 (hR1.drewN n1) hs a1 (.inr (by omega))).mono ?_
    rintro e w2 ⟨rfl, hR2, hM2⟩
    go_wp2_with fail
    all_goals go_ret2
    exact ⟨by rw [HE.out]; first | done | rfl, by rw [HE.out]; exact hR2, (((Mv.refl _ _).drewN _).trans hM1).trans (((Mv.refl _ _).drewN _).trans hM2)⟩
  cases r3
  · have HE : Hid (St.unit s false false σ = (false, false, σ3)) := Lib.hid (by simp [St.unit, St.unitX, St.unitY, St.unitLo, St.unitHi, St.hex2, St.andThen, H1.out, H2.out, H3.out, hf])
    clear hf
    go_enter Tryz.func95, Tryz.ntmps95
    go_wp2_with fail
    refine (see_any b s tw false σ _ h hs ha).mono ?_
    rintro e wq0 ⟨rfl, n0, rfl⟩
    go_wp2_with fail
    refine (hex_any _ _ (bAt_nonneg _ _) (bAt_le _ _)).mono ?_
    rintro e wq0 ⟨rfl, rfl⟩
    go_wp2_with fail
    refine (hex_is b s tw false σ _ _ _ _ _ H1 (h.drewN n0) hs ha (.inr (by omega))).mono ?_
    rintro e w1 ⟨rfl, hR1, hM1⟩
    go_wp2_with fail
    refine (see_any b s tw false σ1 _ hR1 hs a1).mono ?_
    rintro e wq1 ⟨rfl, n1, rfl⟩
    go_wp2_with fail
    refine (hex_any _ _ (bAt_nonneg _ _) (bAt_le _ _)).mono ?_
    rintro e wq1 ⟨rfl, rfl⟩
    go_wp2_with fail
    refine (hex_is b s tw false σ1 _ _ _ _ _ H2 (hR1.drewN n1) hs a1 (.inr (by omega))).mono ?_
    rintro e w2 ⟨rfl, hR2, hM2⟩
    go_wp2_with fail
    refine (hex_is b s tw false σ2 _ _ _ _ _ H3 hR2 hs a2 (.inr (by omega))).mono ?_
    rintro e w3 ⟨rfl, hR3, hM3⟩
    go_wp2_with fail
    all_goals go_ret2
    exact ⟨by rw [HE.out]; first | done | rfl, by rw [HE.out]; exact hR3, ((((Mv.refl _ _).drewN _).trans hM1).trans (((Mv.refl _ _).drewN _).trans hM2)).trans hM3⟩
  cases r4
  · have HE : Hid (St.unit s false false σ = (false, false, σ4)) := Lib.hid (by simp [St.unit, St.unitX, St.unitY, St.unitLo, St.unitHi, St.hex2, St.andThen, H1.out, H2.out, H3.out, H4.out, hf])
    clear hf
    go_enter Tryz.func95, Tryz.ntmps95
    go_wp2_with fail
    refine (see_any b s tw false σ _ h hs ha).mono ?_
    rintro e wq0 ⟨rfl, n0, rfl⟩
    go_wp2_with fail
    refine (hex_any _ _ (bAt_nonneg _ _) (bAt_le _ _)).mono ?_
    rintro e wq0 ⟨rfl, rfl⟩
    go_wp2_with fail
    refine (hex_is b s tw false σ _ _ _ _ _ H1 (h.drewN n0) hs ha (.inr (by omega))).mono ?_
    rintro e w1 ⟨rfl, hR1, hM1⟩
    go_wp2_with fail
    refine (see_any b s tw false σ1 _ hR1 hs a1).mono ?_
    rintro e wq1 ⟨rfl, n1, rfl⟩
    go_wp2_with fail
    refine (hex_any _ _ (bAt_nonneg _ _) (bAt_le _ _)).mono ?_
    rintro e wq1 ⟨rfl, rfl⟩
    go_wp2_with fail
    refine (hex_is b s tw false σ1 _ _ _ _ _ H2 (hR1.drewN n1) hs a1 (.inr (by omega))).mono ?_
    rintro e w2 ⟨rfl, hR2, hM2⟩
    go_wp2_with fail
    refine (hex_is b s tw false σ2 _ _ _ _ _ H3 hR2 hs a2 (.inr (by omega))).mono ?_
    rintro e w3 ⟨rfl, hR3, hM3⟩
    go_wp2_with fail
    refine (hex_is b s tw false σ3 _ _ _ _ _ H4 hR3 hs a3 (.inr (by omega))).mono ?_
    rintro e w4 ⟨rfl, hR4, hM4⟩
    go_wp2_with fail
    all_goals go_ret2
    exact ⟨by rw [HE.out]; first | done | rfl, by rw [HE.out]; exact hR4, (((((Mv.refl _ _).drewN _).trans hM1).trans (((Mv.refl _ _).drewN _).trans hM2)).trans hM3).trans hM4⟩
  · have HE : Hid (St.unit s false false σ = (true, false, σ4)) := Lib.hid (by simp [St.unit, St.unitX, St.unitY, St.unitLo, St.unitHi, St.hex2, St.andThen, H1.out, H2.out, H3.out, H4.out, hf])
    clear hf
    go_enter Tryz.func95, Tryz.ntmps95
    go_wp2_with fail
    refine (see_any b s tw false σ _ h hs ha).mono ?_
    rintro e wq0 ⟨rfl, n0, rfl⟩
    go_wp2_with fail
    refine (hex_any _ _ (bAt_nonneg _ _) (bAt_le _ _)).mono ?_
    rintro e wq0 ⟨rfl, rfl⟩
    go_wp2_with fail
    refine (hex_is b s tw false σ _ _ _ _ _ H1 (h.drewN n0) hs ha (.inr (by omega))).mono ?_
    rintro e w1 ⟨rfl, hR1, hM1⟩
    go_wp2_with fail
    refine (see_any b s tw false σ1 _ hR1 hs a1).mono ?_
    rintro e wq1 ⟨rfl, n1, rfl⟩
    go_wp2_with fail
    refine (hex_any _ _ (bAt_nonneg _ _) (bAt_le _ _)).mono ?_
    rintro e wq1 ⟨rfl, rfl⟩
    go_wp2_with fail
    refine (hex_is b s tw false σ1 _ _ _ _ _ H2 (hR1.drewN n1) hs a1 (.inr (by omega))).mono ?_
    rintro e w2 ⟨rfl, hR2, hM2⟩
    go_wp2_with fail
    refine (hex_is b s tw false σ2 _ _ _ _ _ H3 hR2 hs a2 (.inr (by omega))).mono ?_
    rintro e w3 ⟨rfl, hR3, hM3⟩
    go_wp2_with fail
    refine (hex_is b s tw false σ3 _ _ _ _ _ H4 hR3 hs a3 (.inr (by omega))).mono ?_
    rintro e w4 ⟨rfl, hR4, hM4⟩
    go_wp2_with fail
    all_goals go_ret2
    exact ⟨by rw [HE.out]; first | done | rfl, by rw [HE.out]; exact hR4, (((((Mv.refl _ _).drewN _).trans hM1).trans (((Mv.refl _ _).drewN _).trans hM2)).trans hM3).trans hM4⟩

theorem unit_any (b : Nat) (s : ByteArray) (tw lo low : Bool) (σ : St) (w : World) (h : IsR w b s tw lo σ) (hs : s.size ≤ maxLen) (ha : σ.at_ ≤ s.size) :
    Calls Tryz.prog 95 #[.pointer (some ⟨b, 0, none⟩), .bool low] w fun e w' => e = .returned (.tuple #[.bool (St.unit s lo low σ).1, .bool (St.unit s lo low σ).2.1]) ∧ IsR w' b s tw lo (St.unit s lo low σ).2.2 ∧ Mv b w w' := by
  cases hlo : lo
  · cases hw : low
    · by_cases hf : hexV (bAt s σ.at_) = 13
      · exact unit_first b s tw false rfl σ w hf (hlo ▸ h) hs ha
      · exact unit_plain b s tw false rfl σ w hf (hlo ▸ h) hs ha
    · exact unit_low b s tw false rfl σ w (hlo ▸ h) hs ha
  · have h1 := unit_loose b s tw low σ w (hlo ▸ h) hs ha
    have e : St.unit s true low σ = ((St.hex4 s σ).1, false, (St.hex4 s σ).2) := by simp [St.unit]
    rw [e]; exact h1

end Go.Proofs.YtjbffgjclnjkoaaGreatDoor
