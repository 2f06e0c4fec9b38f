/- Contracts of the methods of the reader of the reference: characters, strings, white space; how reading a part came out. -/
import Derived.Test.YtjbffgjclnjkoaaGreatDoorRd3
namespace Go.Proofs.YtjbffgjclnjkoaaGreatDoor
set_option linter.unusedVariables false
set_option linter.unusedSimpArgs false
open Go.RowKit

theorem in_text {s : ByteArray} {i : Nat} {k : Int} (h : bAt s i = k) (hk : k ≠ 0) : i < s.size := by
  by_cases hl : i < s.size
  · exact hl
  · rw [bAt_ge hl] at h; omega
theorem in_text' {s : ByteArray} {i : Nat} (h : 0 < bAt s i) : i < s.size := by
  by_cases hl : i < s.size
  · exact hl
  · rw [bAt_ge hl] at h; omega

set_option maxHeartbeats 1000000 in
theorem rune2 (b : Nat) (s : ByteArray) (tw lo : Bool) (σ : St) (w : World) (h : IsR w b s tw lo σ) (hs : s.size ≤ maxLen) (ha : σ.at_ < s.size) (hc1 : 194 ≤ bAt s σ.at_) (hc2 : bAt s σ.at_ ≤ 223) :
    Calls Tryz.prog 66 #[.pointer (some ⟨b, 0, none⟩)] w fun e w' => e = .returned (.bool (St.rune s σ).1) ∧ IsR w' b s tw lo (St.rune s σ).2 ∧ Mv b w w' := by
  obtain ⟨c0, c1, c2, c3, c4, c5, f1, f4, f5⟩ := h.cells
  have hs' := hs
  unfold maxLen at hs'
  obtain ⟨r1, σ1, H1⟩ := named (St.need s { σ with at_ := σ.at_ + 1 } 128 191)
  have HE : Hid (St.rune s σ = (r1, σ1)) := Lib.hid (by simp [St.rune, hc1, hc2, H1.out])
  have a0 : ({ σ with at_ := σ.at_ + 1 } : St).at_ ≤ s.size := by simp; omega
  go_enter Tryz.func66, Tryz.ntmps66
  go_wp2_with fail
  refine (see_any b s tw lo σ _ h hs (Nat.le_of_lt ha)).mono ?_
  rintro e w1 ⟨rfl, n, rfl⟩
  go_wp2_with fail
  refine (need_is b s tw lo _ _ _ _ _ _ H1 ((h.drewN n).setAt _) hs a0).mono ?_
  rintro e w2 ⟨rfl, hR, hM⟩
  go_wp2_with fail
  all_goals go_ret
  exact ⟨by rw [HE.out]; first | done | rfl, by rw [HE.out]; exact hR, (((Mv.refl _ _).drewN _).setCell _ _).trans hM⟩

set_option maxHeartbeats 1000000 in
theorem rune3 (b : Nat) (s : ByteArray) (tw lo : Bool) (σ : St) (w : World) (h : IsR w b s tw lo σ) (hs : s.size ≤ maxLen) (ha : σ.at_ < s.size) (hc1 : 224 ≤ bAt s σ.at_) (hc2 : bAt s σ.at_ ≤ 239) (x y : Int)
    (hxy : bAt s σ.at_ = 224 ∧ x = 160 ∧ y = 191 ∨ bAt s σ.at_ = 237 ∧ x = 128 ∧ y = 159 ∨ bAt s σ.at_ ≠ 224 ∧ bAt s σ.at_ ≠ 237 ∧ x = 128 ∧ y = 191) :
    Calls Tryz.prog 66 #[.pointer (some ⟨b, 0, none⟩)] w fun e w' => e = .returned (.bool (St.rune s σ).1) ∧ IsR w' b s tw lo (St.rune s σ).2 ∧ Mv b w w' := by
  obtain ⟨c0, c1, c2, c3, c4, c5, f1, f4, f5⟩ := h.cells
  have hs' := hs
  unfold maxLen at hs'
  obtain ⟨r1, σ1, H1⟩ := named (St.need s { σ with at_ := σ.at_ + 1 } x y)
  obtain ⟨r2, σ2, H2⟩ := named (St.need s σ1 128 191)
  have E0 : Hid (St.rune s σ = if r1 then (r2, σ2) else (false, σ1)) := Lib.hid (by
    have hn : ¬ bAt s σ.at_ ≤ 223 := by omega
    rcases hxy with ⟨e, rfl, rfl⟩ | ⟨e, rfl, rfl⟩ | ⟨e, e', rfl, rfl⟩
    · simp [St.rune, e, H1.out, St.andThen, H2.out]
    · simp [St.rune, e, H1.out, St.andThen, H2.out]
    · simp [St.rune, hn, hc1, hc2, e, e', H1.out, St.andThen, H2.out])
  have a0 : ({ σ with at_ := σ.at_ + 1 } : St).at_ ≤ s.size := by simp; omega
  have a1 := need_le H1 a0
  have hk1 : (bAt s σ.at_ == 224) = decide (x = 160) := by rcases hxy with ⟨e, rfl, rfl⟩ | ⟨e, rfl, rfl⟩ | ⟨e, e', rfl, rfl⟩ <;> simp [e]
  have hk2 : (bAt s σ.at_ == 237) = decide (y = 159) := by rcases hxy with ⟨e, rfl, rfl⟩ | ⟨e, rfl, rfl⟩ | ⟨e, e', rfl, rfl⟩ <;> simp [e] <;> assumption
  have hxy' : x = 160 ∧ y = 191 ∨ x = 128 ∧ y = 159 ∨ x = 128 ∧ y = 191 := by rcases hxy with ⟨_, h⟩ | ⟨_, h⟩ | ⟨_, _, h⟩ <;> simp [h]
  clear hxy
  rcases hxy' with ⟨rfl, rfl⟩ | ⟨rfl, rfl⟩ | ⟨rfl, rfl⟩
  all_goals
    simp only [Int.reduceEq, decide_true, decide_false] at hk1 hk2
    go_enter Tryz.func66, Tryz.ntmps66
    go_wp2_with fail
    refine (see_any b s tw lo σ _ h hs (Nat.le_of_lt ha)).mono ?_
    rintro e w1 ⟨rfl, n, rfl⟩
    go_wp2_with fail
    refine (need_is b s tw lo _ _ _ _ _ _ H1 ((h.drewN n).setAt _) hs a0).mono ?_
    rintro e w2 ⟨rfl, hR, hM⟩
    cases r1
    · go_wp2_with fail
      all_goals go_ret
      exact ⟨by rw [E0.out]; first | done | rfl, by rw [E0.out]; exact hR, (((Mv.refl _ _).drewN _).setCell _ _).trans hM⟩
    · go_wp2_with fail
      refine (need_is b s tw lo _ _ _ _ _ _ H2 hR hs a1).mono ?_
      rintro e w3 ⟨rfl, hR2, hM2⟩
      go_wp2_with fail
      all_goals go_ret
      exact ⟨by rw [E0.out]; first | done | rfl, by rw [E0.out]; exact hR2, ((((Mv.refl _ _).drewN _).setCell _ _).trans hM).trans hM2⟩

set_option maxHeartbeats 1000000 in
theorem rune4 (b : Nat) (s : ByteArray) (tw lo : Bool) (σ : St) (w : World) (h : IsR w b s tw lo σ) (hs : s.size ≤ maxLen) (ha : σ.at_ < s.size) (hc1 : 240 ≤ bAt s σ.at_) (hc2 : bAt s σ.at_ ≤ 244) (x y : Int)
    (hxy : bAt s σ.at_ = 240 ∧ x = 144 ∧ y = 191 ∨ bAt s σ.at_ = 244 ∧ x = 128 ∧ y = 143 ∨ bAt s σ.at_ ≠ 240 ∧ bAt s σ.at_ ≠ 244 ∧ x = 128 ∧ y = 191) :
    Calls Tryz.prog 66 #[.pointer (some ⟨b, 0, none⟩)] w fun e w' => e = .returned (.bool (St.rune s σ).1) ∧ IsR w' b s tw lo (St.rune s σ).2 ∧ Mv b w w' := by
  obtain ⟨c0, c1, c2, c3, c4, c5, f1, f4, f5⟩ := h.cells
  have hs' := hs
  unfold maxLen at hs'
  obtain ⟨r1, σ1, H1⟩ := named (St.need s { σ with at_ := σ.at_ + 1 } x y)
  obtain ⟨r2, σ2, H2⟩ := named (St.need s σ1 128 191)
  obtain ⟨r3, σ3, H3⟩ := named (St.need s σ2 128 191)
  have E0 : Hid (St.rune s σ = if r1 then (if r2 then (r3, σ3) else (false, σ2)) else (false, σ1)) := Lib.hid (by
    have hn : ¬ bAt s σ.at_ ≤ 223 := by omega
    have hn' : ¬ bAt s σ.at_ ≤ 239 := by omega
    rcases hxy with ⟨e, rfl, rfl⟩ | ⟨e, rfl, rfl⟩ | ⟨e, e', rfl, rfl⟩
    · simp [St.rune, e, H1.out, St.andThen, H2.out, H3.out]
    · simp [St.rune, e, H1.out, St.andThen, H2.out, H3.out]
    · simp [St.rune, hn, hn', hc1, hc2, e, e', H1.out, St.andThen, H2.out, H3.out])
  have a0 : ({ σ with at_ := σ.at_ + 1 } : St).at_ ≤ s.size := by simp; omega
  have a1 := need_le H1 a0
  have a2 := need_le H2 a1
  have hk1 : (bAt s σ.at_ == 240) = decide (x = 144) := by rcases hxy with ⟨e, rfl, rfl⟩ | ⟨e, rfl, rfl⟩ | ⟨e, e', rfl, rfl⟩ <;> simp [e]
  have hk2 : (bAt s σ.at_ == 244) = decide (y = 143) := by rcases hxy with ⟨e, rfl, rfl⟩ | ⟨e, rfl, rfl⟩ | ⟨e, e', rfl, rfl⟩ <;> simp [e] <;> assumption
  have hxy' : x = 144 ∧ y = 191 ∨ x = 128 ∧ y = 143 ∨ x = 128 ∧ y = 191 := by rcases hxy with ⟨_, h⟩ | ⟨_, h⟩ | ⟨_, _, h⟩ <;> simp [h]
  clear hxy
  rcases hxy' with ⟨rfl, rfl⟩ | ⟨rfl, rfl⟩ | ⟨rfl, rfl⟩
  all_goals
    simp only [Int.reduceEq, decide_true, decide_false] at hk1 hk2
    go_enter Tryz.func66, Tryz.ntmps66
    go_wp2_with fail
    refine (see_any b s tw lo σ _ h hs (Nat.le_of_lt ha)).mono ?_
    rintro e w1 ⟨rfl, n, rfl⟩
    go_wp2_with fail
    refine (need_is b s tw lo _ _ _ _ _ _ H1 ((h.drewN n).setAt _) hs a0).mono ?_
    rintro e w2 ⟨rfl, hR, hM⟩
    cases r1
    · go_wp2_with fail
      all_goals go_ret
      exact ⟨by rw [E0.out]; first | done | rfl, by rw [E0.out]; exact hR, (((Mv.refl _ _).drewN _).setCell _ _).trans hM⟩
    · go_wp2_with fail
      refine (need_is b s tw lo _ _ _ _ _ _ H2 hR hs a1).mono ?_
      rintro e w3 ⟨rfl, hR2, hM2⟩
      cases r2
      · go_wp2_with fail
        all_goals go_ret
        exact ⟨by rw [E0.out]; first | done | rfl, by rw [E0.out]; exact hR2, ((((Mv.refl _ _).drewN _).setCell _ _).trans hM).trans hM2⟩
      · go_wp2_with fail
        refine (need_is b s tw lo _ _ _ _ _ _ H3 hR2 hs a2).mono ?_
        rintro e w4 ⟨rfl, hR3, hM3⟩
        go_wp2_with fail
        all_goals go_ret
        exact ⟨by rw [E0.out]; first | done | rfl, by rw [E0.out]; exact hR3, (((((Mv.refl _ _).drewN _).setCell _ _).trans hM).trans hM2).trans hM3⟩

set_option maxHeartbeats 1000000 in
theorem rune_no (b : Nat) (s : ByteArray) (tw lo : Bool) (σ : St) (w : World) (h : IsR w b s tw lo σ) (hs : s.size ≤ maxLen) (ha : σ.at_ ≤ s.size)
    (hc : bAt s σ.at_ < 194 ∨ 223 < bAt s σ.at_ ∧ bAt s σ.at_ < 224 ∨ 239 < bAt s σ.at_ ∧ bAt s σ.at_ < 240 ∨ 244 < bAt s σ.at_) :
    Calls Tryz.prog 66 #[.pointer (some ⟨b, 0, none⟩)] w fun e w' => e = .returned (.bool (St.rune s σ).1) ∧ IsR w' b s tw lo (St.rune s σ).2 ∧ Mv b w w' := by
  have HE : Hid (St.rune s σ = (false, σ.fail 4)) := Lib.hid (by
    unfold St.rune; dsimp only; rw [if_neg (by omega), if_neg (by omega), if_neg (by omega)])
  have hc' : bAt s σ.at_ < 194 ∨ 244 < bAt s σ.at_ := by omega
  clear hc
  rcases hc' with hc | hc
  all_goals
    go_enter Tryz.func66, Tryz.ntmps66
    go_wp2_with fail
    refine (see_any b s tw lo σ _ h hs ha).mono ?_
    rintro e w1 ⟨rfl, n, rfl⟩
    go_wp2_with fail
    refine (fail_any b s tw lo σ _ _ (h.drewN n)).mono ?_
    rintro e w2 ⟨rfl, hR, hM⟩
    go_wp2_with fail
    all_goals go_ret
    exact ⟨by rw [HE.out]; first | done | rfl, by rw [HE.out]; exact hR, ((Mv.refl _ _).drewN _).trans hM⟩

theorem rune_any (b : Nat) (s : ByteArray) (tw lo : Bool) (σ : St) (w : World) (h : IsR w b s tw lo σ) (hs : s.size ≤ maxLen) (ha : σ.at_ ≤ s.size) :
    Calls Tryz.prog 66 #[.pointer (some ⟨b, 0, none⟩)] w fun e w' => e = .returned (.bool (St.rune s σ).1) ∧ IsR w' b s tw lo (St.rune s σ).2 ∧ Mv b w w' := by
  by_cases h0 : bAt s σ.at_ < 194 ∨ 244 < bAt s σ.at_
  · exact rune_no b s tw lo σ w h hs ha (by omega)
  have hl : σ.at_ < s.size := in_text' (by omega)
  by_cases h2 : bAt s σ.at_ ≤ 223
  · exact rune2 b s tw lo σ w h hs hl (by omega) h2
  by_cases h3 : bAt s σ.at_ ≤ 239
  · by_cases e1 : bAt s σ.at_ = 224
    · exact rune3 b s tw lo σ w h hs hl (by omega) h3 160 191 (.inl ⟨e1, rfl, rfl⟩)
    by_cases e2 : bAt s σ.at_ = 237
    · exact rune3 b s tw lo σ w h hs hl (by omega) h3 128 159 (.inr (.inl ⟨e2, rfl, rfl⟩))
    exact rune3 b s tw lo σ w h hs hl (by omega) h3 128 191 (.inr (.inr ⟨e1, e2, rfl, rfl⟩))
  · by_cases e1 : bAt s σ.at_ = 240
    · exact rune4 b s tw lo σ w h hs hl (by omega) (by omega) 144 191 (.inl ⟨e1, rfl, rfl⟩)
    by_cases e2 : bAt s σ.at_ = 244
    · exact rune4 b s tw lo σ w h hs hl (by omega) (by omega) 128 143 (.inr (.inl ⟨e2, rfl, rfl⟩))
    exact rune4 b s tw lo σ w h hs hl (by omega) (by omega) 128 191 (.inr (.inr ⟨e1, e2, rfl, rfl⟩))

theorem rune_is (b : Nat) (s : ByteArray) (tw lo : Bool) (σ : St) (w : World) (r : Bool) (σ' : St) (H : Hid (St.rune s σ = (r, σ'))) (h : IsR w b s tw lo σ) (hs : s.size ≤ maxLen) (ha : σ.at_ ≤ s.size) :
    Calls Tryz.prog 66 #[.pointer (some ⟨b, 0, none⟩)] w fun e w' => e = .returned (.bool r) ∧ IsR w' b s tw lo σ' ∧ Mv b w w' := by
  have h1 := rune_any b s tw lo σ w h hs ha
  rw [H.out] at h1
  exact h1
end Go.Proofs.YtjbffgjclnjkoaaGreatDoor
