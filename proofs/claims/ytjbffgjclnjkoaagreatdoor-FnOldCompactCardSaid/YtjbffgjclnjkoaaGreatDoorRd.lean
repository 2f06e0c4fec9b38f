/- Contracts of the methods of the reader of the reference: each does what the plain function of its name does. -/
import Derived.Test.YtjbffgjclnjkoaaGreatDoorRows
import Derived.Test.YtjbffgjclnjkoaaGreatDoorPl
import Derived.WalkKit
import Derived.WalkLawsBesides
import Derived.WalkSpells
import Derived.Lib.Hide
import Derived.Deep.QuietTactic
import Derived.BigQuiet
namespace Go.Proofs.YtjbffgjclnjkoaaGreatDoor
set_option linter.unusedVariables false
set_option linter.unusedSimpArgs false
open Go.RowKit

theorem ret_int {k : IntKind} {a b : Int} (h : a = b) : Ending.returned (.int k a) = .returned (.int k b) := by rw [h]

theorem isSpace (c : Int) (w : World) :
    Calls Tryz.prog 33 #[.int .u8 c] w fun e w' => e = .returned (.bool (isSp c)) ∧ w' = w := by
  go_enter Tryz.func33, Tryz.ntmps33
  go_wp2
  all_goals go_ret
  all_goals simp [isSp, *]

theorem hex_any (c : Int) (w : World) (h0 : 0 ≤ c) (h1 : c ≤ 255) :
    Calls Tryz.prog 88 #[.int .u8 c] w fun e w' => e = .returned (.int .i64 (hexV c)) ∧ w' = w := by
  go_enter Tryz.func88, Tryz.ntmps88
  go_wp2
  all_goals go_ret
  all_goals refine ⟨ret_int ?_, rfl⟩
  all_goals unfold hexV
  all_goals (repeat' split)
  all_goals omega

theorem fail_any (b : Nat) (s : ByteArray) (tw lo : Bool) (σ : St) (k : Int) (w : World) (h : IsR w b s tw lo σ) :
    Calls Tryz.prog 16 #[.pointer (some ⟨b, 0, none⟩), .int .i64 k] w fun e w' => e = .returned (.bool false) ∧ IsR w' b s tw lo (σ.fail k) ∧ Mv b w w' := by
  obtain ⟨c0, c1, c2, c3, c4, c5, f1, f4, f5⟩ := h.cells
  by_cases hk : σ.fault = 0
  · have hk' : (σ.fault == 0) = true := by simp [hk]
    have e : σ.fail k = { σ with fault := k } := by simp [St.fail, hk]
    rw [e]; clear e hk
    go_enter Tryz.func16, Tryz.ntmps16
    go_wp2
    all_goals go_ret
    exact ⟨rfl, h.setFault k, (Mv.refl _ _).setCell _ _⟩
  · have hk' : (σ.fault == 0) = false := by simp [hk]
    have e : σ.fail k = σ := by simp [St.fail, hk]
    rw [e]; clear e hk
    go_enter Tryz.func16, Tryz.ntmps16
    go_wp2
    all_goals go_ret
    exact ⟨rfl, h, (Mv.refl _ _)⟩

theorem see_any (b : Nat) (s : ByteArray) (tw lo : Bool) (σ : St) (w : World) (h : IsR w b s tw lo σ) (hs : s.size ≤ maxLen) (ha : σ.at_ ≤ s.size) :
    Calls Tryz.prog 29 #[.pointer (some ⟨b, 0, none⟩)] w fun e w' => e = .returned (.int .u8 (bAt s σ.at_)) ∧ ∃ n, w' = w.drewN n := by
  obtain ⟨c0, c1, c2, c3, c4, c5, f1, f4, f5⟩ := h.cells
  unfold maxLen at hs
  by_cases hlt : σ.at_ < s.size
  · have HE := Lib.hid (bAt_lt hlt)
    go_enter Tryz.func29, Tryz.ntmps29
    go_wp2
    go_quiet (fail)
    go_wp2
    go_quiet (fail)
    go_wp2
    all_goals go_ret
    exact ⟨by rw [HE.out]; first | done | rfl, ⟨_, World.drewN_drewN _ _ _⟩⟩
  · have HE := Lib.hid (bAt_ge hlt)
    go_enter Tryz.func29, Tryz.ntmps29
    go_wp2
    go_quiet (fail)
    go_wp2
    all_goals go_ret
    exact ⟨by rw [HE.out]; first | done | rfl, ⟨_, rfl⟩⟩


/-- One byte of a reader's own word, in its three forms. -/
theorem need_any (b : Nat) (s : ByteArray) (tw lo : Bool) (σ : St) (x y : Int) (w : World) (h : IsR w b s tw lo σ) (hs : s.size ≤ maxLen) (ha : σ.at_ ≤ s.size) :
    Calls Tryz.prog 54 #[.pointer (some ⟨b, 0, none⟩), .int .u8 x, .int .u8 y] w fun e w' => e = .returned (.bool (St.need s σ x y).1) ∧ IsR w' b s tw lo (St.need s σ x y).2 ∧ Mv b w w' := by
  obtain ⟨c0, c1, c2, c3, c4, c5, f1, f4, f5⟩ := h.cells
  unfold maxLen at hs
  by_cases hlt : σ.at_ < s.size
  · have hge : decide (s.size ≤ σ.at_) = false := by simpa using hlt
    have hge' : ¬ s.size ≤ σ.at_ := by omega
    have e0 := bAt_lt hlt
    by_cases hx : x ≤ (s[σ.at_].toNat : Int)
    · have hx1 : decide ((s[σ.at_].toNat : Int) < x) = false := by simpa using hx
      by_cases hy : (s[σ.at_].toNat : Int) ≤ y
      · have hy1 : decide (y < (s[σ.at_].toNat : Int)) = false := by simpa using hy
        have HE : Hid (St.need s σ x y = (true, { σ with at_ := σ.at_ + 1 })) := Lib.hid (by simp [St.need, hlt, e0, hx, hy])
        clear e0 hx hy
        go_enter Tryz.func54, Tryz.ntmps54
        go_wp2_with fail
        go_quiet (fail)
        go_wp2
        all_goals go_ret
        exact ⟨by rw [HE.out]; first | done | rfl, by rw [HE.out]; exact (h.drewN nq).setAt _, ((Mv.refl _ _).drewN _).setCell _ _⟩
      · have hy1 : decide (y < (s[σ.at_].toNat : Int)) = true := by simpa using hy
        have HE : Hid (St.need s σ x y = (false, σ.fail 4)) := Lib.hid (by simp [St.need, hlt, e0, hx, hy])
        clear e0 hx hy
        go_enter Tryz.func54, Tryz.ntmps54
        go_wp2_with fail
        go_quiet (fail)
        go_wp2_with fail
        refine (fail_any b s tw lo σ _ _ (h.drewN nq)).mono ?_
        rintro e w1 ⟨rfl, hR, hM⟩
        go_wp2
        all_goals go_ret
        exact ⟨by rw [HE.out]; first | done | rfl, by rw [HE.out]; exact hR, ((Mv.refl _ _).drewN _).trans hM⟩
    · have hx1 : decide ((s[σ.at_].toNat : Int) < x) = true := by simpa using hx
      have HE : Hid (St.need s σ x y = (false, σ.fail 4)) := Lib.hid (by simp [St.need, hlt, e0, hx])
      clear e0 hx
      go_enter Tryz.func54, Tryz.ntmps54
      go_wp2_with fail
      go_quiet (fail)
      go_wp2_with fail
      refine (fail_any b s tw lo σ _ _ (h.drewN nq)).mono ?_
      rintro e w1 ⟨rfl, hR, hM⟩
      go_wp2
      all_goals go_ret
      exact ⟨by rw [HE.out]; first | done | rfl, by rw [HE.out]; exact hR, ((Mv.refl _ _).drewN _).trans hM⟩
  · have hge : decide (s.size ≤ σ.at_) = true := by simpa using hlt
    have hge' : s.size ≤ σ.at_ := by omega
    have HE : Hid (St.need s σ x y = (false, σ.fail 4)) := Lib.hid (by simp [St.need, hlt])
    go_enter Tryz.func54, Tryz.ntmps54
    go_wp2_with fail
    go_quiet (fail)
    go_wp2_with fail
    refine (fail_any b s tw lo σ _ _ (h.drewN nq)).mono ?_
    rintro e w1 ⟨rfl, hR, hM⟩
    go_wp2
    all_goals go_ret
    exact ⟨by rw [HE.out]; first | done | rfl, by rw [HE.out]; exact hR, ((Mv.refl _ _).drewN _).trans hM⟩

theorem hexm_any (b : Nat) (s : ByteArray) (tw lo : Bool) (σ : St) (x y : Int) (w : World) (h : IsR w b s tw lo σ) (hs : s.size ≤ maxLen) (ha : σ.at_ ≤ s.size) (hat : σ.at_ < s.size ∨ 0 ≤ x) :
    Calls Tryz.prog 112 #[.pointer (some ⟨b, 0, none⟩), .int .i64 x, .int .i64 y] w fun e w' => e = .returned (.bool (St.hex s σ x y).1) ∧ IsR w' b s tw lo (St.hex s σ x y).2 ∧ Mv b w w' := by
  have hb0 := bAt_nonneg s σ.at_
  have hb1 := bAt_le s σ.at_
  have hge : ¬ σ.at_ < s.size → hexV (bAt s σ.at_) = -1 := fun hn => by rw [bAt_ge hn]; rfl
  by_cases hx : hexV (bAt s σ.at_) < x
  · have HE : Hid (St.hex s σ x y = (false, σ.fail 4)) := Lib.hid (by simp [St.hex, hx])
    have hx1 : decide (hexV (bAt s σ.at_) < x) = true := by simpa using hx
    clear hge
    go_enter Tryz.func112, Tryz.ntmps112
    go_wp2_with fail
    refine (see_any b s tw lo σ _ h hs ha).mono ?_
    rintro e w1 ⟨rfl, n, rfl⟩
    go_wp2_with fail
    refine (hex_any _ _ hb0 hb1).mono ?_
    rintro e w1 ⟨rfl, rfl⟩
    go_wp2_with fail
    refine (fail_any b s tw lo σ _ _ (h.drewN n)).mono ?_
    rintro e w1 ⟨rfl, hR, hM⟩
    go_wp2
    all_goals go_ret
    exact ⟨by rw [HE.out]; first | done | rfl, by rw [HE.out]; exact hR, ((Mv.refl _ _).drewN _).trans hM⟩
  · have hx1 : decide (hexV (bAt s σ.at_) < x) = false := by simpa using hx
    by_cases hy : y < hexV (bAt s σ.at_)
    · have HE : Hid (St.hex s σ x y = (false, σ.fail 4)) := Lib.hid (by simp [St.hex, hx, hy])
      have hy1 : decide (y < hexV (bAt s σ.at_)) = true := by simpa using hy
      clear hge
      go_enter Tryz.func112, Tryz.ntmps112
      go_wp2_with fail
      refine (see_any b s tw lo σ _ h hs ha).mono ?_
      rintro e w1 ⟨rfl, n, rfl⟩
      go_wp2_with fail
      refine (hex_any _ _ hb0 hb1).mono ?_
      rintro e w1 ⟨rfl, rfl⟩
      go_wp2_with fail
      refine (fail_any b s tw lo σ _ _ (h.drewN n)).mono ?_
      rintro e w1 ⟨rfl, hR, hM⟩
      go_wp2
      all_goals go_ret
      exact ⟨by rw [HE.out]; first | done | rfl, by rw [HE.out]; exact hR, ((Mv.refl _ _).drewN _).trans hM⟩
    · have HE : Hid (St.hex s σ x y = (true, { σ with at_ := σ.at_ + 1 })) := Lib.hid (by simp [St.hex, hx, hy])
      have hy1 : decide (y < hexV (bAt s σ.at_)) = false := by simpa using hy
      have hlt : σ.at_ < s.size := by
        by_cases hl : σ.at_ < s.size
        · exact hl
        · have := hge hl; rcases hat with h | h <;> omega
      obtain ⟨c0, c1, c2, c3, c4, c5, f1, f4, f5⟩ := h.cells
      have hs' := hs
      unfold maxLen at hs'
      clear hge
      go_enter Tryz.func112, Tryz.ntmps112
      go_wp2_with fail
      refine (see_any b s tw lo σ _ h hs ha).mono ?_
      rintro e w1 ⟨rfl, n, rfl⟩
      go_wp2_with fail
      refine (hex_any _ _ hb0 hb1).mono ?_
      rintro e w1 ⟨rfl, rfl⟩
      go_wp2
      all_goals go_ret
      exact ⟨by rw [HE.out]; first | done | rfl, by rw [HE.out]; exact (h.drewN n).setAt _, ((Mv.refl _ _).drewN _).setCell _ _⟩

theorem hex_is (b : Nat) (s : ByteArray) (tw lo : Bool) (σ : St) (x y : Int) (w : World) (r : Bool) (σ' : St) (H : Hid (St.hex s σ x y = (r, σ'))) (h : IsR w b s tw lo σ) (hs : s.size ≤ maxLen) (ha : σ.at_ ≤ s.size) (hat : σ.at_ < s.size ∨ 0 ≤ x) :
    Calls Tryz.prog 112 #[.pointer (some ⟨b, 0, none⟩), .int .i64 x, .int .i64 y] w fun e w' => e = .returned (.bool r) ∧ IsR w' b s tw lo σ' ∧ Mv b w w' := by
  have h1 := hexm_any b s tw lo σ x y w h hs ha hat
  rw [H.out] at h1
  exact h1
theorem need_is (b : Nat) (s : ByteArray) (tw lo : Bool) (σ : St) (x y : Int) (w : World) (r : Bool) (σ' : St) (H : Hid (St.need s σ x y = (r, σ'))) (h : IsR w b s tw lo σ) (hs : s.size ≤ maxLen) (ha : σ.at_ ≤ s.size) :
    Calls Tryz.prog 54 #[.pointer (some ⟨b, 0, none⟩), .int .u8 x, .int .u8 y] w fun e w' => e = .returned (.bool r) ∧ IsR w' b s tw lo σ' ∧ Mv b w w' := by
  have h1 := need_any b s tw lo σ x y w h hs ha
  rw [H.out] at h1
  exact h1

theorem named (p : Bool × St) : ∃ r σ', Hid (p = (r, σ')) := ⟨p.1, p.2, Lib.hid rfl⟩
theorem hex_le {s : ByteArray} {σ : St} {x y : Int} {r : Bool} {σ' : St} (H : Hid (St.hex s σ x y = (r, σ'))) (ha : σ.at_ ≤ s.size) (hx : 0 ≤ x) : σ'.at_ ≤ s.size := by
  have := (St.hex_adv (s := s) ha x y (.inr hx)).2.1; rw [H.out] at this; exact this
theorem need_le {s : ByteArray} {σ : St} {x y : Int} {r : Bool} {σ' : St} (H : Hid (St.need s σ x y = (r, σ'))) (ha : σ.at_ ≤ s.size) : σ'.at_ ≤ s.size := by
  have := (St.need_adv (s := s) ha x y).2.1; rw [H.out] at this; exact this

set_option maxHeartbeats 400000 in
theorem unit_loose (b : Nat) (s : ByteArray) (tw low : Bool) (σ : St) (w : World) (h : IsR w b s tw true σ) (hs : s.size ≤ maxLen) (ha : σ.at_ ≤ s.size) :
    Calls Tryz.prog 95 #[.pointer (some ⟨b, 0, none⟩), .bool low] w fun e w' => e = .returned (.tuple #[.bool (St.hex4 s σ).1, .bool false]) ∧ IsR w' b s tw true (St.hex4 s σ).2 ∧ Mv b w w' := by
  obtain ⟨c0, c1, c2, c3, c4, c5, f1, f4, f5⟩ := h.cells
  obtain ⟨r1, σ1, H1⟩ := named (St.hex s σ 0 15)
  obtain ⟨r2, σ2, H2⟩ := named (St.hex s σ1 0 15)
  obtain ⟨r3, σ3, H3⟩ := named (St.hex s σ2 0 15)
  obtain ⟨r4, σ4, H4⟩ := named (St.hex s σ3 0 15)
  have a1 := hex_le H1 ha (by omega)
  have a2 := hex_le H2 a1 (by omega)
  have a3 := hex_le H3 a2 (by omega)
  cases r1
  · have HE : Hid (St.hex4 s σ = (false, σ1)) := Lib.hid (by simp [St.hex4, St.andThen, H1.out])
    go_enter Tryz.func95, Tryz.ntmps95
    go_wp2_with fail
    refine (hex_is b s tw true σ _ _ _ _ _ H1 h hs ha (.inr (by omega))).mono ?_
    rintro e w1 ⟨rfl, hR1, hM1⟩
    go_wp2_with fail
    all_goals go_ret2
    exact ⟨by rw [HE.out]; first | done | rfl, by rw [HE.out]; exact hR1, hM1⟩
  cases r2
  · have HE : Hid (St.hex4 s σ = (false, σ2)) := Lib.hid (by simp [St.hex4, St.hex3, St.andThen, H1.out, H2.out])
    go_enter Tryz.func95, Tryz.ntmps95
    go_wp2_with fail
    refine (hex_is b s tw true σ _ _ _ _ _ H1 h hs ha (.inr (by omega))).mono ?_
    rintro e w1 ⟨rfl, hR1, hM1⟩
    go_wp2_with fail
    refine (hex_is b s tw true σ1 _ _ _ _ _ H2 hR1 hs a1 (.inr (by omega))).mono ?_
    rintro e w2 ⟨rfl, hR2, hM2⟩
    go_wp2_with fail
    all_goals go_ret2
    exact ⟨by rw [HE.out]; first | done | rfl, by rw [HE.out]; exact hR2, hM1.trans hM2⟩
  cases r3
  · have HE : Hid (St.hex4 s σ = (false, σ3)) := Lib.hid (by simp [St.hex4, St.hex3, St.hex2, St.andThen, H1.out, H2.out, H3.out])
    go_enter Tryz.func95, Tryz.ntmps95
    go_wp2_with fail
    refine (hex_is b s tw true σ _ _ _ _ _ H1 h hs ha (.inr (by omega))).mono ?_
    rintro e w1 ⟨rfl, hR1, hM1⟩
    go_wp2_with fail
    refine (hex_is b s tw true σ1 _ _ _ _ _ H2 hR1 hs a1 (.inr (by omega))).mono ?_
    rintro e w2 ⟨rfl, hR2, hM2⟩
    go_wp2_with fail
    refine (hex_is b s tw true σ2 _ _ _ _ _ H3 hR2 hs a2 (.inr (by omega))).mono ?_
    rintro e w3 ⟨rfl, hR3, hM3⟩
    go_wp2_with fail
    all_goals go_ret2
    exact ⟨by rw [HE.out]; first | done | rfl, by rw [HE.out]; exact hR3, (hM1.trans hM2).trans hM3⟩
  · have HE : Hid (St.hex4 s σ = (r4, σ4)) := Lib.hid (by simp [St.hex4, St.hex3, St.hex2, St.andThen, H1.out, H2.out, H3.out, H4.out])
    go_enter Tryz.func95, Tryz.ntmps95
    go_wp2_with fail
    refine (hex_is b s tw true σ _ _ _ _ _ H1 h hs ha (.inr (by omega))).mono ?_
    rintro e w1 ⟨rfl, hR1, hM1⟩
    go_wp2_with fail
    refine (hex_is b s tw true σ1 _ _ _ _ _ H2 hR1 hs a1 (.inr (by omega))).mono ?_
    rintro e w2 ⟨rfl, hR2, hM2⟩
    go_wp2_with fail
    refine (hex_is b s tw true σ2 _ _ _ _ _ H3 hR2 hs a2 (.inr (by omega))).mono ?_
    rintro e w3 ⟨rfl, hR3, hM3⟩
    go_wp2_with fail
    refine (hex_is b s tw true σ3 _ _ _ _ _ H4 hR3 hs a3 (.inr (by omega))).mono ?_
    rintro e w4 ⟨rfl, hR4, hM4⟩
    go_wp2_with fail
    all_goals go_ret2
    exact ⟨by rw [HE.out]; first | done | rfl, by rw [HE.out]; exact hR4, ((hM1.trans hM2).trans hM3).trans hM4⟩
end Go.Proofs.YtjbffgjclnjkoaaGreatDoor
