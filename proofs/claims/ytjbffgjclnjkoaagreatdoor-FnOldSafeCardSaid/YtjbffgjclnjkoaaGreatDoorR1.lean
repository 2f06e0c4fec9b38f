/- Joined texts: Rd, Rd2, Rd3, Rd4, Rd5. -/
import Derived.Test.YtjbffgjclnjkoaaGreatDoorRows
import Derived.Test.YtjbffgjclnjkoaaGreatDoorPl
import Derived.WalkKit
import Derived.WalkLawsBesides
import Derived.WalkSpells
import Derived.Lib.Hide
import Derived.Deep.QuietTactic
import Derived.BigQuiet
import Derived.Deep.LoopGhost
namespace Go.Proofs.YtjbffgjclnjkoaaGreatDoor
set_option linter.unusedVariables false
set_option linter.unusedSimpArgs false
section
/- (Rd) Contracts of the methods of the reader of the reference: each does what the plain function of its name does. -/
open Go.RowKit

theorem ret_int {k : IntKind} {a b : Int} (h : a = b) : Ending.returned (.int k a) = .returned (.int k b) := by rw [h]

theorem isSpace (c : Int) (w : World) :
    Calls Tryz.prog 33 #[.int .u8 c] w fun e w' => e = .returned (.bool (isSp c)) ∧ w' = w := by
  go_enter Tryz.func33, Tryz.ntmps33
  go_wp2
  all_goals go_ret
  all_goals simp [isSp, *]

theorem hex_any (c : Int) (w : World) (h0 : 0 ≤ c) (h1 : c ≤ 255) :
    Calls Tryz.prog 88 #[.int .u8 c] w fun e w' => e = .returned (.int .i64 (hexV c)) ∧ w' = w := by
  go_enter Tryz.func88, Tryz.ntmps88
  go_wp2
  all_goals go_ret
  all_goals refine ⟨ret_int ?_, rfl⟩
  all_goals unfold hexV
  all_goals (repeat' split)
  all_goals omega

theorem fail_any (b : Nat) (s : ByteArray) (tw lo : Bool) (σ : St) (k : Int) (w : World) (h : IsR w b s tw lo σ) :
    Calls Tryz.prog 16 #[.pointer (some ⟨b, 0, none⟩), .int .i64 k] w fun e w' => e = .returned (.bool false) ∧ IsR w' b s tw lo (σ.fail k) ∧ Mv b w w' := by
  obtain ⟨c0, c1, c2, c3, c4, c5, f1, f4, f5⟩ := h.cells
  by_cases hk : σ.fault = 0
  · have hk' : (σ.fault == 0) = true := by simp [hk]
    have e : σ.fail k = { σ with fault := k } := by simp [St.fail, hk]
    rw [e]; clear e hk
    go_enter Tryz.func16, Tryz.ntmps16
    go_wp2
    all_goals go_ret
    exact ⟨rfl, h.setFault k, (Mv.refl _ _).setCell _ _⟩
  · have hk' : (σ.fault == 0) = false := by simp [hk]
    have e : σ.fail k = σ := by simp [St.fail, hk]
    rw [e]; clear e hk
    go_enter Tryz.func16, Tryz.ntmps16
    go_wp2
    all_goals go_ret
    exact ⟨rfl, h, (Mv.refl _ _)⟩

theorem see_any (b : Nat) (s : ByteArray) (tw lo : Bool) (σ : St) (w : World) (h : IsR w b s tw lo σ) (hs : s.size ≤ maxLen) (ha : σ.at_ ≤ s.size) :
    Calls Tryz.prog 29 #[.pointer (some ⟨b, 0, none⟩)] w fun e w' => e = .returned (.int .u8 (bAt s σ.at_)) ∧ ∃ n, w' = w.drewN n := by
  obtain ⟨c0, c1, c2, c3, c4, c5, f1, f4, f5⟩ := h.cells
  unfold maxLen at hs
  by_cases hlt : σ.at_ < s.size
  · have HE := Lib.hid (bAt_lt hlt)
    go_enter Tryz.func29, Tryz.ntmps29
    go_wp2
    go_quiet (fail)
    go_wp2
    go_quiet (fail)
    go_wp2
    all_goals go_ret
    exact ⟨by rw [HE.out]; first | done | rfl, ⟨_, World.drewN_drewN _ _ _⟩⟩
  · have HE := Lib.hid (bAt_ge hlt)
    go_enter Tryz.func29, Tryz.ntmps29
    go_wp2
    go_quiet (fail)
    go_wp2
    all_goals go_ret
    exact ⟨by rw [HE.out]; first | done | rfl, ⟨_, rfl⟩⟩


/-- One byte of a reader's own word, in its three forms. -/
theorem need_any (b : Nat) (s : ByteArray) (tw lo : Bool) (σ : St) (x y : Int) (w : World) (h : IsR w b s tw lo σ) (hs : s.size ≤ maxLen) (ha : σ.at_ ≤ s.size) :
    Calls Tryz.prog 54 #[.pointer (some ⟨b, 0, none⟩), .int .u8 x, .int .u8 y] w fun e w' => e = .returned (.bool (St.need s σ x y).1) ∧ IsR w' b s tw lo (St.need s σ x y).2 ∧ Mv b w w' := by
  obtain ⟨c0, c1, c2, c3, c4, c5, f1, f4, f5⟩ := h.cells
  unfold maxLen at hs
  by_cases hlt : σ.at_ < s.size
  · have hge : decide (s.size ≤ σ.at_) = false := by simpa using hlt
    have hge' : ¬ s.size ≤ σ.at_ := by omega
    have e0 := bAt_lt hlt
    by_cases hx : x ≤ (s[σ.at_].toNat : Int)
    · have hx1 : decide ((s[σ.at_].toNat : Int) < x) = false := by simpa using hx
      by_cases hy : (s[σ.at_].toNat : Int) ≤ y
      · have hy1 : decide (y < (s[σ.at_].toNat : Int)) = false := by simpa using hy
        have HE : Hid (St.need s σ x y = (true, { σ with at_ := σ.at_ + 1 })) := Lib.hid (by simp [St.need, hlt, e0, hx, hy])
        clear e0 hx hy
        go_enter Tryz.func54, Tryz.ntmps54
        go_wp2_with fail
        go_quiet (fail)
        go_wp2
        all_goals go_ret
        exact ⟨by rw [HE.out]; first | done | rfl, by rw [HE.out]; exact (h.drewN nq).setAt _, ((Mv.refl _ _).drewN _).setCell _ _⟩
      · have hy1 : decide (y < (s[σ.at_].toNat : Int)) = true := by simpa using hy
        have HE : Hid (St.need s σ x y = (false, σ.fail 4)) := Lib.hid (by simp [St.need, hlt, e0, hx, hy])
        clear e0 hx hy
        go_enter Tryz.func54, Tryz.ntmps54
        go_wp2_with fail
        go_quiet (fail)
        go_wp2_with fail
        refine (fail_any b s tw lo σ _ _ (h.drewN nq)).mono ?_
        rintro e w1 ⟨rfl, hR, hM⟩
        go_wp2
        all_goals go_ret
        exact ⟨by rw [HE.out]; first | done | rfl, by rw [HE.out]; exact hR, ((Mv.refl _ _).drewN _).trans hM⟩
    · have hx1 : decide ((s[σ.at_].toNat : Int) < x) = true := by simpa using hx
      have HE : Hid (St.need s σ x y = (false, σ.fail 4)) := Lib.hid (by simp [St.need, hlt, e0, hx])
      clear e0 hx
      go_enter Tryz.func54, Tryz.ntmps54
      go_wp2_with fail
      go_quiet (fail)
      go_wp2_with fail
      refine (fail_any b s tw lo σ _ _ (h.drewN nq)).mono ?_
      rintro e w1 ⟨rfl, hR, hM⟩
      go_wp2
      all_goals go_ret
      exact ⟨by rw [HE.out]; first | done | rfl, by rw [HE.out]; exact hR, ((Mv.refl _ _).drewN _).trans hM⟩
  · have hge : decide (s.size ≤ σ.at_) = true := by simpa using hlt
    have hge' : s.size ≤ σ.at_ := by omega
    have HE : Hid (St.need s σ x y = (false, σ.fail 4)) := Lib.hid (by simp [St.need, hlt])
    go_enter Tryz.func54, Tryz.ntmps54
    go_wp2_with fail
    go_quiet (fail)
    go_wp2_with fail
    refine (fail_any b s tw lo σ _ _ (h.drewN nq)).mono ?_
    rintro e w1 ⟨rfl, hR, hM⟩
    go_wp2
    all_goals go_ret
    exact ⟨by rw [HE.out]; first | done | rfl, by rw [HE.out]; exact hR, ((Mv.refl _ _).drewN _).trans hM⟩

theorem hexm_any (b : Nat) (s : ByteArray) (tw lo : Bool) (σ : St) (x y : Int) (w : World) (h : IsR w b s tw lo σ) (hs : s.size ≤ maxLen) (ha : σ.at_ ≤ s.size) (hat : σ.at_ < s.size ∨ 0 ≤ x) :
    Calls Tryz.prog 112 #[.pointer (some ⟨b, 0, none⟩), .int .i64 x, .int .i64 y] w fun e w' => e = .returned (.bool (St.hex s σ x y).1) ∧ IsR w' b s tw lo (St.hex s σ x y).2 ∧ Mv b w w' := by
  have hb0 := bAt_nonneg s σ.at_
  have hb1 := bAt_le s σ.at_
  have hge : ¬ σ.at_ < s.size → hexV (bAt s σ.at_) = -1 := fun hn => by rw [bAt_ge hn]; rfl
  by_cases hx : hexV (bAt s σ.at_) < x
  · have HE : Hid (St.hex s σ x y = (false, σ.fail 4)) := Lib.hid (by simp [St.hex, hx])
    have hx1 : decide (hexV (bAt s σ.at_) < x) = true := by simpa using hx
    clear hge
    go_enter Tryz.func112, Tryz.ntmps112
    go_wp2_with fail
    refine (see_any b s tw lo σ _ h hs ha).mono ?_
    rintro e w1 ⟨rfl, n, rfl⟩
    go_wp2_with fail
    refine (hex_any _ _ hb0 hb1).mono ?_
    rintro e w1 ⟨rfl, rfl⟩
    go_wp2_with fail
    refine (fail_any b s tw lo σ _ _ (h.drewN n)).mono ?_
    rintro e w1 ⟨rfl, hR, hM⟩
    go_wp2
    all_goals go_ret
    exact ⟨by rw [HE.out]; first | done | rfl, by rw [HE.out]; exact hR, ((Mv.refl _ _).drewN _).trans hM⟩
  · have hx1 : decide (hexV (bAt s σ.at_) < x) = false := by simpa using hx
    by_cases hy : y < hexV (bAt s σ.at_)
    · have HE : Hid (St.hex s σ x y = (false, σ.fail 4)) := Lib.hid (by simp [St.hex, hx, hy])
      have hy1 : decide (y < hexV (bAt s σ.at_)) = true := by simpa using hy
      clear hge
      go_enter Tryz.func112, Tryz.ntmps112
      go_wp2_with fail
      refine (see_any b s tw lo σ _ h hs ha).mono ?_
      rintro e w1 ⟨rfl, n, rfl⟩
      go_wp2_with fail
      refine (hex_any _ _ hb0 hb1).mono ?_
      rintro e w1 ⟨rfl, rfl⟩
      go_wp2_with fail
      refine (fail_any b s tw lo σ _ _ (h.drewN n)).mono ?_
      rintro e w1 ⟨rfl, hR, hM⟩
      go_wp2
      all_goals go_ret
      exact ⟨by rw [HE.out]; first | done | rfl, by rw [HE.out]; exact hR, ((Mv.refl _ _).drewN _).trans hM⟩
    · have HE : Hid (St.hex s σ x y = (true, { σ with at_ := σ.at_ + 1 })) := Lib.hid (by simp [St.hex, hx, hy])
      have hy1 : decide (y < hexV (bAt s σ.at_)) = false := by simpa using hy
      have hlt : σ.at_ < s.size := by
        by_cases hl : σ.at_ < s.size
        · exact hl
        · have := hge hl; rcases hat with h | h <;> omega
      obtain ⟨c0, c1, c2, c3, c4, c5, f1, f4, f5⟩ := h.cells
      have hs' := hs
      unfold maxLen at hs'
      clear hge
      go_enter Tryz.func112, Tryz.ntmps112
      go_wp2_with fail
      refine (see_any b s tw lo σ _ h hs ha).mono ?_
      rintro e w1 ⟨rfl, n, rfl⟩
      go_wp2_with fail
      refine (hex_any _ _ hb0 hb1).mono ?_
      rintro e w1 ⟨rfl, rfl⟩
      go_wp2
      all_goals go_ret
      exact ⟨by rw [HE.out]; first | done | rfl, by rw [HE.out]; exact (h.drewN n).setAt _, ((Mv.refl _ _).drewN _).setCell _ _⟩

theorem hex_is (b : Nat) (s : ByteArray) (tw lo : Bool) (σ : St) (x y : Int) (w : World) (r : Bool) (σ' : St) (H : Hid (St.hex s σ x y = (r, σ'))) (h : IsR w b s tw lo σ) (hs : s.size ≤ maxLen) (ha : σ.at_ ≤ s.size) (hat : σ.at_ < s.size ∨ 0 ≤ x) :
    Calls Tryz.prog 112 #[.pointer (some ⟨b, 0, none⟩), .int .i64 x, .int .i64 y] w fun e w' => e = .returned (.bool r) ∧ IsR w' b s tw lo σ' ∧ Mv b w w' := by
  have h1 := hexm_any b s tw lo σ x y w h hs ha hat
  rw [H.out] at h1
  exact h1
theorem need_is (b : Nat) (s : ByteArray) (tw lo : Bool) (σ : St) (x y : Int) (w : World) (r : Bool) (σ' : St) (H : Hid (St.need s σ x y = (r, σ'))) (h : IsR w b s tw lo σ) (hs : s.size ≤ maxLen) (ha : σ.at_ ≤ s.size) :
    Calls Tryz.prog 54 #[.pointer (some ⟨b, 0, none⟩), .int .u8 x, .int .u8 y] w fun e w' => e = .returned (.bool r) ∧ IsR w' b s tw lo σ' ∧ Mv b w w' := by
  have h1 := need_any b s tw lo σ x y w h hs ha
  rw [H.out] at h1
  exact h1

theorem named (p : Bool × St) : ∃ r σ', Hid (p = (r, σ')) := ⟨p.1, p.2, Lib.hid rfl⟩
theorem hex_le {s : ByteArray} {σ : St} {x y : Int} {r : Bool} {σ' : St} (H : Hid (St.hex s σ x y = (r, σ'))) (ha : σ.at_ ≤ s.size) (hx : 0 ≤ x) : σ'.at_ ≤ s.size := by
  have := (St.hex_adv (s := s) ha x y (.inr hx)).2.1; rw [H.out] at this; exact this
theorem need_le {s : ByteArray} {σ : St} {x y : Int} {r : Bool} {σ' : St} (H : Hid (St.need s σ x y = (r, σ'))) (ha : σ.at_ ≤ s.size) : σ'.at_ ≤ s.size := by
  have := (St.need_adv (s := s) ha x y).2.1; rw [H.out] at this; exact this

set_option maxHeartbeats 400000 in
theorem unit_loose (b : Nat) (s : ByteArray) (tw low : Bool) (σ : St) (w : World) (h : IsR w b s tw true σ) (hs : s.size ≤ maxLen) (ha : σ.at_ ≤ s.size) :
    Calls Tryz.prog 95 #[.pointer (some ⟨b, 0, none⟩), .bool low] w fun e w' => e = .returned (.tuple #[.bool (St.hex4 s σ).1, .bool false]) ∧ IsR w' b s tw true (St.hex4 s σ).2 ∧ Mv b w w' := by
  obtain ⟨c0, c1, c2, c3, c4, c5, f1, f4, f5⟩ := h.cells
  obtain ⟨r1, σ1, H1⟩ := named (St.hex s σ 0 15)
  obtain ⟨r2, σ2, H2⟩ := named (St.hex s σ1 0 15)
  obtain ⟨r3, σ3, H3⟩ := named (St.hex s σ2 0 15)
  obtain ⟨r4, σ4, H4⟩ := named (St.hex s σ3 0 15)
  have a1 := hex_le H1 ha (by omega)
  have a2 := hex_le H2 a1 (by omega)
  have a3 := hex_le H3 a2 (by omega)
  cases r1
  · have HE : Hid (St.hex4 s σ = (false, σ1)) := Lib.hid (by simp [St.hex4, St.andThen, H1.out])
    go_enter Tryz.func95, Tryz.ntmps95
    go_wp2_with fail
    refine (hex_is b s tw true σ _ _ _ _ _ H1 h hs ha (.inr (by omega))).mono ?_
    rintro e w1 ⟨rfl, hR1, hM1⟩
    go_wp2_with fail
    all_goals go_ret2
    exact ⟨by rw [HE.out]; first | done | rfl, by rw [HE.out]; exact hR1, hM1⟩
  cases r2
  · have HE : Hid (St.hex4 s σ = (false, σ2)) := Lib.hid (by simp [St.hex4, St.hex3, St.andThen, H1.out, H2.out])
    go_enter Tryz.func95, Tryz.ntmps95
    go_wp2_with fail
    refine (hex_is b s tw true σ _ _ _ _ _ H1 h hs ha (.inr (by omega))).mono ?_
    rintro e w1 ⟨rfl, hR1, hM1⟩
    go_wp2_with fail
    refine (hex_is b s tw true σ1 _ _ _ _ _ H2 hR1 hs a1 (.inr (by omega))).mono ?_
    rintro e w2 ⟨rfl, hR2, hM2⟩
    go_wp2_with fail
    all_goals go_ret2
    exact ⟨by rw [HE.out]; first | done | rfl, by rw [HE.out]; exact hR2, hM1.trans hM2⟩
  cases r3
  · have HE : Hid (St.hex4 s σ = (false, σ3)) := Lib.hid (by simp [St.hex4, St.hex3, St.hex2, St.andThen, H1.out, H2.out, H3.out])
    go_enter Tryz.func95, Tryz.ntmps95
    go_wp2_with fail
    refine (hex_is b s tw true σ _ _ _ _ _ H1 h hs ha (.inr (by omega))).mono ?_
    rintro e w1 ⟨rfl, hR1, hM1⟩
    go_wp2_with fail
    refine (hex_is b s tw true σ1 _ _ _ _ _ H2 hR1 hs a1 (.inr (by omega))).mono ?_
    rintro e w2 ⟨rfl, hR2, hM2⟩
    go_wp2_with fail
    refine (hex_is b s tw true σ2 _ _ _ _ _ H3 hR2 hs a2 (.inr (by omega))).mono ?_
    rintro e w3 ⟨rfl, hR3, hM3⟩
    go_wp2_with fail
    all_goals go_ret2
    exact ⟨by rw [HE.out]; first | done | rfl, by rw [HE.out]; exact hR3, (hM1.trans hM2).trans hM3⟩
  · have HE : Hid (St.hex4 s σ = (r4, σ4)) := Lib.hid (by simp [St.hex4, St.hex3, St.hex2, St.andThen, H1.out, H2.out, H3.out, H4.out])
    go_enter Tryz.func95, Tryz.ntmps95
    go_wp2_with fail
    refine (hex_is b s tw true σ _ _ _ _ _ H1 h hs ha (.inr (by omega))).mono ?_
    rintro e w1 ⟨rfl, hR1, hM1⟩
    go_wp2_with fail
    refine (hex_is b s tw true σ1 _ _ _ _ _ H2 hR1 hs a1 (.inr (by omega))).mono ?_
    rintro e w2 ⟨rfl, hR2, hM2⟩
    go_wp2_with fail
    refine (hex_is b s tw true σ2 _ _ _ _ _ H3 hR2 hs a2 (.inr (by omega))).mono ?_
    rintro e w3 ⟨rfl, hR3, hM3⟩
    go_wp2_with fail
    refine (hex_is b s tw true σ3 _ _ _ _ _ H4 hR3 hs a3 (.inr (by omega))).mono ?_
    rintro e w4 ⟨rfl, hR4, hM4⟩
    go_wp2_with fail
    all_goals go_ret2
    exact ⟨by rw [HE.out]; first | done | rfl, by rw [HE.out]; exact hR4, ((hM1.trans hM2).trans hM3).trans hM4⟩
end
section
/- (Rd2) Contracts of the methods of the reader of the reference: escapes and characters. Lines by program (genrd.py). -/
open Go.RowKit


set_option maxHeartbeats 1000000 in
theorem unit_low (b : Nat) (s : ByteArray) (tw lo : Bool) (hlo : lo = false) (σ : St) (w : World) (h : IsR w b s tw lo σ) (hs : s.size ≤ maxLen) (ha : σ.at_ ≤ s.size) :
    Calls Tryz.prog 95 #[.pointer (some ⟨b, 0, none⟩), .bool true] w fun e w' => e = .returned (.tuple #[.bool (St.unit s lo true σ).1, .bool (St.unit s lo true σ).2.1]) ∧ IsR w' b s tw lo (St.unit s lo true σ).2.2 ∧ Mv b w w' := by
  subst hlo
  obtain ⟨c0, c1, c2, c3, c4, c5, f1, f4, f5⟩ := h.cells
  obtain ⟨r1, σ1, H1⟩ := named (St.hex s σ 13 13)
  obtain ⟨r2, σ2, H2⟩ := named (St.hex s σ1 12 15)
  obtain ⟨r3, σ3, H3⟩ := named (St.hex s σ2 0 15)
  obtain ⟨r4, σ4, H4⟩ := named (St.hex s σ3 0 15)
  have a1 := hex_le H1 ha (by omega)
  have a2 := hex_le H2 a1 (by omega)
  have a3 := hex_le H3 a2 (by omega)
  cases r1
  · have HE : Hid (St.unit s false true σ = (false, false, σ1)) := Lib.hid (by simp [St.unit, St.unitX, St.unitY, St.unitLo, St.unitHi, St.hex2, St.andThen, H1.out])
    go_enter Tryz.func95, Tryz.ntmps95
    go_wp2_with fail
    refine (see_any b s tw false σ _ h hs ha).mono ?_
    rintro e wq0 ⟨rfl, n0, rfl⟩
    go_wp2_with fail
    refine (hex_any _ _ (bAt_nonneg _ _) (bAt_le _ _)).mono ?_
    rintro e wq0 ⟨rfl, rfl⟩
    go_wp2_with fail
    refine (hex_is b s tw false σ _ _ _ _ _ H1 (h.drewN n0) hs ha (.inr (by omega))).mono ?_
    rintro e w1 ⟨rfl, hR1, hM1⟩
    go_wp2_with fail
    all_goals go_ret2
    exact ⟨by rw [HE.out]; first | done | rfl, by rw [HE.out]; exact hR1, ((Mv.refl _ _).drewN _).trans hM1⟩
  cases r2
  · have HE : Hid (St.unit s false true σ = (false, false, σ2)) := Lib.hid (by simp [St.unit, St.unitX, St.unitY, St.unitLo, St.unitHi, St.hex2, St.andThen, H1.out, H2.out])
    go_enter Tryz.func95, Tryz.ntmps95
    go_wp2_with fail
    refine (see_any b s tw false σ _ h hs ha).mono ?_
    rintro e wq0 ⟨rfl, n0, rfl⟩
    go_wp2_with fail
    refine (hex_any _ _ (bAt_nonneg _ _) (bAt_le _ _)).mono ?_
    rintro e wq0 ⟨rfl, rfl⟩
    go_wp2_with fail
    refine (hex_is b s tw false σ _ _ _ _ _ H1 (h.drewN n0) hs ha (.inr (by omega))).mono ?_
    rintro e w1 ⟨rfl, hR1, hM1⟩
    go_wp2_with fail
    refine (see_any b s tw false σ1 _ hR1 hs a1).mono ?_
    rintro e wq1 ⟨rfl, n1, rfl⟩
    go_wp2_with fail
    refine (hex_any _ _ (bAt_nonneg _ _) (bAt_le _ _)).mono ?_
    rintro e wq1 ⟨rfl, rfl⟩
    go_wp2_with fail
    refine (hex_is b s tw false σ1 _ _ _ _ _ H2 (hR1.drewN n1) hs a1 (.inr (by omega))).mono ?_
    rintro e w2 ⟨rfl, hR2, hM2⟩
    go_wp2_with fail
    all_goals go_ret2
    exact ⟨by rw [HE.out]; first | done | rfl, by rw [HE.out]; exact hR2, (((Mv.refl _ _).drewN _).trans hM1).trans (((Mv.refl _ _).drewN _).trans hM2)⟩
  cases r3
  · have HE : Hid (St.unit s false true σ = (false, false, σ3)) := Lib.hid (by simp [St.unit, St.unitX, St.unitY, St.unitLo, St.unitHi, St.hex2, St.andThen, H1.out, H2.out, H3.out])
    go_enter Tryz.func95, Tryz.ntmps95
    go_wp2_with fail
    refine (see_any b s tw false σ _ h hs ha).mono ?_
    rintro e wq0 ⟨rfl, n0, rfl⟩
    go_wp2_with fail
    refine (hex_any _ _ (bAt_nonneg _ _) (bAt_le _ _)).mono ?_
    rintro e wq0 ⟨rfl, rfl⟩
    go_wp2_with fail
    refine (hex_is b s tw false σ _ _ _ _ _ H1 (h.drewN n0) hs ha (.inr (by omega))).mono ?_
    rintro e w1 ⟨rfl, hR1, hM1⟩
    go_wp2_with fail
    refine (see_any b s tw false σ1 _ hR1 hs a1).mono ?_
    rintro e wq1 ⟨rfl, n1, rfl⟩
    go_wp2_with fail
    refine (hex_any _ _ (bAt_nonneg _ _) (bAt_le _ _)).mono ?_
    rintro e wq1 ⟨rfl, rfl⟩
    go_wp2_with fail
    refine (hex_is b s tw false σ1 _ _ _ _ _ H2 (hR1.drewN n1) hs a1 (.inr (by omega))).mono ?_
    rintro e w2 ⟨rfl, hR2, hM2⟩
    go_wp2_with fail
    refine (hex_is b s tw false σ2 _ _ _ _ _ H3 hR2 hs a2 (.inr (by omega))).mono ?_
    rintro e w3 ⟨rfl, hR3, hM3⟩
    go_wp2_with fail
    all_goals go_ret2
    exact ⟨by rw [HE.out]; first | done | rfl, by rw [HE.out]; exact hR3, ((((Mv.refl _ _).drewN _).trans hM1).trans (((Mv.refl _ _).drewN _).trans hM2)).trans hM3⟩
  cases r4
  · have HE : Hid (St.unit s false true σ = (false, false, σ4)) := Lib.hid (by simp [St.unit, St.unitX, St.unitY, St.unitLo, St.unitHi, St.hex2, St.andThen, H1.out, H2.out, H3.out, H4.out])
    go_enter Tryz.func95, Tryz.ntmps95
    go_wp2_with fail
    refine (see_any b s tw false σ _ h hs ha).mono ?_
    rintro e wq0 ⟨rfl, n0, rfl⟩
    go_wp2_with fail
    refine (hex_any _ _ (bAt_nonneg _ _) (bAt_le _ _)).mono ?_
    rintro e wq0 ⟨rfl, rfl⟩
    go_wp2_with fail
    refine (hex_is b s tw false σ _ _ _ _ _ H1 (h.drewN n0) hs ha (.inr (by omega))).mono ?_
    rintro e w1 ⟨rfl, hR1, hM1⟩
    go_wp2_with fail
    refine (see_any b s tw false σ1 _ hR1 hs a1).mono ?_
    rintro e wq1 ⟨rfl, n1, rfl⟩
    go_wp2_with fail
    refine (hex_any _ _ (bAt_nonneg _ _) (bAt_le _ _)).mono ?_
    rintro e wq1 ⟨rfl, rfl⟩
    go_wp2_with fail
    refine (hex_is b s tw false σ1 _ _ _ _ _ H2 (hR1.drewN n1) hs a1 (.inr (by omega))).mono ?_
    rintro e w2 ⟨rfl, hR2, hM2⟩
    go_wp2_with fail
    refine (hex_is b s tw false σ2 _ _ _ _ _ H3 hR2 hs a2 (.inr (by omega))).mono ?_
    rintro e w3 ⟨rfl, hR3, hM3⟩
    go_wp2_with fail
    refine (hex_is b s tw false σ3 _ _ _ _ _ H4 hR3 hs a3 (.inr (by omega))).mono ?_
    rintro e w4 ⟨rfl, hR4, hM4⟩
    go_wp2_with fail
    all_goals go_ret2
    exact ⟨by rw [HE.out]; first | done | rfl, by rw [HE.out]; exact hR4, (((((Mv.refl _ _).drewN _).trans hM1).trans (((Mv.refl _ _).drewN _).trans hM2)).trans hM3).trans hM4⟩
  · have HE : Hid (St.unit s false true σ = (true, false, σ4)) := Lib.hid (by simp [St.unit, St.unitX, St.unitY, St.unitLo, St.unitHi, St.hex2, St.andThen, H1.out, H2.out, H3.out, H4.out])
    go_enter Tryz.func95, Tryz.ntmps95
    go_wp2_with fail
    refine (see_any b s tw false σ _ h hs ha).mono ?_
    rintro e wq0 ⟨rfl, n0, rfl⟩
    go_wp2_with fail
    refine (hex_any _ _ (bAt_nonneg _ _) (bAt_le _ _)).mono ?_
    rintro e wq0 ⟨rfl, rfl⟩
    go_wp2_with fail
    refine (hex_is b s tw false σ _ _ _ _ _ H1 (h.drewN n0) hs ha (.inr (by omega))).mono ?_
    rintro e w1 ⟨rfl, hR1, hM1⟩
    go_wp2_with fail
    refine (see_any b s tw false σ1 _ hR1 hs a1).mono ?_
    rintro e wq1 ⟨rfl, n1, rfl⟩
    go_wp2_with fail
    refine (hex_any _ _ (bAt_nonneg _ _) (bAt_le _ _)).mono ?_
    rintro e wq1 ⟨rfl, rfl⟩
    go_wp2_with fail
    refine (hex_is b s tw false σ1 _ _ _ _ _ H2 (hR1.drewN n1) hs a1 (.inr (by omega))).mono ?_
    rintro e w2 ⟨rfl, hR2, hM2⟩
    go_wp2_with fail
    refine (hex_is b s tw false σ2 _ _ _ _ _ H3 hR2 hs a2 (.inr (by omega))).mono ?_
    rintro e w3 ⟨rfl, hR3, hM3⟩
    go_wp2_with fail
    refine (hex_is b s tw false σ3 _ _ _ _ _ H4 hR3 hs a3 (.inr (by omega))).mono ?_
    rintro e w4 ⟨rfl, hR4, hM4⟩
    go_wp2_with fail
    all_goals go_ret2
    exact ⟨by rw [HE.out]; first | done | rfl, by rw [HE.out]; exact hR4, (((((Mv.refl _ _).drewN _).trans hM1).trans (((Mv.refl _ _).drewN _).trans hM2)).trans hM3).trans hM4⟩

set_option maxHeartbeats 1000000 in
theorem unit_first (b : Nat) (s : ByteArray) (tw lo : Bool) (hlo : lo = false) (σ : St) (w : World) (hf : hexV (bAt s σ.at_) = 13) (h : IsR w b s tw lo σ) (hs : s.size ≤ maxLen) (ha : σ.at_ ≤ s.size) :
    Calls Tryz.prog 95 #[.pointer (some ⟨b, 0, none⟩), .bool false] w fun e w' => e = .returned (.tuple #[.bool (St.unit s lo false σ).1, .bool (St.unit s lo false σ).2.1]) ∧ IsR w' b s tw lo (St.unit s lo false σ).2.2 ∧ Mv b w w' := by
  subst hlo
  obtain ⟨c0, c1, c2, c3, c4, c5, f1, f4, f5⟩ := h.cells
  obtain ⟨r1, σ1, H1⟩ := named (St.hex s σ 0 15)
  obtain ⟨r2, σ2, H2⟩ := named (St.hex s σ1 0 11)
  obtain ⟨r3, σ3, H3⟩ := named (St.hex s σ2 0 15)
  obtain ⟨r4, σ4, H4⟩ := named (St.hex s σ3 0 15)
  have a1 := hex_le H1 ha (by omega)
  have a2 := hex_le H2 a1 (by omega)
  have a3 := hex_le H3 a2 (by omega)
  have hf1 : (hexV (bAt s σ.at_) == 13) = true := by simpa using hf
  cases r1
  · have HE : Hid (St.unit s false false σ = (false, false, σ1)) := Lib.hid (by simp [St.unit, St.unitX, St.unitY, St.unitLo, St.unitHi, St.hex2, St.andThen, H1.out, hf])
    clear hf
    go_enter Tryz.func95, Tryz.ntmps95
    go_wp2_with fail
    refine (see_any b s tw false σ _ h hs ha).mono ?_
    rintro e wq0 ⟨rfl, n0, rfl⟩
    go_wp2_with fail
    refine (hex_any _ _ (bAt_nonneg _ _) (bAt_le _ _)).mono ?_
    rintro e wq0 ⟨rfl, rfl⟩
    go_wp2_with fail
    refine (hex_is b s tw false σ _ _ _ _ _ H1 (h.drewN n0) hs ha (.inr (by omega))).mono ?_
    rintro e w1 ⟨rfl, hR1, hM1⟩
    go_wp2_with fail
    all_goals go_ret2
    exact ⟨by rw [HE.out]; first | done | rfl, by rw [HE.out]; exact hR1, ((Mv.refl _ _).drewN _).trans hM1⟩
  cases r2
  · have HE : Hid (St.unit s false false σ = (false, false, σ2)) := Lib.hid (by simp [St.unit, St.unitX, St.unitY, St.unitLo, St.unitHi, St.hex2, St.andThen, H1.out, H2.out, hf])
    clear hf
    go_enter Tryz.func95, Tryz.ntmps95
    go_wp2_with fail
    refine (see_any b s tw false σ _ h hs ha).mono ?_
    rintro e wq0 ⟨rfl, n0, rfl⟩
    go_wp2_with fail
    refine (hex_any _ _ (bAt_nonneg _ _) (bAt_le _ _)).mono ?_
    rintro e wq0 ⟨rfl, rfl⟩
    go_wp2_with fail
    refine (hex_is b s tw false σ _ _ _ _ _ H1 (h.drewN n0) hs ha (.inr (by omega))).mono ?_
    rintro e w1 ⟨rfl, hR1, hM1⟩
    go_wp2_with fail
    refine (see_any b s tw false σ1 _ hR1 hs a1).mono ?_
    rintro e wq1 ⟨rfl, n1, rfl⟩
    go_wp2_with fail
    refine (hex_any _ _ (bAt_nonneg _ _) (bAt_le _ _)).mono ?_
    rintro e wq1 ⟨rfl, rfl⟩
    go_wp2_with fail
    refine (hex_is b s tw false σ1 _ _ _ _ _ H2 (hR1.drewN n1) hs a1 (.inr (by omega))).mono ?_
    rintro e w2 ⟨rfl, hR2, hM2⟩
    go_wp2_with fail
    all_goals go_ret2
    exact ⟨by rw [HE.out]; first | done | rfl, by rw [HE.out]; exact hR2, (((Mv.refl _ _).drewN _).trans hM1).trans (((Mv.refl _ _).drewN _).trans hM2)⟩
  cases r3
  · have HE : Hid (St.unit s false false σ = (false, false, σ3)) := Lib.hid (by simp [St.unit, St.unitX, St.unitY, St.unitLo, St.unitHi, St.hex2, St.andThen, H1.out, H2.out, H3.out, hf])
    clear hf
    go_enter Tryz.func95, Tryz.ntmps95
    go_wp2_with fail
    refine (see_any b s tw false σ _ h hs ha).mono ?_
    rintro e wq0 ⟨rfl, n0, rfl⟩
    go_wp2_with fail
    refine (hex_any _ _ (bAt_nonneg _ _) (bAt_le _ _)).mono ?_
    rintro e wq0 ⟨rfl, rfl⟩
    go_wp2_with fail
    refine (hex_is b s tw false σ _ _ _ _ _ H1 (h.drewN n0) hs ha (.inr (by omega))).mono ?_
    rintro e w1 ⟨rfl, hR1, hM1⟩
    go_wp2_with fail
    refine (see_any b s tw false σ1 _ hR1 hs a1).mono ?_
    rintro e wq1 ⟨rfl, n1, rfl⟩
    go_wp2_with fail
    refine (hex_any _ _ (bAt_nonneg _ _) (bAt_le _ _)).mono ?_
    rintro e wq1 ⟨rfl, rfl⟩
    go_wp2_with fail
    refine (hex_is b s tw false σ1 _ _ _ _ _ H2 (hR1.drewN n1) hs a1 (.inr (by omega))).mono ?_
    rintro e w2 ⟨rfl, hR2, hM2⟩
    go_wp2_with fail
    refine (hex_is b s tw false σ2 _ _ _ _ _ H3 hR2 hs a2 (.inr (by omega))).mono ?_
    rintro e w3 ⟨rfl, hR3, hM3⟩
    go_wp2_with fail
    all_goals go_ret2
    exact ⟨by rw [HE.out]; first | done | rfl, by rw [HE.out]; exact hR3, ((((Mv.refl _ _).drewN _).trans hM1).trans (((Mv.refl _ _).drewN _).trans hM2)).trans hM3⟩
  cases r4
  · have HE : Hid (St.unit s false false σ = (false, false, σ4)) := Lib.hid (by simp [St.unit, St.unitX, St.unitY, St.unitLo, St.unitHi, St.hex2, St.andThen, H1.out, H2.out, H3.out, H4.out, hf])
    clear hf
    go_enter Tryz.func95, Tryz.ntmps95
    go_wp2_with fail
    refine (see_any b s tw false σ _ h hs ha).mono ?_
    rintro e wq0 ⟨rfl, n0, rfl⟩
    go_wp2_with fail
    refine (hex_any _ _ (bAt_nonneg _ _) (bAt_le _ _)).mono ?_
    rintro e wq0 ⟨rfl, rfl⟩
    go_wp2_with fail
    refine (hex_is b s tw false σ _ _ _ _ _ H1 (h.drewN n0) hs ha (.inr (by omega))).mono ?_
    rintro e w1 ⟨rfl, hR1, hM1⟩
    go_wp2_with fail
    refine (see_any b s tw false σ1 _ hR1 hs a1).mono ?_
    rintro e wq1 ⟨rfl, n1, rfl⟩
    go_wp2_with fail
    refine (hex_any _ _ (bAt_nonneg _ _) (bAt_le _ _)).mono ?_
    rintro e wq1 ⟨rfl, rfl⟩
    go_wp2_with fail
    refine (hex_is b s tw false σ1 _ _ _ _ _ H2 (hR1.drewN n1) hs a1 (.inr (by omega))).mono ?_
    rintro e w2 ⟨rfl, hR2, hM2⟩
    go_wp2_with fail
    refine (hex_is b s tw false σ2 _ _ _ _ _ H3 hR2 hs a2 (.inr (by omega))).mono ?_
    rintro e w3 ⟨rfl, hR3, hM3⟩
    go_wp2_with fail
    refine (hex_is b s tw false σ3 _ _ _ _ _ H4 hR3 hs a3 (.inr (by omega))).mono ?_
    rintro e w4 ⟨rfl, hR4, hM4⟩
    go_wp2_with fail
    all_goals go_ret2
    exact ⟨by rw [HE.out]; first | done | rfl, by rw [HE.out]; exact hR4, (((((Mv.refl _ _).drewN _).trans hM1).trans (((Mv.refl _ _).drewN _).trans hM2)).trans hM3).trans hM4⟩
  by_cases hg : 8 ≤ hexV (bAt s σ1.at_)
  · have hg1 : decide (8 ≤ hexV (bAt s σ1.at_)) = true := by simpa using hg
    have HE : Hid (St.unit s false false σ = (true, true, σ4)) := Lib.hid (by simp [St.unit, St.unitX, St.unitY, St.unitLo, St.unitHi, St.hex2, St.andThen, H1.out, H2.out, H3.out, H4.out, hf, hg])
    clear hf
    go_enter Tryz.func95, Tryz.ntmps95
    go_wp2_with fail
    refine (see_any b s tw false σ _ h hs ha).mono ?_
    rintro e wq0 ⟨rfl, n0, rfl⟩
    go_wp2_with fail
    refine (hex_any _ _ (bAt_nonneg _ _) (bAt_le _ _)).mono ?_
    rintro e wq0 ⟨rfl, rfl⟩
    go_wp2_with fail
    refine (hex_is b s tw false σ _ _ _ _ _ H1 (h.drewN n0) hs ha (.inr (by omega))).mono ?_
    rintro e w1 ⟨rfl, hR1, hM1⟩
    go_wp2_with fail
    refine (see_any b s tw false σ1 _ hR1 hs a1).mono ?_
    rintro e wq1 ⟨rfl, n1, rfl⟩
    go_wp2_with fail
    refine (hex_any _ _ (bAt_nonneg _ _) (bAt_le _ _)).mono ?_
    rintro e wq1 ⟨rfl, rfl⟩
    go_wp2_with fail
    refine (hex_is b s tw false σ1 _ _ _ _ _ H2 (hR1.drewN n1) hs a1 (.inr (by omega))).mono ?_
    rintro e w2 ⟨rfl, hR2, hM2⟩
    go_wp2_with fail
    refine (hex_is b s tw false σ2 _ _ _ _ _ H3 hR2 hs a2 (.inr (by omega))).mono ?_
    rintro e w3 ⟨rfl, hR3, hM3⟩
    go_wp2_with fail
    refine (hex_is b s tw false σ3 _ _ _ _ _ H4 hR3 hs a3 (.inr (by omega))).mono ?_
    rintro e w4 ⟨rfl, hR4, hM4⟩
    go_wp2_with fail
    all_goals go_ret2
    exact ⟨by rw [HE.out]; first | done | rfl, by rw [HE.out]; exact hR4, (((((Mv.refl _ _).drewN _).trans hM1).trans (((Mv.refl _ _).drewN _).trans hM2)).trans hM3).trans hM4⟩
  · have hg1 : decide (8 ≤ hexV (bAt s σ1.at_)) = false := by simpa using hg
    have HE : Hid (St.unit s false false σ = (true, false, σ4)) := Lib.hid (by simp [St.unit, St.unitX, St.unitY, St.unitLo, St.unitHi, St.hex2, St.andThen, H1.out, H2.out, H3.out, H4.out, hf, hg])
    clear hf
    go_enter Tryz.func95, Tryz.ntmps95
    go_wp2_with fail
    refine (see_any b s tw false σ _ h hs ha).mono ?_
    rintro e wq0 ⟨rfl, n0, rfl⟩
    go_wp2_with fail
    refine (hex_any _ _ (bAt_nonneg _ _) (bAt_le _ _)).mono ?_
    rintro e wq0 ⟨rfl, rfl⟩
    go_wp2_with fail
    refine (hex_is b s tw false σ _ _ _ _ _ H1 (h.drewN n0) hs ha (.inr (by omega))).mono ?_
    rintro e w1 ⟨rfl, hR1, hM1⟩
    go_wp2_with fail
    refine (see_any b s tw false σ1 _ hR1 hs a1).mono ?_
    rintro e wq1 ⟨rfl, n1, rfl⟩
    go_wp2_with fail
    refine (hex_any _ _ (bAt_nonneg _ _) (bAt_le _ _)).mono ?_
    rintro e wq1 ⟨rfl, rfl⟩
    go_wp2_with fail
    refine (hex_is b s tw false σ1 _ _ _ _ _ H2 (hR1.drewN n1) hs a1 (.inr (by omega))).mono ?_
    rintro e w2 ⟨rfl, hR2, hM2⟩
    go_wp2_with fail
    refine (hex_is b s tw false σ2 _ _ _ _ _ H3 hR2 hs a2 (.inr (by omega))).mono ?_
    rintro e w3 ⟨rfl, hR3, hM3⟩
    go_wp2_with fail
    refine (hex_is b s tw false σ3 _ _ _ _ _ H4 hR3 hs a3 (.inr (by omega))).mono ?_
    rintro e w4 ⟨rfl, hR4, hM4⟩
    go_wp2_with fail
    all_goals go_ret2
    exact ⟨by rw [HE.out]; first | done | rfl, by rw [HE.out]; exact hR4, (((((Mv.refl _ _).drewN _).trans hM1).trans (((Mv.refl _ _).drewN _).trans hM2)).trans hM3).trans hM4⟩

set_option maxHeartbeats 1000000 in
theorem unit_plain (b : Nat) (s : ByteArray) (tw lo : Bool) (hlo : lo = false) (σ : St) (w : World) (hf : ¬ hexV (bAt s σ.at_) = 13) (h : IsR w b s tw lo σ) (hs : s.size ≤ maxLen) (ha : σ.at_ ≤ s.size) :
    Calls Tryz.prog 95 #[.pointer (some ⟨b, 0, none⟩), .bool false] w fun e w' => e = .returned (.tuple #[.bool (St.unit s lo false σ).1, .bool (St.unit s lo false σ).2.1]) ∧ IsR w' b s tw lo (St.unit s lo false σ).2.2 ∧ Mv b w w' := by
  subst hlo
  obtain ⟨c0, c1, c2, c3, c4, c5, f1, f4, f5⟩ := h.cells
  obtain ⟨r1, σ1, H1⟩ := named (St.hex s σ 0 15)
  obtain ⟨r2, σ2, H2⟩ := named (St.hex s σ1 0 15)
  obtain ⟨r3, σ3, H3⟩ := named (St.hex s σ2 0 15)
  obtain ⟨r4, σ4, H4⟩ := named (St.hex s σ3 0 15)
  have a1 := hex_le H1 ha (by omega)
  have a2 := hex_le H2 a1 (by omega)
  have a3 := hex_le H3 a2 (by omega)
  have hf1 : (hexV (bAt s σ.at_) == 13) = false := by simpa using hf
  cases r1
  · have HE : Hid (St.unit s false false σ = (false, false, σ1)) := Lib.hid (by simp [St.unit, St.unitX, St.unitY, St.unitLo, St.unitHi, St.hex2, St.andThen, H1.out, hf])
    clear hf
    go_enter Tryz.func95, Tryz.ntmps95
    go_wp2_with fail
    refine (see_any b s tw false σ _ h hs ha).mono ?_
    rintro e wq0 ⟨rfl, n0, rfl⟩
    go_wp2_with fail
    refine (hex_any _ _ (bAt_nonneg _ _) (bAt_le _ _)).mono ?_
    rintro e wq0 ⟨rfl, rfl⟩
    go_wp2_with fail
    refine (hex_is b s tw false σ _ _ _ _ _ H1 (h.drewN n0) hs ha (.inr (by omega))).mono ?_
    rintro e w1 ⟨rfl, hR1, hM1⟩
    go_wp2_with fail
    all_goals go_ret2
    exact ⟨by rw [HE.out]; first | done | rfl, by rw [HE.out]; exact hR1, ((Mv.refl _ _).drewN _).trans hM1⟩
  cases r2
  · have HE : Hid (St.unit s false false σ = (false, false, σ2)) := Lib.hid (by simp [St.unit, St.unitX, St.unitY, St.unitLo, St.unitHi, St.hex2, St.andThen, H1.out, H2.out, hf])
    clear hf
    go_enter Tryz.func95, Tryz.ntmps95
    go_wp2_with fail
    refine (see_any b s tw false σ _ h hs ha).mono ?_
    rintro e wq0 ⟨rfl, n0, rfl⟩
    go_wp2_with fail
    refine (hex_any _ _ (bAt_nonneg _ _) (bAt_le _ _)).mono ?_
    rintro e wq0 ⟨rfl, rfl⟩
    go_wp2_with fail
    refine (hex_is b s tw false σ _ _ _ _ _ H1 (h.drewN n0) hs ha (.inr (by omega))).mono ?_
    rintro e w1 ⟨rfl, hR1, hM1⟩
    go_wp2_with fail
    refine (see_any b s tw false σ1 _ hR1 hs a1).mono ?_
    rintro e wq1 ⟨rfl, n1, rfl⟩
    go_wp2_with fail
    refine (hex_any _ _ (bAt_nonneg _ _) (bAt_le _ _)).mono ?_
    rintro e wq1 ⟨rfl, rfl⟩
    go_wp2_with fail
    refine (hex_is b s tw false σ1 _ _ _ _ _ H2 (hR1.drewN n1) hs a1 (.inr (by omega))).mono ?_
    rintro e w2 ⟨rfl, hR2, hM2⟩
    go_wp2_with fail
    all_goals go_ret2
    exact ⟨by rw [HE.out]; first | done | rfl, by rw [HE.out]; exact hR2, (((Mv.refl _ _).drewN _).trans hM1).trans (((Mv.refl _ _).drewN _).trans hM2)⟩
  cases r3
  · have HE : Hid (St.unit s false false σ = (false, false, σ3)) := Lib.hid (by simp [St.unit, St.unitX, St.unitY, St.unitLo, St.unitHi, St.hex2, St.andThen, H1.out, H2.out, H3.out, hf])
    clear hf
    go_enter Tryz.func95, Tryz.ntmps95
    go_wp2_with fail
    refine (see_any b s tw false σ _ h hs ha).mono ?_
    rintro e wq0 ⟨rfl, n0, rfl⟩
    go_wp2_with fail
    refine (hex_any _ _ (bAt_nonneg _ _) (bAt_le _ _)).mono ?_
    rintro e wq0 ⟨rfl, rfl⟩
    go_wp2_with fail
    refine (hex_is b s tw false σ _ _ _ _ _ H1 (h.drewN n0) hs ha (.inr (by omega))).mono ?_
    rintro e w1 ⟨rfl, hR1, hM1⟩
    go_wp2_with fail
    refine (see_any b s tw false σ1 _ hR1 hs a1).mono ?_
    rintro e wq1 ⟨rfl, n1, rfl⟩
    go_wp2_with fail
    refine (hex_any _ _ (bAt_nonneg _ _) (bAt_le _ _)).mono ?_
    rintro e wq1 ⟨rfl, rfl⟩
    go_wp2_with fail
    refine (hex_is b s tw false σ1 _ _ _ _ _ H2 (hR1.drewN n1) hs a1 (.inr (by omega))).mono ?_
    rintro e w2 ⟨rfl, hR2, hM2⟩
    go_wp2_with fail
    refine (hex_is b s tw false σ2 _ _ _ _ _ H3 hR2 hs a2 (.inr (by omega))).mono ?_
    rintro e w3 ⟨rfl, hR3, hM3⟩
    go_wp2_with fail
    all_goals go_ret2
    exact ⟨by rw [HE.out]; first | done | rfl, by rw [HE.out]; exact hR3, ((((Mv.refl _ _).drewN _).trans hM1).trans (((Mv.refl _ _).drewN _).trans hM2)).trans hM3⟩
  cases r4
  · have HE : Hid (St.unit s false false σ = (false, false, σ4)) := Lib.hid (by simp [St.unit, St.unitX, St.unitY, St.unitLo, St.unitHi, St.hex2, St.andThen, H1.out, H2.out, H3.out, H4.out, hf])
    clear hf
    go_enter Tryz.func95, Tryz.ntmps95
    go_wp2_with fail
    refine (see_any b s tw false σ _ h hs ha).mono ?_
    rintro e wq0 ⟨rfl, n0, rfl⟩
    go_wp2_with fail
    refine (hex_any _ _ (bAt_nonneg _ _) (bAt_le _ _)).mono ?_
    rintro e wq0 ⟨rfl, rfl⟩
    go_wp2_with fail
    refine (hex_is b s tw false σ _ _ _ _ _ H1 (h.drewN n0) hs ha (.inr (by omega))).mono ?_
    rintro e w1 ⟨rfl, hR1, hM1⟩
    go_wp2_with fail
    refine (see_any b s tw false σ1 _ hR1 hs a1).mono ?_
    rintro e wq1 ⟨rfl, n1, rfl⟩
    go_wp2_with fail
    refine (hex_any _ _ (bAt_nonneg _ _) (bAt_le _ _)).mono ?_
    rintro e wq1 ⟨rfl, rfl⟩
    go_wp2_with fail
    refine (hex_is b s tw false σ1 _ _ _ _ _ H2 (hR1.drewN n1) hs a1 (.inr (by omega))).mono ?_
    rintro e w2 ⟨rfl, hR2, hM2⟩
    go_wp2_with fail
    refine (hex_is b s tw false σ2 _ _ _ _ _ H3 hR2 hs a2 (.inr (by omega))).mono ?_
    rintro e w3 ⟨rfl, hR3, hM3⟩
    go_wp2_with fail
    refine (hex_is b s tw false σ3 _ _ _ _ _ H4 hR3 hs a3 (.inr (by omega))).mono ?_
    rintro e w4 ⟨rfl, hR4, hM4⟩
    go_wp2_with fail
    all_goals go_ret2
    exact ⟨by rw [HE.out]; first | done | rfl, by rw [HE.out]; exact hR4, (((((Mv.refl _ _).drewN _).trans hM1).trans (((Mv.refl _ _).drewN _).trans hM2)).trans hM3).trans hM4⟩
  · have HE : Hid (St.unit s false false σ = (true, false, σ4)) := Lib.hid (by simp [St.unit, St.unitX, St.unitY, St.unitLo, St.unitHi, St.hex2, St.andThen, H1.out, H2.out, H3.out, H4.out, hf])
    clear hf
    go_enter Tryz.func95, Tryz.ntmps95
    go_wp2_with fail
    refine (see_any b s tw false σ _ h hs ha).mono ?_
    rintro e wq0 ⟨rfl, n0, rfl⟩
    go_wp2_with fail
    refine (hex_any _ _ (bAt_nonneg _ _) (bAt_le _ _)).mono ?_
    rintro e wq0 ⟨rfl, rfl⟩
    go_wp2_with fail
    refine (hex_is b s tw false σ _ _ _ _ _ H1 (h.drewN n0) hs ha (.inr (by omega))).mono ?_
    rintro e w1 ⟨rfl, hR1, hM1⟩
    go_wp2_with fail
    refine (see_any b s tw false σ1 _ hR1 hs a1).mono ?_
    rintro e wq1 ⟨rfl, n1, rfl⟩
    go_wp2_with fail
    refine (hex_any _ _ (bAt_nonneg _ _) (bAt_le _ _)).mono ?_
    rintro e wq1 ⟨rfl, rfl⟩
    go_wp2_with fail
    refine (hex_is b s tw false σ1 _ _ _ _ _ H2 (hR1.drewN n1) hs a1 (.inr (by omega))).mono ?_
    rintro e w2 ⟨rfl, hR2, hM2⟩
    go_wp2_with fail
    refine (hex_is b s tw false σ2 _ _ _ _ _ H3 hR2 hs a2 (.inr (by omega))).mono ?_
    rintro e w3 ⟨rfl, hR3, hM3⟩
    go_wp2_with fail
    refine (hex_is b s tw false σ3 _ _ _ _ _ H4 hR3 hs a3 (.inr (by omega))).mono ?_
    rintro e w4 ⟨rfl, hR4, hM4⟩
    go_wp2_with fail
    all_goals go_ret2
    exact ⟨by rw [HE.out]; first | done | rfl, by rw [HE.out]; exact hR4, (((((Mv.refl _ _).drewN _).trans hM1).trans (((Mv.refl _ _).drewN _).trans hM2)).trans hM3).trans hM4⟩

theorem unit_any (b : Nat) (s : ByteArray) (tw lo low : Bool) (σ : St) (w : World) (h : IsR w b s tw lo σ) (hs : s.size ≤ maxLen) (ha : σ.at_ ≤ s.size) :
    Calls Tryz.prog 95 #[.pointer (some ⟨b, 0, none⟩), .bool low] w fun e w' => e = .returned (.tuple #[.bool (St.unit s lo low σ).1, .bool (St.unit s lo low σ).2.1]) ∧ IsR w' b s tw lo (St.unit s lo low σ).2.2 ∧ Mv b w w' := by
  cases hlo : lo
  · cases hw : low
    · by_cases hf : hexV (bAt s σ.at_) = 13
      · exact unit_first b s tw false rfl σ w hf (hlo ▸ h) hs ha
      · exact unit_plain b s tw false rfl σ w hf (hlo ▸ h) hs ha
    · exact unit_low b s tw false rfl σ w (hlo ▸ h) hs ha
  · have h1 := unit_loose b s tw low σ w (hlo ▸ h) hs ha
    have e : St.unit s true low σ = ((St.hex4 s σ).1, false, (St.hex4 s σ).2) := by simp [St.unit]
    rw [e]; exact h1
end
section
/- (Rd3) Contracts of the methods of the reader of the reference: escapes, characters, strings, white space. -/
open Go.RowKit

theorem named3 (p : Bool × Bool × St) : ∃ r h σ', Hid (p = (r, h, σ')) := ⟨p.1, p.2.1, p.2.2, Lib.hid rfl⟩
theorem unit_is (b : Nat) (s : ByteArray) (tw lo low : Bool) (σ : St) (w : World) (r g : Bool) (σ' : St) (H : Hid (St.unit s lo low σ = (r, g, σ'))) (h : IsR w b s tw lo σ) (hs : s.size ≤ maxLen) (ha : σ.at_ ≤ s.size) :
    Calls Tryz.prog 95 #[.pointer (some ⟨b, 0, none⟩), .bool low] w fun e w' => e = .returned (.tuple #[.bool r, .bool g]) ∧ IsR w' b s tw lo σ' ∧ Mv b w w' := by
  have h1 := unit_any b s tw lo low σ w h hs ha
  rw [H.out] at h1
  exact h1
theorem unit_le {s : ByteArray} {σ : St} {lo low : Bool} {r g : Bool} {σ' : St} (H : Hid (St.unit s lo low σ = (r, g, σ'))) (ha : σ.at_ ≤ s.size) : σ'.at_ ≤ s.size := by
  have := (St.unit_adv (s := s) ha lo low).2.1; rw [H.out] at this; exact this

set_option maxHeartbeats 1000000 in
theorem escape_any (b : Nat) (s : ByteArray) (tw lo : Bool) (σ : St) (w : World) (h : IsR w b s tw lo σ) (hs : s.size ≤ maxLen) (ha : σ.at_ ≤ s.size) :
    Calls Tryz.prog 77 #[.pointer (some ⟨b, 0, none⟩)] w fun e w' => e = .returned (.bool (St.escape s lo σ).1) ∧ IsR w' b s tw lo (St.escape s lo σ).2 ∧ Mv b w w' := by
  obtain ⟨c0, c1, c2, c3, c4, c5, f1, f4, f5⟩ := h.cells
  have hs' := hs
  unfold maxLen at hs'
  by_cases hc : bAt s σ.at_ = 34 ∨ bAt s σ.at_ = 92 ∨ bAt s σ.at_ = 47 ∨ bAt s σ.at_ = 98 ∨ bAt s σ.at_ = 102 ∨ bAt s σ.at_ = 110 ∨ bAt s σ.at_ = 114 ∨ bAt s σ.at_ = 116
  · have HE : Hid (St.escape s lo σ = (true, { σ with at_ := σ.at_ + 1 })) := Lib.hid (by simp [St.escape, hc])
    have hlt : σ.at_ < s.size := by
      by_cases hl : σ.at_ < s.size
      · exact hl
      · rw [bAt_ge hl] at hc; omega
    generalize hk : bAt s σ.at_ = k at hc
    have HK := Lib.hid hk
    clear hk
    rcases hc with hc | hc | hc | hc | hc | hc | hc | hc
    all_goals
      subst hc
      go_enter Tryz.func77, Tryz.ntmps77
      go_wp2_with fail
      refine (see_any b s tw lo σ _ h hs ha).mono ?_
      rw [HK.out]
      rintro e w1 ⟨rfl, n, rfl⟩
      go_wp2
      all_goals go_ret
      exact ⟨by rw [HE.out]; first | done | rfl, by rw [HE.out]; exact (h.drewN n).setAt _, ((Mv.refl _ _).drewN _).setCell _ _⟩
  · have hne : ∀ k : Int, (k = 34 ∨ k = 92 ∨ k = 47 ∨ k = 98 ∨ k = 102 ∨ k = 110 ∨ k = 114 ∨ k = 116) → (bAt s σ.at_ == k) = false := by
      intro k hk; rw [beq_eq_false_iff_ne]; intro e; rw [← e] at hk; exact hc hk
    have k1 := hne 34 (by omega)
    have k2 := hne 92 (by omega)
    have k3 := hne 47 (by omega)
    have k4 := hne 98 (by omega)
    have k5 := hne 102 (by omega)
    have k6 := hne 110 (by omega)
    have k7 := hne 114 (by omega)
    have k8 := hne 116 (by omega)
    clear hne
    by_cases hu : bAt s σ.at_ = 117
    · have hlt : σ.at_ < s.size := by
        by_cases hl : σ.at_ < s.size
        · exact hl
        · rw [bAt_ge hl] at hu; omega
      have ku : (bAt s σ.at_ == 117) = true := by simp [hu]
      obtain ⟨r1, g1, σ1, H1⟩ := named3 (St.unit s lo false { σ with at_ := σ.at_ + 1 })
      obtain ⟨r2, σ2, H2⟩ := named (St.need s σ1 92 92)
      obtain ⟨r3, σ3, H3⟩ := named (St.need s σ2 117 117)
      obtain ⟨r4, g4, σ4, H4⟩ := named3 (St.unit s lo true σ3)
      have a0 : ({ σ with at_ := σ.at_ + 1 } : St).at_ ≤ s.size := by simp; omega
      have a1 := unit_le H1 a0
      have a2 := need_le H2 a1
      have a3 := need_le H3 a2
      have E0 : Hid (St.escape s lo σ = if r1 && g1 then (if r2 then (if r3 then (r4, σ4) else (false, σ3)) else (false, σ2)) else (r1, σ1)) :=
        Lib.hid (by simp [St.escape, hu, H1.out, St.andThen, H2.out, H3.out, H4.out])
      clear hu hc
      go_enter Tryz.func77, Tryz.ntmps77
      go_wp2_with fail
      refine (see_any b s tw lo σ _ h hs ha).mono ?_
      rintro e w1 ⟨rfl, n, rfl⟩
      go_wp2_with fail
      refine (unit_is b s tw lo _ _ _ _ _ _ H1 ((h.drewN n).setAt _) hs a0).mono ?_
      rintro e w2 ⟨rfl, hR1, hM1⟩
      have hm1 : Mv b w w2 := (((Mv.refl _ _).drewN _).setCell _ _).trans hM1
      cases r1
      · go_wp2_with fail
        all_goals go_ret
        exact ⟨by rw [E0.out]; first | done | rfl, by rw [E0.out]; exact hR1, hm1⟩
      cases g1
      · go_wp2_with fail
        all_goals go_ret
        exact ⟨by rw [E0.out]; first | done | rfl, by rw [E0.out]; exact hR1, hm1⟩
      go_wp2_with fail
      refine (need_is b s tw lo σ1 _ _ _ _ _ H2 hR1 hs a1).mono ?_
      rintro e w3 ⟨rfl, hR2, hM2⟩
      cases r2
      · go_wp2_with fail
        all_goals go_ret
        exact ⟨by rw [E0.out]; first | done | rfl, by rw [E0.out]; exact hR2, hm1.trans hM2⟩
      go_wp2_with fail
      refine (need_is b s tw lo σ2 _ _ _ _ _ H3 hR2 hs a2).mono ?_
      rintro e w4 ⟨rfl, hR3, hM3⟩
      cases r3
      · go_wp2_with fail
        all_goals go_ret
        exact ⟨by rw [E0.out]; first | done | rfl, by rw [E0.out]; exact hR3, (hm1.trans hM2).trans hM3⟩
      go_wp2_with fail
      refine (unit_is b s tw lo _ _ _ _ _ _ H4 hR3 hs a3).mono ?_
      rintro e w5 ⟨rfl, hR4, hM4⟩
      go_wp2_with fail
      all_goals go_ret
      exact ⟨by rw [E0.out]; first | done | rfl, by rw [E0.out]; exact hR4, ((hm1.trans hM2).trans hM3).trans hM4⟩
    · have HE : Hid (St.escape s lo σ = (false, σ.fail 4)) := Lib.hid (by simp [St.escape, hc, hu])
      have ku : (bAt s σ.at_ == 117) = false := by simpa using hu
      clear hu hc
      go_enter Tryz.func77, Tryz.ntmps77
      go_wp2_with fail
      refine (see_any b s tw lo σ _ h hs ha).mono ?_
      rintro e w1 ⟨rfl, n, rfl⟩
      go_wp2_with fail
      refine (fail_any b s tw lo σ _ _ (h.drewN n)).mono ?_
      rintro e w2 ⟨rfl, hR, hM⟩
      go_wp2_with fail
      all_goals go_ret
      exact ⟨by rw [HE.out]; first | done | rfl, by rw [HE.out]; exact hR, ((Mv.refl _ _).drewN _).trans hM⟩

theorem escape_is (b : Nat) (s : ByteArray) (tw lo : Bool) (σ : St) (w : World) (r : Bool) (σ' : St) (H : Hid (St.escape s lo σ = (r, σ'))) (h : IsR w b s tw lo σ) (hs : s.size ≤ maxLen) (ha : σ.at_ ≤ s.size) :
    Calls Tryz.prog 77 #[.pointer (some ⟨b, 0, none⟩)] w fun e w' => e = .returned (.bool r) ∧ IsR w' b s tw lo σ' ∧ Mv b w w' := by
  have h1 := escape_any b s tw lo σ w h hs ha
  rw [H.out] at h1
  exact h1
end
section
/- (Rd4) Contracts of the methods of the reader of the reference: characters, strings, white space; how reading a part came out. -/
open Go.RowKit

theorem in_text {s : ByteArray} {i : Nat} {k : Int} (h : bAt s i = k) (hk : k ≠ 0) : i < s.size := by
  by_cases hl : i < s.size
  · exact hl
  · rw [bAt_ge hl] at h; omega
theorem in_text' {s : ByteArray} {i : Nat} (h : 0 < bAt s i) : i < s.size := by
  by_cases hl : i < s.size
  · exact hl
  · rw [bAt_ge hl] at h; omega

set_option maxHeartbeats 1000000 in
theorem rune2 (b : Nat) (s : ByteArray) (tw lo : Bool) (σ : St) (w : World) (h : IsR w b s tw lo σ) (hs : s.size ≤ maxLen) (ha : σ.at_ < s.size) (hc1 : 194 ≤ bAt s σ.at_) (hc2 : bAt s σ.at_ ≤ 223) :
    Calls Tryz.prog 66 #[.pointer (some ⟨b, 0, none⟩)] w fun e w' => e = .returned (.bool (St.rune s σ).1) ∧ IsR w' b s tw lo (St.rune s σ).2 ∧ Mv b w w' := by
  obtain ⟨c0, c1, c2, c3, c4, c5, f1, f4, f5⟩ := h.cells
  have hs' := hs
  unfold maxLen at hs'
  obtain ⟨r1, σ1, H1⟩ := named (St.need s { σ with at_ := σ.at_ + 1 } 128 191)
  have HE : Hid (St.rune s σ = (r1, σ1)) := Lib.hid (by simp [St.rune, hc1, hc2, H1.out])
  have a0 : ({ σ with at_ := σ.at_ + 1 } : St).at_ ≤ s.size := by simp; omega
  go_enter Tryz.func66, Tryz.ntmps66
  go_wp2_with fail
  refine (see_any b s tw lo σ _ h hs (Nat.le_of_lt ha)).mono ?_
  rintro e w1 ⟨rfl, n, rfl⟩
  go_wp2_with fail
  refine (need_is b s tw lo _ _ _ _ _ _ H1 ((h.drewN n).setAt _) hs a0).mono ?_
  rintro e w2 ⟨rfl, hR, hM⟩
  go_wp2_with fail
  all_goals go_ret
  exact ⟨by rw [HE.out]; first | done | rfl, by rw [HE.out]; exact hR, (((Mv.refl _ _).drewN _).setCell _ _).trans hM⟩

set_option maxHeartbeats 1000000 in
theorem rune3 (b : Nat) (s : ByteArray) (tw lo : Bool) (σ : St) (w : World) (h : IsR w b s tw lo σ) (hs : s.size ≤ maxLen) (ha : σ.at_ < s.size) (hc1 : 224 ≤ bAt s σ.at_) (hc2 : bAt s σ.at_ ≤ 239) (x y : Int)
    (hxy : bAt s σ.at_ = 224 ∧ x = 160 ∧ y = 191 ∨ bAt s σ.at_ = 237 ∧ x = 128 ∧ y = 159 ∨ bAt s σ.at_ ≠ 224 ∧ bAt s σ.at_ ≠ 237 ∧ x = 128 ∧ y = 191) :
    Calls Tryz.prog 66 #[.pointer (some ⟨b, 0, none⟩)] w fun e w' => e = .returned (.bool (St.rune s σ).1) ∧ IsR w' b s tw lo (St.rune s σ).2 ∧ Mv b w w' := by
  obtain ⟨c0, c1, c2, c3, c4, c5, f1, f4, f5⟩ := h.cells
  have hs' := hs
  unfold maxLen at hs'
  obtain ⟨r1, σ1, H1⟩ := named (St.need s { σ with at_ := σ.at_ + 1 } x y)
  obtain ⟨r2, σ2, H2⟩ := named (St.need s σ1 128 191)
  have E0 : Hid (St.rune s σ = if r1 then (r2, σ2) else (false, σ1)) := Lib.hid (by
    have hn : ¬ bAt s σ.at_ ≤ 223 := by omega
    rcases hxy with ⟨e, rfl, rfl⟩ | ⟨e, rfl, rfl⟩ | ⟨e, e', rfl, rfl⟩
    · simp [St.rune, e, H1.out, St.andThen, H2.out]
    · simp [St.rune, e, H1.out, St.andThen, H2.out]
    · simp [St.rune, hn, hc1, hc2, e, e', H1.out, St.andThen, H2.out])
  have a0 : ({ σ with at_ := σ.at_ + 1 } : St).at_ ≤ s.size := by simp; omega
  have a1 := need_le H1 a0
  have hk1 : (bAt s σ.at_ == 224) = decide (x = 160) := by rcases hxy with ⟨e, rfl, rfl⟩ | ⟨e, rfl, rfl⟩ | ⟨e, e', rfl, rfl⟩ <;> simp [e]
  have hk2 : (bAt s σ.at_ == 237) = decide (y = 159) := by rcases hxy with ⟨e, rfl, rfl⟩ | ⟨e, rfl, rfl⟩ | ⟨e, e', rfl, rfl⟩ <;> simp [e] <;> assumption
  have hxy' : x = 160 ∧ y = 191 ∨ x = 128 ∧ y = 159 ∨ x = 128 ∧ y = 191 := by rcases hxy with ⟨_, h⟩ | ⟨_, h⟩ | ⟨_, _, h⟩ <;> simp [h]
  clear hxy
  rcases hxy' with ⟨rfl, rfl⟩ | ⟨rfl, rfl⟩ | ⟨rfl, rfl⟩
  all_goals
    simp only [Int.reduceEq, decide_true, decide_false] at hk1 hk2
    go_enter Tryz.func66, Tryz.ntmps66
    go_wp2_with fail
    refine (see_any b s tw lo σ _ h hs (Nat.le_of_lt ha)).mono ?_
    rintro e w1 ⟨rfl, n, rfl⟩
    go_wp2_with fail
    refine (need_is b s tw lo _ _ _ _ _ _ H1 ((h.drewN n).setAt _) hs a0).mono ?_
    rintro e w2 ⟨rfl, hR, hM⟩
    cases r1
    · go_wp2_with fail
      all_goals go_ret
      exact ⟨by rw [E0.out]; first | done | rfl, by rw [E0.out]; exact hR, (((Mv.refl _ _).drewN _).setCell _ _).trans hM⟩
    · go_wp2_with fail
      refine (need_is b s tw lo _ _ _ _ _ _ H2 hR hs a1).mono ?_
      rintro e w3 ⟨rfl, hR2, hM2⟩
      go_wp2_with fail
      all_goals go_ret
      exact ⟨by rw [E0.out]; first | done | rfl, by rw [E0.out]; exact hR2, ((((Mv.refl _ _).drewN _).setCell _ _).trans hM).trans hM2⟩

set_option maxHeartbeats 1000000 in
theorem rune4 (b : Nat) (s : ByteArray) (tw lo : Bool) (σ : St) (w : World) (h : IsR w b s tw lo σ) (hs : s.size ≤ maxLen) (ha : σ.at_ < s.size) (hc1 : 240 ≤ bAt s σ.at_) (hc2 : bAt s σ.at_ ≤ 244) (x y : Int)
    (hxy : bAt s σ.at_ = 240 ∧ x = 144 ∧ y = 191 ∨ bAt s σ.at_ = 244 ∧ x = 128 ∧ y = 143 ∨ bAt s σ.at_ ≠ 240 ∧ bAt s σ.at_ ≠ 244 ∧ x = 128 ∧ y = 191) :
    Calls Tryz.prog 66 #[.pointer (some ⟨b, 0, none⟩)] w fun e w' => e = .returned (.bool (St.rune s σ).1) ∧ IsR w' b s tw lo (St.rune s σ).2 ∧ Mv b w w' := by
  obtain ⟨c0, c1, c2, c3, c4, c5, f1, f4, f5⟩ := h.cells
  have hs' := hs
  unfold maxLen at hs'
  obtain ⟨r1, σ1, H1⟩ := named (St.need s { σ with at_ := σ.at_ + 1 } x y)
  obtain ⟨r2, σ2, H2⟩ := named (St.need s σ1 128 191)
  obtain ⟨r3, σ3, H3⟩ := named (St.need s σ2 128 191)
  have E0 : Hid (St.rune s σ = if r1 then (if r2 then (r3, σ3) else (false, σ2)) else (false, σ1)) := Lib.hid (by
    have hn : ¬ bAt s σ.at_ ≤ 223 := by omega
    have hn' : ¬ bAt s σ.at_ ≤ 239 := by omega
    rcases hxy with ⟨e, rfl, rfl⟩ | ⟨e, rfl, rfl⟩ | ⟨e, e', rfl, rfl⟩
    · simp [St.rune, e, H1.out, St.andThen, H2.out, H3.out]
    · simp [St.rune, e, H1.out, St.andThen, H2.out, H3.out]
    · simp [St.rune, hn, hn', hc1, hc2, e, e', H1.out, St.andThen, H2.out, H3.out])
  have a0 : ({ σ with at_ := σ.at_ + 1 } : St).at_ ≤ s.size := by simp; omega
  have a1 := need_le H1 a0
  have a2 := need_le H2 a1
  have hk1 : (bAt s σ.at_ == 240) = decide (x = 144) := by rcases hxy with ⟨e, rfl, rfl⟩ | ⟨e, rfl, rfl⟩ | ⟨e, e', rfl, rfl⟩ <;> simp [e]
  have hk2 : (bAt s σ.at_ == 244) = decide (y = 143) := by rcases hxy with ⟨e, rfl, rfl⟩ | ⟨e, rfl, rfl⟩ | ⟨e, e', rfl, rfl⟩ <;> simp [e] <;> assumption
  have hxy' : x = 144 ∧ y = 191 ∨ x = 128 ∧ y = 143 ∨ x = 128 ∧ y = 191 := by rcases hxy with ⟨_, h⟩ | ⟨_, h⟩ | ⟨_, _, h⟩ <;> simp [h]
  clear hxy
  rcases hxy' with ⟨rfl, rfl⟩ | ⟨rfl, rfl⟩ | ⟨rfl, rfl⟩
  all_goals
    simp only [Int.reduceEq, decide_true, decide_false] at hk1 hk2
    go_enter Tryz.func66, Tryz.ntmps66
    go_wp2_with fail
    refine (see_any b s tw lo σ _ h hs (Nat.le_of_lt ha)).mono ?_
    rintro e w1 ⟨rfl, n, rfl⟩
    go_wp2_with fail
    refine (need_is b s tw lo _ _ _ _ _ _ H1 ((h.drewN n).setAt _) hs a0).mono ?_
    rintro e w2 ⟨rfl, hR, hM⟩
    cases r1
    · go_wp2_with fail
      all_goals go_ret
      exact ⟨by rw [E0.out]; first | done | rfl, by rw [E0.out]; exact hR, (((Mv.refl _ _).drewN _).setCell _ _).trans hM⟩
    · go_wp2_with fail
      refine (need_is b s tw lo _ _ _ _ _ _ H2 hR hs a1).mono ?_
      rintro e w3 ⟨rfl, hR2, hM2⟩
      cases r2
      · go_wp2_with fail
        all_goals go_ret
        exact ⟨by rw [E0.out]; first | done | rfl, by rw [E0.out]; exact hR2, ((((Mv.refl _ _).drewN _).setCell _ _).trans hM).trans hM2⟩
      · go_wp2_with fail
        refine (need_is b s tw lo _ _ _ _ _ _ H3 hR2 hs a2).mono ?_
        rintro e w4 ⟨rfl, hR3, hM3⟩
        go_wp2_with fail
        all_goals go_ret
        exact ⟨by rw [E0.out]; first | done | rfl, by rw [E0.out]; exact hR3, (((((Mv.refl _ _).drewN _).setCell _ _).trans hM).trans hM2).trans hM3⟩

set_option maxHeartbeats 1000000 in
theorem rune_no (b : Nat) (s : ByteArray) (tw lo : Bool) (σ : St) (w : World) (h : IsR w b s tw lo σ) (hs : s.size ≤ maxLen) (ha : σ.at_ ≤ s.size)
    (hc : bAt s σ.at_ < 194 ∨ 223 < bAt s σ.at_ ∧ bAt s σ.at_ < 224 ∨ 239 < bAt s σ.at_ ∧ bAt s σ.at_ < 240 ∨ 244 < bAt s σ.at_) :
    Calls Tryz.prog 66 #[.pointer (some ⟨b, 0, none⟩)] w fun e w' => e = .returned (.bool (St.rune s σ).1) ∧ IsR w' b s tw lo (St.rune s σ).2 ∧ Mv b w w' := by
  have HE : Hid (St.rune s σ = (false, σ.fail 4)) := Lib.hid (by
    unfold St.rune; dsimp only; rw [if_neg (by omega), if_neg (by omega), if_neg (by omega)])
  have hc' : bAt s σ.at_ < 194 ∨ 244 < bAt s σ.at_ := by omega
  clear hc
  rcases hc' with hc | hc
  all_goals
    go_enter Tryz.func66, Tryz.ntmps66
    go_wp2_with fail
    refine (see_any b s tw lo σ _ h hs ha).mono ?_
    rintro e w1 ⟨rfl, n, rfl⟩
    go_wp2_with fail
    refine (fail_any b s tw lo σ _ _ (h.drewN n)).mono ?_
    rintro e w2 ⟨rfl, hR, hM⟩
    go_wp2_with fail
    all_goals go_ret
    exact ⟨by rw [HE.out]; first | done | rfl, by rw [HE.out]; exact hR, ((Mv.refl _ _).drewN _).trans hM⟩

theorem rune_any (b : Nat) (s : ByteArray) (tw lo : Bool) (σ : St) (w : World) (h : IsR w b s tw lo σ) (hs : s.size ≤ maxLen) (ha : σ.at_ ≤ s.size) :
    Calls Tryz.prog 66 #[.pointer (some ⟨b, 0, none⟩)] w fun e w' => e = .returned (.bool (St.rune s σ).1) ∧ IsR w' b s tw lo (St.rune s σ).2 ∧ Mv b w w' := by
  by_cases h0 : bAt s σ.at_ < 194 ∨ 244 < bAt s σ.at_
  · exact rune_no b s tw lo σ w h hs ha (by omega)
  have hl : σ.at_ < s.size := in_text' (by omega)
  by_cases h2 : bAt s σ.at_ ≤ 223
  · exact rune2 b s tw lo σ w h hs hl (by omega) h2
  by_cases h3 : bAt s σ.at_ ≤ 239
  · by_cases e1 : bAt s σ.at_ = 224
    · exact rune3 b s tw lo σ w h hs hl (by omega) h3 160 191 (.inl ⟨e1, rfl, rfl⟩)
    by_cases e2 : bAt s σ.at_ = 237
    · exact rune3 b s tw lo σ w h hs hl (by omega) h3 128 159 (.inr (.inl ⟨e2, rfl, rfl⟩))
    exact rune3 b s tw lo σ w h hs hl (by omega) h3 128 191 (.inr (.inr ⟨e1, e2, rfl, rfl⟩))
  · by_cases e1 : bAt s σ.at_ = 240
    · exact rune4 b s tw lo σ w h hs hl (by omega) (by omega) 144 191 (.inl ⟨e1, rfl, rfl⟩)
    by_cases e2 : bAt s σ.at_ = 244
    · exact rune4 b s tw lo σ w h hs hl (by omega) (by omega) 128 143 (.inr (.inl ⟨e2, rfl, rfl⟩))
    exact rune4 b s tw lo σ w h hs hl (by omega) (by omega) 128 191 (.inr (.inr ⟨e1, e2, rfl, rfl⟩))

theorem rune_is (b : Nat) (s : ByteArray) (tw lo : Bool) (σ : St) (w : World) (r : Bool) (σ' : St) (H : Hid (St.rune s σ = (r, σ'))) (h : IsR w b s tw lo σ) (hs : s.size ≤ maxLen) (ha : σ.at_ ≤ s.size) :
    Calls Tryz.prog 66 #[.pointer (some ⟨b, 0, none⟩)] w fun e w' => e = .returned (.bool r) ∧ IsR w' b s tw lo σ' ∧ Mv b w w' := by
  have h1 := rune_any b s tw lo σ w h hs ha
  rw [H.out] at h1
  exact h1
end
section
/- (Rd5) Contracts of the reader of the reference: a string, white space, how reading a part came out; the head of a string, the white space at the beginning. -/
open Go.RowKit

/-- What 'came' tells. -/
def cameN (s : ByteArray) (p : Bool × St) : Int := if p.1 then p.2.at_ else 0
def cameHow (s : ByteArray) (p : Bool × St) : Int := if p.1 then 0 else if p.2.at_ = s.size then 1 else 2

theorem loop_end {s : ByteArray} {lo : Bool} {g : Nat} {σ : St} {R : Bool × St} (A : Aside (St.strLoop s lo g σ = R)) (hl : σ.at_ < s.size) (hg : s.size - σ.at_ ≤ g) (h : bAt s σ.at_ = 34) : R = (true, σ) := by
  obtain ⟨g', rfl⟩ : ∃ g', g = g' + 1 := ⟨g - 1, by omega⟩
  have A' : St.strLoop s lo (g' + 1) σ = R := A
  rw [St.strLoop, if_pos hl, if_pos h] at A'; exact A'.symm
theorem loop_stop {s : ByteArray} {lo : Bool} {g : Nat} {σ σ1 : St} {R : Bool × St} (A : Aside (St.strLoop s lo g σ = R)) (hl : σ.at_ < s.size) (hg : s.size - σ.at_ ≤ g) (h : Hid (¬ bAt s σ.at_ = 34)) (hr : Hid (St.inner s lo σ = (false, σ1))) : R = (false, σ1) := by
  obtain ⟨g', rfl⟩ : ∃ g', g = g' + 1 := ⟨g - 1, by omega⟩
  have A' : St.strLoop s lo (g' + 1) σ = R := A
  rw [St.strLoop, if_pos hl, if_neg h.out, hr.out] at A'; simpa [St.andThen] using A'.symm
theorem loop_go {s : ByteArray} {lo : Bool} {g : Nat} {σ σ1 : St} {R : Bool × St} (A : Aside (St.strLoop s lo g σ = R)) (hl : σ.at_ < s.size) (hg : s.size - σ.at_ ≤ g) (h : Hid (¬ bAt s σ.at_ = 34)) (hr : Hid (St.inner s lo σ = (true, σ1))) :
    σ1.at_ ≤ s.size ∧ s.size - σ1.at_ ≤ g - 1 ∧ g - 1 < g ∧ Aside (St.strLoop s lo (g - 1) σ1 = R) := by
  obtain ⟨g', rfl⟩ : ∃ g', g = g' + 1 := ⟨g - 1, by omega⟩
  have A' : St.strLoop s lo (g' + 1) σ = R := A
  rw [St.strLoop, if_pos hl, if_neg h.out, hr.out] at A'
  have ad := St.inner_adv (s := s) hl lo
  rw [hr.out] at ad
  obtain ⟨a1, a2, a3⟩ := ad
  dsimp only at a1 a2 a3
  have := a3 rfl
  exact ⟨a2, by omega, by omega, by show St.strLoop s lo (g' + 1 - 1) σ1 = R; rw [Nat.add_sub_cancel]; simpa [St.andThen] using A'⟩

set_option maxHeartbeats 2000000 in
theorem quoted_any (b : Nat) (s : ByteArray) (tw lo : Bool) (σ : St) (w : World) (h : IsR w b s tw lo σ) (hs : s.size ≤ maxLen) (ha : σ.at_ ≤ s.size) :
    Calls Tryz.prog 56 #[.pointer (some ⟨b, 0, none⟩)] w fun e w' => e = .returned (.bool (St.quoted s lo σ).1) ∧ IsR w' b s tw lo (St.quoted s lo σ).2 ∧ Mv b w w' := by
  have hs' := hs
  unfold maxLen at hs'
  obtain ⟨r0, σ0, H0⟩ := named (St.need s σ 34 34)
  have a0 := need_le H0 ha
  obtain ⟨rr, σR, HR⟩ := named (St.strLoop s lo (s.size - σ0.at_) σ0)
  have E0 : Hid (St.quoted s lo σ = if r0 then (rr, σR) else (false, σ0)) := Lib.hid (by simp [St.quoted, H0.out, St.andThen, HR.out])
  have A0 : Aside (St.strLoop s lo (s.size - σ0.at_) σ0 = (rr, σR)) := HR.out
  go_enter Tryz.func56, Tryz.ntmps56
  go_wp2_with fail
  refine (need_is b s tw lo _ _ _ _ _ _ H0 h hs ha).mono ?_
  rintro e w1 ⟨rfl, hR0, hM0⟩
  cases r0
  · go_wp2_with fail
    all_goals go_ret
    exact ⟨by rw [E0.out]; first | done | rfl, by rw [E0.out]; exact hR0, hM0⟩
  go_wp2_with fail
  go_loopg [] (s.size - σ0.at_) (fun g wr => ∃ σ', IsR wr b s tw lo σ' ∧ Mv b w wr ∧ σ'.at_ ≤ s.size ∧ s.size - σ'.at_ ≤ g ∧ Aside (St.strLoop s lo g σ' = (rr, σR)))
  case atStart => exact ⟨σ0, hR0, hM0, a0, Nat.le_refl _, A0⟩
  case round =>
    obtain ⟨σ', hR, hM, ha', hg, A⟩ := hrel
    obtain ⟨c0, c1, c2, c3, c4, c5, f1, f4, f5⟩ := hR.cells
    by_cases hl : σ'.at_ < s.size
    · have hb := bAt_lt hl
      have kb0 := bAt_nonneg s σ'.at_
      have kb1 := bAt_le s σ'.at_
      rw [hb] at kb0 kb1
      by_cases h34 : bAt s σ'.at_ = 34
      · have E1 := Lib.hid (loop_end A hl hg h34)
        rw [hb] at h34
        clear hb A hg
        have hd : ((s[σ'.at_].toNat : Int) == 34) = true := by simp [h34]
        clear h34
        go_wp2_with fail
        go_quiet (fail)
        go_wp2_with fail
        go_quiet (fail)
        go_wp2_with fail
        all_goals go_ret
        have e1 : St.quoted s _ σ = (rr, σR) := E0.out
        rw [E1.out] at e1
        exact ⟨by rw [e1]; first | done | rfl, by rw [e1]; exact hR.drewN _, hM.drewN _⟩
      · have N34 := Lib.hid h34
        have hd34 : ((s[σ'.at_].toNat : Int) == 34) = false := by rw [← hb]; simpa using h34
        by_cases h92 : bAt s σ'.at_ = 92
        · obtain ⟨r1, σ1, H1⟩ := named (St.escape s lo { σ' with at_ := σ'.at_ + 1 })
          have K3 : Hid (St.inner s lo σ' = (r1, σ1)) := Lib.hid ((by simp [St.inner, h92, H1.out]))
          have hd : ((s[σ'.at_].toNat : Int) == 92) = true := by rw [← hb]; simpa using h92
          have a1 : ({ σ' with at_ := σ'.at_ + 1 } : St).at_ ≤ s.size := by simp; omega
          clear h34 h92 hb
          go_wp2_with fail
          go_quiet (fail)
          go_wp2_with fail
          go_quiet (fail)
          go_wp2_with fail
          refine (escape_is b s tw lo _ _ _ _ H1 ((hR.drewN _).setAt _) hs a1).mono ?_
          rintro e w2 ⟨rfl, hR1, hM1⟩
          have hM2 : Mv b w w2 := ((hM.drewN _).setCell _ _).trans hM1
          cases r1
          · go_wp2_with fail
            all_goals go_ret
            have e1 : St.quoted s _ σ = (rr, σR) := E0.out
            rw [loop_stop A hl hg N34 K3] at e1
            exact ⟨by rw [e1]; first | done | rfl, by rw [e1]; exact hR1, hM2⟩
          · go_wp2_with fail
            have K4 := loop_go A hl hg N34 K3
            go_roundg (gk - 1)
            case measure => exact K4.2.2.1
            case rel => exact ⟨σ1, hR1, hM2, K4.1, K4.2.1, K4.2.2.2⟩
        · have hd92 : ((s[σ'.at_].toNat : Int) == 92) = false := by rw [← hb]; simpa using h92
          by_cases h32 : bAt s σ'.at_ < 32
          · have K3 : Hid (St.inner s lo σ' = (false, σ'.fail 4)) := Lib.hid ((by simp [St.inner, h92, h32]))
            rw [hb] at h32
            have hd : decide ((s[σ'.at_].toNat : Int) < 32) = true := by simpa using h32
            clear h34 h92 hb
            go_wp2_with fail
            go_quiet (fail)
            go_wp2_with fail
            go_quiet (fail)
            go_wp2_with fail
            refine (fail_any b s tw lo σ' _ _ (hR.drewN _)).mono ?_
            rintro e w2 ⟨rfl, hR1, hM1⟩
            have hM2 : Mv b w w2 := (hM.drewN _).trans hM1
            go_wp2_with fail
            all_goals go_ret
            have e1 : St.quoted s _ σ = (rr, σR) := E0.out
            rw [loop_stop A hl hg N34 K3] at e1
            exact ⟨by rw [e1]; first | done | rfl, by rw [e1]; exact hR1, hM2⟩
          · by_cases h128 : bAt s σ'.at_ < 128 ∨ lo = true
            · have K3 : Hid (St.inner s lo σ' = (true, { σ' with at_ := σ'.at_ + 1 })) := Lib.hid ((by unfold St.inner; simp only []; rw [if_neg h92, if_neg h32, if_pos h128]))
              rw [hb] at h32 h128
              have hd : decide ((s[σ'.at_].toNat : Int) < 32) = false := by simpa using h32
              clear h34 h92 hb h32
              by_cases hx : (s[σ'.at_].toNat : Int) < 128
              · have hd2 : decide ((s[σ'.at_].toNat : Int) < 128) = true := by simpa using hx
                clear h128
                go_wp2_with fail
                go_quiet (fail)
                go_wp2_with fail
                go_quiet (fail)
                go_wp2_with fail
                have K4 := loop_go A hl hg N34 K3
                go_roundg (gk - 1)
                case measure => exact K4.2.2.1
                case rel => exact ⟨_, (hR.drewN _).setAt _, (hM.drewN _).setCell _ _, K4.1, K4.2.1, K4.2.2.2⟩
              · have hd2 : decide ((s[σ'.at_].toNat : Int) < 128) = false := by simpa using hx
                have hlo : lo = true := by rcases h128 with h | h; exact absurd h hx; exact h
                subst hlo
                clear h128
                go_wp2_with fail
                go_quiet (fail)
                go_wp2_with fail
                go_quiet (fail)
                go_wp2_with fail
                have K4 := loop_go A hl hg N34 K3
                go_roundg (gk - 1)
                case measure => exact K4.2.2.1
                case rel => exact ⟨_, (hR.drewN _).setAt _, (hM.drewN _).setCell _ _, K4.1, K4.2.1, K4.2.2.2⟩
            · obtain ⟨r1, σ1, H1⟩ := named (St.rune s σ')
              have K3 : Hid (St.inner s lo σ' = (r1, σ1)) := Lib.hid ((by unfold St.inner; simp only []; rw [if_neg h92, if_neg h32, if_neg h128, H1.out]))
              have hlo : lo = false := by cases lo; rfl; exact absurd (.inr rfl) h128
              subst hlo
              have hx : ¬ (s[σ'.at_].toNat : Int) < 128 := by rw [← hb]; exact fun h => h128 (.inl h)
              rw [hb] at h32
              have hd : decide ((s[σ'.at_].toNat : Int) < 32) = false := by simpa using h32
              have hd2 : decide ((s[σ'.at_].toNat : Int) < 128) = false := by simpa using hx
              clear h34 h92 hb h128
              go_wp2_with fail
              go_quiet (fail)
              go_wp2_with fail
              go_quiet (fail)
              go_wp2_with fail
              refine (rune_is b s tw false _ _ _ _ H1 (hR.drewN _) hs ha').mono ?_
              rintro e w2 ⟨rfl, hR1, hM1⟩
              have hM2 : Mv b w w2 := (hM.drewN _).trans hM1
              cases r1
              · go_wp2_with fail
                all_goals go_ret
                have e1 : St.quoted s _ σ = (rr, σR) := E0.out
                rw [loop_stop A hl hg N34 K3] at e1
                exact ⟨by rw [e1]; first | done | rfl, by rw [e1]; exact hR1, hM2⟩
              · go_wp2_with fail
                have K4 := loop_go A hl hg N34 K3
                go_roundg (gk - 1)
                case measure => exact K4.2.2.1
                case rel => exact ⟨σ1, hR1, hM2, K4.1, K4.2.1, K4.2.2.2⟩
    · have hd : decide (σ'.at_ < s.size) = false := by simpa using hl
      have E1 : Hid ((rr, σR) = (false, σ'.fail 4)) := Lib.hid (by
        have A' : St.strLoop s lo gk σ' = (rr, σR) := A
        rw [← A']
        cases gk with
        | zero => rfl
        | succ g => rw [St.strLoop, if_neg hl])
      clear A hg
      go_wp2_with fail
      go_quiet (fail)
      go_wp2_with fail
      refine (fail_any b s tw lo σ' _ _ (hR.drewN _)).mono ?_
      rintro e w2 ⟨rfl, hR1, hM1⟩
      go_wp2_with fail
      all_goals go_ret
      have e1 : St.quoted s _ σ = (rr, σR) := E0.out
      rw [E1.out] at e1
      exact ⟨by rw [e1]; first | done | rfl, by rw [e1]; exact hR1, (hM.drewN _).trans hM1⟩
end
end Go.Proofs.YtjbffgjclnjkoaaGreatDoor
