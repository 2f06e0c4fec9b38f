/- Contracts of the reader of the reference: a string, white space, how reading a part came out; the head of a string, the white space at the beginning. -/
import Derived.Test.YtjbffgjclnjkoaaGreatDoorRd4
namespace Go.Proofs.YtjbffgjclnjkoaaGreatDoor
set_option linter.unusedVariables false
set_option linter.unusedSimpArgs false
open Go.RowKit

/-- What 'came' tells. -/
def cameN (s : ByteArray) (p : Bool × St) : Int := if p.1 then p.2.at_ else 0
def cameHow (s : ByteArray) (p : Bool × St) : Int := if p.1 then 0 else if p.2.at_ = s.size then 1 else 2

theorem loop_end {s : ByteArray} {lo : Bool} {g : Nat} {σ : St} {R : Bool × St} (A : Aside (St.strLoop s lo g σ = R)) (hl : σ.at_ < s.size) (hg : s.size - σ.at_ ≤ g) (h : bAt s σ.at_ = 34) : R = (true, σ) := by
  obtain ⟨g', rfl⟩ : ∃ g', g = g' + 1 := ⟨g - 1, by omega⟩
  have A' : St.strLoop s lo (g' + 1) σ = R := A
  rw [St.strLoop, if_pos hl, if_pos h] at A'; exact A'.symm
theorem loop_stop {s : ByteArray} {lo : Bool} {g : Nat} {σ σ1 : St} {R : Bool × St} (A : Aside (St.strLoop s lo g σ = R)) (hl : σ.at_ < s.size) (hg : s.size - σ.at_ ≤ g) (h : Hid (¬ bAt s σ.at_ = 34)) (hr : Hid (St.inner s lo σ = (false, σ1))) : R = (false, σ1) := by
  obtain ⟨g', rfl⟩ : ∃ g', g = g' + 1 := ⟨g - 1, by omega⟩
  have A' : St.strLoop s lo (g' + 1) σ = R := A
  rw [St.strLoop, if_pos hl, if_neg h.out, hr.out] at A'; simpa [St.andThen] using A'.symm
theorem loop_go {s : ByteArray} {lo : Bool} {g : Nat} {σ σ1 : St} {R : Bool × St} (A : Aside (St.strLoop s lo g σ = R)) (hl : σ.at_ < s.size) (hg : s.size - σ.at_ ≤ g) (h : Hid (¬ bAt s σ.at_ = 34)) (hr : Hid (St.inner s lo σ = (true, σ1))) :
    σ1.at_ ≤ s.size ∧ s.size - σ1.at_ ≤ g - 1 ∧ g - 1 < g ∧ Aside (St.strLoop s lo (g - 1) σ1 = R) := by
  obtain ⟨g', rfl⟩ : ∃ g', g = g' + 1 := ⟨g - 1, by omega⟩
  have A' : St.strLoop s lo (g' + 1) σ = R := A
  rw [St.strLoop, if_pos hl, if_neg h.out, hr.out] at A'
  have ad := St.inner_adv (s := s) hl lo
  rw [hr.out] at ad
  obtain ⟨a1, a2, a3⟩ := ad
  dsimp only at a1 a2 a3
  have := a3 rfl
  exact ⟨a2, by omega, by omega, by show St.strLoop s lo (g' + 1 - 1) σ1 = R; rw [Nat.add_sub_cancel]; simpa [St.andThen] using A'⟩

set_option maxHeartbeats 2000000 in
theorem quoted_any (b : Nat) (s : ByteArray) (tw lo : Bool) (σ : St) (w : World) (h : IsR w b s tw lo σ) (hs : s.size ≤ maxLen) (ha : σ.at_ ≤ s.size) :
    Calls Tryz.prog 56 #[.pointer (some ⟨b, 0, none⟩)] w fun e w' => e = .returned (.bool (St.quoted s lo σ).1) ∧ IsR w' b s tw lo (St.quoted s lo σ).2 ∧ Mv b w w' := by
  have hs' := hs
  unfold maxLen at hs'
  obtain ⟨r0, σ0, H0⟩ := named (St.need s σ 34 34)
  have a0 := need_le H0 ha
  obtain ⟨rr, σR, HR⟩ := named (St.strLoop s lo (s.size - σ0.at_) σ0)
  have E0 : Hid (St.quoted s lo σ = if r0 then (rr, σR) else (false, σ0)) := Lib.hid (by simp [St.quoted, H0.out, St.andThen, HR.out])
  have A0 : Aside (St.strLoop s lo (s.size - σ0.at_) σ0 = (rr, σR)) := HR.out
  go_enter Tryz.func56, Tryz.ntmps56
  go_wp2_with fail
  refine (need_is b s tw lo _ _ _ _ _ _ H0 h hs ha).mono ?_
  rintro e w1 ⟨rfl, hR0, hM0⟩
  cases r0
  · go_wp2_with fail
    all_goals go_ret
    exact ⟨by rw [E0.out]; first | done | rfl, by rw [E0.out]; exact hR0, hM0⟩
  go_wp2_with fail
  go_loopg [] (s.size - σ0.at_) (fun g wr => ∃ σ', IsR wr b s tw lo σ' ∧ Mv b w wr ∧ σ'.at_ ≤ s.size ∧ s.size - σ'.at_ ≤ g ∧ Aside (St.strLoop s lo g σ' = (rr, σR)))
  case atStart => exact ⟨σ0, hR0, hM0, a0, Nat.le_refl _, A0⟩
  case round =>
    obtain ⟨σ', hR, hM, ha', hg, A⟩ := hrel
    obtain ⟨c0, c1, c2, c3, c4, c5, f1, f4, f5⟩ := hR.cells
    by_cases hl : σ'.at_ < s.size
    · have hb := bAt_lt hl
      have kb0 := bAt_nonneg s σ'.at_
      have kb1 := bAt_le s σ'.at_
      rw [hb] at kb0 kb1
      by_cases h34 : bAt s σ'.at_ = 34
      · have E1 := Lib.hid (loop_end A hl hg h34)
        rw [hb] at h34
        clear hb A hg
        have hd : ((s[σ'.at_].toNat : Int) == 34) = true := by simp [h34]
        clear h34
        go_wp2_with fail
        go_quiet (fail)
        go_wp2_with fail
        go_quiet (fail)
        go_wp2_with fail
        all_goals go_ret
        have e1 : St.quoted s _ σ = (rr, σR) := E0.out
        rw [E1.out] at e1
        exact ⟨by rw [e1]; first | done | rfl, by rw [e1]; exact hR.drewN _, hM.drewN _⟩
      · have N34 := Lib.hid h34
        have hd34 : ((s[σ'.at_].toNat : Int) == 34) = false := by rw [← hb]; simpa using h34
        by_cases h92 : bAt s σ'.at_ = 92
        · obtain ⟨r1, σ1, H1⟩ := named (St.escape s lo { σ' with at_ := σ'.at_ + 1 })
          have K3 : Hid (St.inner s lo σ' = (r1, σ1)) := Lib.hid ((by simp [St.inner, h92, H1.out]))
          have hd : ((s[σ'.at_].toNat : Int) == 92) = true := by rw [← hb]; simpa using h92
          have a1 : ({ σ' with at_ := σ'.at_ + 1 } : St).at_ ≤ s.size := by simp; omega
          clear h34 h92 hb
          go_wp2_with fail
          go_quiet (fail)
          go_wp2_with fail
          go_quiet (fail)
          go_wp2_with fail
          refine (escape_is b s tw lo _ _ _ _ H1 ((hR.drewN _).setAt _) hs a1).mono ?_
          rintro e w2 ⟨rfl, hR1, hM1⟩
          have hM2 : Mv b w w2 := ((hM.drewN _).setCell _ _).trans hM1
          cases r1
          · go_wp2_with fail
            all_goals go_ret
            have e1 : St.quoted s _ σ = (rr, σR) := E0.out
            rw [loop_stop A hl hg N34 K3] at e1
            exact ⟨by rw [e1]; first | done | rfl, by rw [e1]; exact hR1, hM2⟩
          · go_wp2_with fail
            have K4 := loop_go A hl hg N34 K3
            go_roundg (gk - 1)
            case measure => exact K4.2.2.1
            case rel => exact ⟨σ1, hR1, hM2, K4.1, K4.2.1, K4.2.2.2⟩
        · have hd92 : ((s[σ'.at_].toNat : Int) == 92) = false := by rw [← hb]; simpa using h92
          by_cases h32 : bAt s σ'.at_ < 32
          · have K3 : Hid (St.inner s lo σ' = (false, σ'.fail 4)) := Lib.hid ((by simp [St.inner, h92, h32]))
            rw [hb] at h32
            have hd : decide ((s[σ'.at_].toNat : Int) < 32) = true := by simpa using h32
            clear h34 h92 hb
            go_wp2_with fail
            go_quiet (fail)
            go_wp2_with fail
            go_quiet (fail)
            go_wp2_with fail
            refine (fail_any b s tw lo σ' _ _ (hR.drewN _)).mono ?_
            rintro e w2 ⟨rfl, hR1, hM1⟩
            have hM2 : Mv b w w2 := (hM.drewN _).trans hM1
            go_wp2_with fail
            all_goals go_ret
            have e1 : St.quoted s _ σ = (rr, σR) := E0.out
            rw [loop_stop A hl hg N34 K3] at e1
            exact ⟨by rw [e1]; first | done | rfl, by rw [e1]; exact hR1, hM2⟩
          · by_cases h128 : bAt s σ'.at_ < 128 ∨ lo = true
            · have K3 : Hid (St.inner s lo σ' = (true, { σ' with at_ := σ'.at_ + 1 })) := Lib.hid ((by unfold St.inner; simp only []; rw [if_neg h92, if_neg h32, if_pos h128]))
              rw [hb] at h32 h128
              have hd : decide ((s[σ'.at_].toNat : Int) < 32) = false := by simpa using h32
              clear h34 h92 hb h32
              by_cases hx : (s[σ'.at_].toNat : Int) < 128
              · have hd2 : decide ((s[σ'.at_].toNat : Int) < 128) = true := by simpa using hx
                clear h128
                go_wp2_with fail
                go_quiet (fail)
                go_wp2_with fail
                go_quiet (fail)
                go_wp2_with fail
                have K4 := loop_go A hl hg N34 K3
                go_roundg (gk - 1)
                case measure => exact K4.2.2.1
                case rel => exact ⟨_, (hR.drewN _).setAt _, (hM.drewN _).setCell _ _, K4.1, K4.2.1, K4.2.2.2⟩
              · have hd2 : decide ((s[σ'.at_].toNat : Int) < 128) = false := by simpa using hx
                have hlo : lo = true := by rcases h128 with h | h; exact absurd h hx; exact h
                subst hlo
                clear h128
                go_wp2_with fail
                go_quiet (fail)
                go_wp2_with fail
                go_quiet (fail)
                go_wp2_with fail
                have K4 := loop_go A hl hg N34 K3
                go_roundg (gk - 1)
                case measure => exact K4.2.2.1
                case rel => exact ⟨_, (hR.drewN _).setAt _, (hM.drewN _).setCell _ _, K4.1, K4.2.1, K4.2.2.2⟩
            · obtain ⟨r1, σ1, H1⟩ := named (St.rune s σ')
              have K3 : Hid (St.inner s lo σ' = (r1, σ1)) := Lib.hid ((by unfold St.inner; simp only []; rw [if_neg h92, if_neg h32, if_neg h128, H1.out]))
              have hlo : lo = false := by cases lo; rfl; exact absurd (.inr rfl) h128
              subst hlo
              have hx : ¬ (s[σ'.at_].toNat : Int) < 128 := by rw [← hb]; exact fun h => h128 (.inl h)
              rw [hb] at h32
              have hd : decide ((s[σ'.at_].toNat : Int) < 32) = false := by simpa using h32
              have hd2 : decide ((s[σ'.at_].toNat : Int) < 128) = false := by simpa using hx
              clear h34 h92 hb h128
              go_wp2_with fail
              go_quiet (fail)
              go_wp2_with fail
              go_quiet (fail)
              go_wp2_with fail
              refine (rune_is b s tw false _ _ _ _ H1 (hR.drewN _) hs ha').mono ?_
              rintro e w2 ⟨rfl, hR1, hM1⟩
              have hM2 : Mv b w w2 := (hM.drewN _).trans hM1
              cases r1
              · go_wp2_with fail
                all_goals go_ret
                have e1 : St.quoted s _ σ = (rr, σR) := E0.out
                rw [loop_stop A hl hg N34 K3] at e1
                exact ⟨by rw [e1]; first | done | rfl, by rw [e1]; exact hR1, hM2⟩
              · go_wp2_with fail
                have K4 := loop_go A hl hg N34 K3
                go_roundg (gk - 1)
                case measure => exact K4.2.2.1
                case rel => exact ⟨σ1, hR1, hM2, K4.1, K4.2.1, K4.2.2.2⟩
    · have hd : decide (σ'.at_ < s.size) = false := by simpa using hl
      have E1 : Hid ((rr, σR) = (false, σ'.fail 4)) := Lib.hid (by
        have A' : St.strLoop s lo gk σ' = (rr, σR) := A
        rw [← A']
        cases gk with
        | zero => rfl
        | succ g => rw [St.strLoop, if_neg hl])
      clear A hg
      go_wp2_with fail
      go_quiet (fail)
      go_wp2_with fail
      refine (fail_any b s tw lo σ' _ _ (hR.drewN _)).mono ?_
      rintro e w2 ⟨rfl, hR1, hM1⟩
      go_wp2_with fail
      all_goals go_ret
      have e1 : St.quoted s _ σ = (rr, σR) := E0.out
      rw [E1.out] at e1
      exact ⟨by rw [e1]; first | done | rfl, by rw [e1]; exact hR1, (hM.drewN _).trans hM1⟩
end Go.Proofs.YtjbffgjclnjkoaaGreatDoor
