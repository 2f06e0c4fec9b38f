/- Numbers: the walks of the reader of the reference, and of the head of a number. -/
import Derived.Test.YtjbffgjclnjkoaaGreatDoorNu
import Derived.Test.YtjbffgjclnjkoaaGreatDoorLb
import Derived.Deep.DeepCutAuto
namespace Go.Proofs.YtjbffgjclnjkoaaGreatDoor
set_option linter.unusedVariables false
set_option linter.unusedSimpArgs false
open Go.RowKit

set_option maxHeartbeats 1000000 in
theorem digits_any (b : Nat) (s : ByteArray) (tw lo : Bool) (σ : St) (w : World) (h : IsR w b s tw lo σ) (hs : s.size ≤ maxLen) (ha : σ.at_ ≤ s.size) :
    Calls Tryz.prog 78 #[.pointer (some ⟨b, 0, none⟩)] w fun e w' => e = .returned (.bool (St.digits s σ).1) ∧ IsR w' b s tw lo (St.digits s σ).2 ∧ Mv b w w' := by
  have hs' := hs
  unfold maxLen at hs'
  obtain ⟨r0, σ0, H0⟩ := named (St.need s σ 48 57)
  have a0 := need_le H0 ha
  obtain ⟨D, HD⟩ : ∃ D, Hid (dgE s (s.size - σ0.at_) σ0.at_ = D) := ⟨_, Lib.hid rfl⟩
  have A0 : Aside (dgE s (s.size - σ0.at_) σ0.at_ = D) := HD.out
  cases r0
  · have E0 : Hid (St.digits s σ = (false, σ0)) := Lib.hid (by simp [St.digits, H0.out, St.andThen])
    go_enter Tryz.func78, Tryz.ntmps78
    go_wp2_with fail
    refine (need_is b s tw lo _ _ _ _ _ _ H0 h hs ha).mono ?_
    rintro e w1 ⟨rfl, hR0, hM0⟩
    go_wp2_with fail
    all_goals go_ret
    exact ⟨by rw [E0.out]; first | done | rfl, by rw [E0.out]; exact hR0, hM0⟩
  have E0 : Hid (St.digits s σ = (true, { σ0 with at_ := D })) := Lib.hid (by simp [St.digits, H0.out, St.andThen, HD.out])
  go_enter Tryz.func78, Tryz.ntmps78
  go_wp2_with fail
  refine (need_is b s tw lo _ _ _ _ _ _ H0 h hs ha).mono ?_
  rintro e w1 ⟨rfl, hR0, hM0⟩
  go_wp2_with fail
  go_loopg [] (s.size - σ0.at_) (fun g wr => ∃ k : Nat, IsR wr b s tw lo { σ0 with at_ := k } ∧ Mv b w wr ∧ k ≤ s.size ∧ s.size - k ≤ g ∧ Aside (dgE s (s.size - k) k = D))
  case atStart => exact ⟨σ0.at_, hR0, hM0, a0, Nat.le_refl _, A0⟩
  case round =>
    obtain ⟨k, hR, hM, hk, hg, A⟩ := hrel
    obtain ⟨c0, c1, c2, c3, c4, c5, f1, f4, f5⟩ := hR.cells
    dsimp only at c1
    by_cases hl : k < s.size
    · have hb := bAt_lt hl
      have hd : decide (k < s.size) = true := by simpa using hl
      by_cases h1 : 48 ≤ bAt s k
      · have hd1 : decide (48 ≤ (s[k].toNat : Int)) = true := by rw [← hb]; simpa using h1
        by_cases h2 : bAt s k ≤ 57
        · have hd2 : decide ((s[k].toNat : Int) ≤ 57) = true := by rw [← hb]; simpa using h2
          have A' := dg_next A hl (by simp [dgB, h1, h2])
          clear hb h1 h2 A
          go_wp2_with fail
          go_quiet (fail)
          go_wp2_with fail
          go_roundg (gk - 1)
          case measure => omega
          case rel => exact ⟨k + 1, (hR.drewN _).setAt _, (hM.drewN _).setCell _ _, by omega, by omega, A'⟩
        · have hd2 : decide ((s[k].toNat : Int) ≤ 57) = false := by rw [← hb]; simpa using h2
          have E := Lib.hid (dg_end A (fun h => by have := h.2; simp [dgB] at this; omega))
          clear hb h1 h2 A
          go_wp2_with fail
          go_quiet (fail)
          go_wp2_with fail
          all_goals go_ret
          exact ⟨by rw [E0.out]; first | done | rfl, by rw [E0.out, ← E.out]; exact hR.drewN _, hM.drewN _⟩
      · have hd1 : decide (48 ≤ (s[k].toNat : Int)) = false := by rw [← hb]; simpa using h1
        have E := Lib.hid (dg_end A (fun h => by have := h.2; simp [dgB] at this; omega))
        clear hb h1 A
        go_wp2_with fail
        go_quiet (fail)
        go_wp2_with fail
        all_goals go_ret
        exact ⟨by rw [E0.out]; first | done | rfl, by rw [E0.out, ← E.out]; exact hR.drewN _, hM.drewN _⟩
    · have hd : decide (k < s.size) = false := by simpa using hl
      have E := Lib.hid (dg_end A (fun h => hl h.1))
      clear A
      go_wp2_with fail
      go_quiet (fail)
      go_wp2_with fail
      all_goals go_ret
      exact ⟨by rw [E0.out]; first | done | rfl, by rw [E0.out, ← E.out]; exact hR.drewN _, hM.drewN _⟩
end Go.Proofs.YtjbffgjclnjkoaaGreatDoor
