/- White space, the head of a string, and short lists of strings: contracts of plain functions over texts. -/
import Derived.Test.YtjbffgjclnjkoaaGreatDoorBy
namespace Go.Proofs.YtjbffgjclnjkoaaGreatDoor
set_option linter.unusedVariables false
set_option linter.unusedSimpArgs false
open Go.RowKit

set_option maxHeartbeats 1000000 in
theorem rspace_any (b : Nat) (s : ByteArray) (tw lo : Bool) (σ : St) (w : World) (h : IsR w b s tw lo σ) (hs : s.size ≤ maxLen) (ha : σ.at_ ≤ s.size) :
    Calls Tryz.prog 15 #[.pointer (some ⟨b, 0, none⟩)] w fun e w' => e = .returned (.tuple #[]) ∧ IsR w' b s tw lo (St.space s (s.size - σ.at_) σ) ∧ Mv b w w' := by
  have hs' := hs
  unfold maxLen at hs'
  obtain ⟨σR, HR⟩ : ∃ σR, Hid (St.space s (s.size - σ.at_) σ = σR) := ⟨_, Lib.hid rfl⟩
  have A0 : Aside (St.space s (s.size - σ.at_) σ = σR) := HR.out
  rw [HR.out]
  go_enter Tryz.func15, Tryz.ntmps15
  go_wp2_with fail
  go_loopg [] (s.size - σ.at_) (fun g wr => ∃ σ', IsR wr b s tw lo σ' ∧ Mv b w wr ∧ σ'.at_ ≤ s.size ∧ s.size - σ'.at_ ≤ g ∧ Aside (St.space s g σ' = σR))
  case atStart => exact ⟨σ, h, Mv.refl _ _, ha, Nat.le_refl _, A0⟩
  case round =>
    obtain ⟨σ', hR, hM, ha', hg, A⟩ := hrel
    obtain ⟨c0, c1, c2, c3, c4, c5, f1, f4, f5⟩ := hR.cells
    by_cases hl : σ'.at_ < s.size
    · have hb := bAt_lt hl
      have hd : decide (σ'.at_ < s.size) = true := by simpa using hl
      by_cases hsp : isSp (bAt s σ'.at_) = true
      · have A' : Aside (St.space s (gk - 1) { σ' with at_ := σ'.at_ + 1 } = σR) := by
          have A1 : St.space s gk σ' = σR := A
          rw [show gk = gk - 1 + 1 by omega, St.space, if_pos ⟨hl, hsp⟩] at A1
          exact A1
        have hsp1 : isSp (s[σ'.at_].toNat : Int) = true := by rw [← hb]; exact hsp
        clear hb hsp A
        go_wp2_with fail
        go_quiet ((go_at_call 33; exact Calls.quiet_of_same (isSpace _ _)))
        go_wp2_with fail
        go_roundg (gk - 1)
        case measure => omega
        case rel => exact ⟨_, (hR.drewN _).setAt _, (hM.drewN _).setCell _ _, by simp; omega, by simp; omega, A'⟩
      · have E : Hid (σ' = σR) := by
          have A1 : St.space s gk σ' = σR := A
          rw [show gk = gk - 1 + 1 by omega, St.space, if_neg (fun h => hsp h.2)] at A1
          exact A1
        have hsp1 : isSp (s[σ'.at_].toNat : Int) = false := by rw [← hb]; simpa using hsp
        clear hb hsp A
        go_wp2_with fail
        go_quiet ((go_at_call 33; exact Calls.quiet_of_same (isSpace _ _)))
        go_wp2_with fail
        all_goals go_end0
        rw [← E.out]
        exact ⟨rfl, hR.drewN _, hM.drewN _⟩
    · have E : Hid (σ' = σR) := by
        have A1 : St.space s gk σ' = σR := A
        cases gk with
        | zero => exact A1
        | succ g => rw [St.space, if_neg (fun h => hl h.1)] at A1; exact A1
      have hd : decide (σ'.at_ < s.size) = false := by simpa using hl
      clear A
      go_wp2_with fail
      go_quiet (fail)
      go_wp2_with fail
      all_goals go_end0
      rw [← E.out]
      exact ⟨rfl, hR.drewN _, hM.drewN _⟩
end Go.Proofs.YtjbffgjclnjkoaaGreatDoor
