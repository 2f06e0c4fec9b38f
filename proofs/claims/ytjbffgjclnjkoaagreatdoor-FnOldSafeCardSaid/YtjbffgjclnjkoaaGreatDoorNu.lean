/- Numbers: the plain mathematics of the reader of the reference. No program in sight. -/
import Derived.Test.YtjbffgjclnjkoaaGreatDoorPl
import Derived.Deep.LoopGhost
namespace Go.Proofs.YtjbffgjclnjkoaaGreatDoor
set_option linter.unusedVariables false
set_option linter.unusedSimpArgs false
open Go.RowKit

def dgB (c : Int) : Bool := decide (48 ≤ c) && decide (c ≤ 57)
/-- Where the digits end. -/
def dgE (s : ByteArray) : Nat → Nat → Nat
  | 0, i => i
  | n + 1, i => if i < s.size ∧ dgB (bAt s i) = true then dgE s n (i + 1) else i
theorem dgE_le (s : ByteArray) : ∀ (n i : Nat), i ≤ s.size → i ≤ dgE s n i ∧ dgE s n i ≤ s.size
  | 0, i, h => ⟨Nat.le_refl _, h⟩
  | n + 1, i, h => by
    unfold dgE
    split
    · have := dgE_le s n (i + 1) (by omega); omega
    · exact ⟨Nat.le_refl _, h⟩
theorem dg_next {s : ByteArray} {k D : Nat} (A : Aside (dgE s (s.size - k) k = D)) (hlt : k < s.size) (h : dgB (bAt s k) = true) : Aside (dgE s (s.size - (k + 1)) (k + 1) = D) := by
  have A0 : dgE s (s.size - k) k = D := A
  rw [show s.size - k = (s.size - (k + 1)) + 1 by omega, dgE, if_pos ⟨hlt, h⟩] at A0
  exact A0
theorem dg_end {s : ByteArray} {k D : Nat} (A : Aside (dgE s (s.size - k) k = D)) (h : ¬ (k < s.size ∧ dgB (bAt s k) = true)) : k = D := by
  have A0 : dgE s (s.size - k) k = D := A
  cases hn : s.size - k with
  | zero => rw [hn] at A0; exact A0
  | succ n => rw [hn, dgE, if_neg h] at A0; exact A0

namespace St
variable (s : ByteArray)
def at1 (σ : St) : St := { σ with at_ := σ.at_ + 1 }
/-- One or more digits. -/
def digits (σ : St) : Bool × St := andThen (need s σ 48 57) fun σ => (true, { σ with at_ := dgE s (s.size - σ.at_) σ.at_ })
def sgn (σ : St) : St := if bAt s σ.at_ = 45 then σ.at1 else σ
def numInt (σ : St) : Bool × St := if bAt s σ.at_ = 48 then (true, σ.at1) else digits s σ
def numFrac (σ : St) : Bool × St := if bAt s σ.at_ = 46 then digits s σ.at1 else (true, σ)
def sgn2 (σ : St) : St := if bAt s σ.at_ = 43 ∨ bAt s σ.at_ = 45 then σ.at1 else σ
def numExp (σ : St) : Bool × St := if bAt s σ.at_ = 101 ∨ bAt s σ.at_ = 69 then digits s (sgn2 s σ.at1) else (true, σ)
def number (σ : St) : Bool × St := andThen (numInt s (sgn s σ)) fun σ => andThen (numFrac s σ) fun σ => numExp s σ
end St
namespace St
variable {s : ByteArray}
theorem byte_in {σ : St} (h : bAt s σ.at_ ≠ 0) : σ.at_ < s.size := by
  by_cases hl : σ.at_ < s.size
  · exact hl
  · exact absurd (bAt_ge hl) h
theorem sgn_le {σ : St} (h : σ.at_ ≤ s.size) : (sgn s σ).at_ ≤ s.size := by
  unfold sgn; split
  · rename_i hc; have := byte_in (s := s) (σ := σ) (by omega); simp [at1]; omega
  · exact h
theorem sgn2_le {σ : St} (h : σ.at_ ≤ s.size) : (sgn2 s σ).at_ ≤ s.size := by
  unfold sgn2; split
  · rename_i hc; have := byte_in (s := s) (σ := σ) (by omega); simp [at1]; omega
  · exact h
theorem at1_le {σ : St} (h : bAt s σ.at_ ≠ 0) : σ.at1.at_ ≤ s.size := by have := byte_in h; simp [at1]; omega
theorem digits_le {σ : St} (h : σ.at_ ≤ s.size) : σ.at_ ≤ (digits s σ).2.at_ ∧ (digits s σ).2.at_ ≤ s.size := by
  unfold digits andThen
  have hn := need_adv (s := s) h 48 57
  split
  · have := dgE_le s (s.size - (need s σ 48 57).2.at_) (need s σ 48 57).2.at_ hn.2.1
    exact ⟨Nat.le_trans hn.1 this.1, this.2⟩
  · exact ⟨hn.1, hn.2.1⟩
theorem numInt_le {σ : St} (h : σ.at_ ≤ s.size) : (numInt s σ).2.at_ ≤ s.size := by
  unfold numInt; split
  · exact at1_le (by omega)
  · exact (digits_le h).2
theorem numFrac_le {σ : St} (h : σ.at_ ≤ s.size) : (numFrac s σ).2.at_ ≤ s.size := by
  unfold numFrac; split
  · exact (digits_le (at1_le (by omega))).2
  · exact h
theorem numExp_le {σ : St} (h : σ.at_ ≤ s.size) : (numExp s σ).2.at_ ≤ s.size := by
  unfold numExp; split
  · exact (digits_le (sgn2_le (at1_le (by omega)))).2
  · exact h
theorem then_le {p : Bool × St} {f : St → Bool × St} (h : p.2.at_ ≤ s.size) (hf : (f p.2).2.at_ ≤ s.size) : (andThen p f).2.at_ ≤ s.size := by
  unfold andThen; split
  · exact hf
  · exact h
theorem number_le {σ : St} (h : σ.at_ ≤ s.size) : (number s σ).2.at_ ≤ s.size := by
  unfold number
  have h1 := numInt_le (sgn_le h)
  have h2 := numFrac_le h1
  exact then_le h1 (then_le h2 (numExp_le h2))
end St
end Go.Proofs.YtjbffgjclnjkoaaGreatDoor
