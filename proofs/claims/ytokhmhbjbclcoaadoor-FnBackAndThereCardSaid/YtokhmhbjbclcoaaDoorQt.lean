/- Quoting a string: the plain mathematics. -/
import Derived.Test.YtokhmhbjbclcoaaDoorBx
import Derived.Test.YtokhmhbjbclcoaaDoorSb
import Derived.Test.YtokhmhbjbclcoaaDoorDc
import Derived.Test.YtokhmhbjbclcoaaDoorGl
import Derived.Deep.LoopGhost
namespace Go.Proofs.YtokhmhbjbclcoaaDoor
set_option linter.unusedVariables false
set_option linter.unusedSimpArgs false
open Go.RowKit

/-- What is written for the character at a place. -/
def qC (s : ByteArray) (k : Nat) : List Int :=
  if bAt s k < 128 then (if bAt s k < 32 ∨ bAt s k = 34 ∨ bAt s k = 92 then escA (bAt s k) else [bAt s k])
  else if uw s k = 0 then [239, 191, 189] else sub s k (k + stepN s k)
/-- What is written from a place on. -/
def qO (s : ByteArray) : Nat → Nat → List Int
  | 0, _ => []
  | g + 1, k => if k < s.size then qC s k ++ qO s g (k + stepN s k) else []
/-- Is there a byte, from a place on, that belongs to no character? -/
def qI (s : ByteArray) : Nat → Nat → Bool
  | 0, _ => false
  | g + 1, k => if k < s.size then (decide (uw s k = 0) || qI s g (k + stepN s k)) else false

theorem step_fits (s : ByteArray) (i : Nat) (h : i < s.size) : i + stepN s i ≤ s.size ∧ 1 ≤ stepN s i ∧ stepN s i ≤ 4 := by
  have h1 := uw_fit s i
  have h2 := uLen_le (bAt s i)
  unfold stepN
  split
  · omega
  · rename_i hu
    have := h1 hu
    have h3 : uw s i = 1 ∨ uw s i = uLen (bAt s i) := by
      generalize hx : uw s i = x at *
      unfold uw at hx
      repeat' split at hx
      all_goals omega
    omega
theorem uw_one (s : ByteArray) (k : Nat) (h : k < s.size) : bAt s k < 128 ↔ uw s k = 1 := by
  unfold uw
  rw [if_pos h]
  have := uLen_cases (bAt s k)
  constructor
  · intro h1; rw [if_pos h1]
  · intro h1
    by_cases h2 : bAt s k < 128
    · exact h2
    · rw [if_neg h2] at h1
      repeat' split at h1
      all_goals omega
/-- How DecodeRune tells that a byte belongs to no character. -/
theorem bad_iff (s : ByteArray) (k : Nat) : ((runeN s k : Int) = 65533 ∧ stepN s k = 1) ↔ uw s k = 0 := by
  have hb := bAt_le s k
  unfold runeN stepN bN
  constructor
  · rintro ⟨h1, h2⟩
    by_cases h0 : uw s k = 0
    · exact h0
    · rw [if_neg h0] at h2
      rw [if_pos h2] at h1
      omega
  · intro h0
    rw [h0]; simp
theorem step_one (s : ByteArray) (k : Nat) (h : k < s.size) (h1 : bAt s k < 128) : stepN s k = 1 := by
  have := (uw_one s k h).1 h1
  unfold stepN; rw [this]; rfl

/-- One round of quoting. -/
theorem q_step {s : ByteArray} {g j k : Nat} {l : List Int} {bi : Bool} {T : List Int} {TI : Bool} (A : Aside (l ++ sub s j k ++ qO s g k = T)) (AI : Aside ((bi || qI s g k) = TI)) (hk : k < s.size) (hg : s.size - k ≤ g) (hj : j ≤ k) :
    ∃ g', g = g' + 1 ∧ s.size - (k + stepN s k) ≤ g' ∧
      Aside (l ++ sub s j k ++ (qC s k ++ qO s g' (k + stepN s k)) = T) ∧ Aside ((bi || (decide (uw s k = 0) || qI s g' (k + stepN s k))) = TI) := by
  obtain ⟨g', rfl⟩ : ∃ g', g = g' + 1 := ⟨g - 1, by omega⟩
  have A' : l ++ sub s j k ++ qO s (g' + 1) k = T := A
  have AI' : (bi || qI s (g' + 1) k) = TI := AI
  rw [qO, if_pos hk] at A'
  rw [qI, if_pos hk] at AI'
  have := step_fits s k hk
  exact ⟨g', rfl, by omega, A', AI'⟩
theorem q_end {s : ByteArray} {g j k : Nat} {l : List Int} {bi : Bool} {T : List Int} {TI : Bool} (A : Aside (l ++ sub s j k ++ qO s g k = T)) (AI : Aside ((bi || qI s g k) = TI)) (hk : ¬ k < s.size) : l ++ sub s j k = T ∧ bi = TI := by
  have A' : l ++ sub s j k ++ qO s g k = T := A
  have AI' : (bi || qI s g k) = TI := AI
  have h1 : qO s g k = [] := by cases g; rfl; rw [qO, if_neg hk]
  have h2 : qI s g k = false := by cases g; rfl; rw [qI, if_neg hk]
  rw [h1] at A'
  rw [h2] at AI'
  exact ⟨by simpa using A', by simpa using AI'⟩
theorem qC_len (s : ByteArray) (k : Nat) (h : k < s.size) : (qC s k).length ≤ 6 * stepN s k := by
  have := step_fits s k h
  unfold qC
  repeat' split
  · unfold escA; repeat' split
    all_goals simp [unitT]
    all_goals omega
  · simp; omega
  · simp; omega
  · rw [sub_len]; omega
theorem qC_plain {s : ByteArray} {k : Nat} {X : Int} (hX : bAt s k = X) (hX2 : X < 128) (h0 : 0 ≤ X) (h : (escT X == 0) = true ∨ X = 60 ∨ X = 62 ∨ X = 38) : qC s k = sub s k (k + 1) := by
  rw [sub_one]
  unfold qC
  rw [hX, if_pos hX2, if_neg]
  simp only [beq_iff_eq] at h
  unfold escT at h
  split at h <;> omega
theorem qC_esc {s : ByteArray} {k : Nat} {X : Int} (hX : bAt s k = X) (hX2 : X < 128) (h : (escT X == 0) = false) (h1 : ¬ X = 60) (h2 : ¬ X = 62) (h3 : ¬ X = 38) : qC s k = escA X := by
  unfold qC
  rw [hX, if_pos hX2, if_pos]
  simp only [beq_eq_false_iff_ne, ne_eq] at h
  unfold escT at h
  split at h <;> omega
theorem qC_char {s : ByteArray} {k : Nat} (hX2 : 128 ≤ bAt s k) (hu : uw s k ≠ 0) : qC s k = sub s k (k + stepN s k) := by
  unfold qC; rw [if_neg (by omega), if_neg hu]
theorem qC_bad {s : ByteArray} {k : Nat} (hX2 : 128 ≤ bAt s k) (hu : uw s k = 0) : qC s k = [239, 191, 189] := by
  unfold qC; rw [if_neg (by omega), if_pos hu]
theorem escA_by {c : Int} (h0 : 0 ≤ c) (h1 : c < 256) : By8 (escA c) := by
  unfold escA
  split
  · intro x hx; simp at hx; omega
  · repeat' split
    all_goals first | exact unitT_by c | (intro x hx; simp at hx; omega)
theorem qC_by (s : ByteArray) (k : Nat) : By8 (qC s k) := by
  have h0 := bAt_nonneg s k
  have h1 := bAt_le s k
  unfold qC
  repeat' split
  · exact escA_by h0 (by omega)
  · intro x hx; simp at hx; omega
  · intro x hx; simp at hx; omega
  · exact sub_by _ _ _
theorem qO_by (s : ByteArray) : ∀ (g k : Nat), By8 (qO s g k)
  | 0, k => By8.nil
  | g + 1, k => by
    unfold qO
    split
    · exact (qC_by s k).app (qO_by s g _)
    · exact By8.nil
theorem qO_len (s : ByteArray) : ∀ (g k : Nat), (qO s g k).length ≤ 6 * (s.size - k)
  | 0, k => by simp [qO]
  | g + 1, k => by
    unfold qO
    split
    · rename_i hk
      have h1 := qC_len s k hk
      have h2 := qO_len s g (k + stepN s k)
      have h3 := step_fits s k hk
      rw [List.length_append]
      omega
    · simp
end Go.Proofs.YtokhmhbjbclcoaaDoor
