/- The units of UTF-16 of two texts, and their order: the plain mathematics. -/
import Derived.Test.YtokhmhbjbclcoaaDc
namespace Go.Proofs.Ytokhmhbjbclcoaa
set_option linter.unusedVariables false
set_option linter.unusedSimpArgs false
open Go.RowKit

/-- The first unit of a character, and the others. -/
def hdU (r : Int) : Int := if 65536 ≤ r then 55296 + (r - 65536) / 1024 else r
def tlU (r : Int) : List Int := if 65536 ≤ r then [56320 + (r - 65536) % 1024] else []
def uOf (r : Int) : List Int := hdU r :: tlU r
def unitsL (s : ByteArray) : Nat → Nat → List Int
  | 0, _ => []
  | g + 1, k => if k < s.size then uOf (runeN s k) ++ unitsL s g (k + stepN s k) else []
/-- Does the one row stand ahead of the other? -/
def lexB : List Int → List Int → Bool
  | _, [] => false
  | [], _ :: _ => true
  | x :: r, y :: t => if x = y then lexB r t else decide (x < y)

theorem lexB_nil (l : List Int) : lexB l [] = false := by cases l <;> rfl
theorem lexB_same (x : Int) (r t : List Int) : lexB (x :: r) (x :: t) = lexB r t := by rw [lexB, if_pos rfl]
theorem lexB_ne {x y : Int} (h : x ≠ y) (r t : List Int) : lexB (x :: r) (y :: t) = decide (x < y) := by rw [lexB, if_neg h]
theorem lexB_app : ∀ (u r t : List Int), lexB (u ++ r) (u ++ t) = lexB r t
  | [], _, _ => rfl
  | x :: u, r, t => by rw [List.cons_append, List.cons_append, lexB_same, lexB_app u r t]
theorem units_nil {s : ByteArray} {g k : Nat} (h : ¬ k < s.size) : unitsL s g k = [] := by
  cases g with
  | zero => rfl
  | succ g => rw [unitsL, if_neg h]
theorem units_cons {s : ByteArray} {g k : Nat} (h : k < s.size) (hg : s.size - k ≤ g) : ∃ g', g = g' + 1 ∧ unitsL s g k = uOf (runeN s k) ++ unitsL s g' (k + stepN s k) := by
  obtain ⟨g', rfl⟩ : ∃ g', g = g' + 1 := ⟨g - 1, by omega⟩
  exact ⟨g', rfl, by rw [unitsL, if_pos h]⟩

theorem rune_chr {s : ByteArray} {k : Nat} (hu : uw s k ≠ 0) :
    (bAt s k < 128 ∧ uw s k = 1 ∧ (runeN s k : Int) = bAt s k) ∨ (128 ≤ bAt s k ∧ 2 ≤ uw s k ∧ 128 ≤ (runeN s k : Int) ∧ (0 ≤ (runeN s k : Int) ∧ (runeN s k : Int) ≤ 1114111 ∧ ¬ (55296 ≤ (runeN s k : Int) ∧ (runeN s k : Int) ≤ 57343))) := by
  have hk : k < s.size := by
    by_cases h : k < s.size
    · exact h
    · exact absurd (by unfold uw; rw [if_neg h]) hu
  have n0 := bN_eq s k
  have n1 := bN_eq s (k + 1)
  have n2 := bN_eq s (k + 2)
  have n3 := bN_eq s (k + 3)
  have z0 := bAt_le s k
  by_cases h1 : bAt s k < 128
  · have e : uw s k = 1 := uw_1 hk (by omega)
    exact Or.inl ⟨h1, e, by unfold runeN; rw [if_pos e]; exact n0⟩
  · refine Or.inr ⟨by omega, ?_⟩
    obtain ⟨e1, e2, e3⟩ : uw s k = uLen (bAt s k) ∧ uwOk s k (uLen (bAt s k)) (uLo (bAt s k)) (uHi (bAt s k)) = true ∧ uLen (bAt s k) ≠ 0 := by
      unfold uw at hu ⊢
      rw [if_pos hk, if_neg h1] at hu ⊢
      by_cases h0 : uLen (bAt s k) = 0
      · rw [if_pos h0] at hu; exact absurd rfl hu
      · rw [if_neg h0] at hu ⊢
        by_cases ho : uwOk s k (uLen (bAt s k)) (uLo (bAt s k)) (uHi (bAt s k)) = true
        · rw [if_pos ho]; exact ⟨rfl, ho, h0⟩
        · rw [if_neg ho] at hu; exact absurd rfl hu
    have hlo : 128 ≤ uLo (bAt s k) ∧ (bAt s k = 224 → uLo (bAt s k) = 160) ∧ (bAt s k = 240 → uLo (bAt s k) = 144) := by
      unfold uLo; split
      · omega
      · split <;> omega
    have hhi : uHi (bAt s k) ≤ 191 ∧ (bAt s k = 237 → uHi (bAt s k) = 159) ∧ (bAt s k = 244 → uHi (bAt s k) = 143) := by
      unfold uHi; split
      · omega
      · split <;> omega
    have hl : (uLen (bAt s k) = 2 → 194 ≤ bAt s k ∧ bAt s k ≤ 223) ∧ (uLen (bAt s k) = 3 → 224 ≤ bAt s k ∧ bAt s k ≤ 239) ∧ (uLen (bAt s k) = 4 → 240 ≤ bAt s k ∧ bAt s k ≤ 244) := by
      unfold uLen; split
      · omega
      · split
        · omega
        · split <;> omega
    rcases uLen_cases (bAt s k) with h | h | h | h
    · exact absurd h e3
    · rw [h] at e1 e2
      have hb := hl.1 h
      unfold uwOk at e2
      simp [contN] at e2
      have hr : runeN s k = bN s k % 32 * 64 + bN s (k + 1) % 64 := by unfold runeN; rw [if_neg (by omega), if_pos e1]
      rw [hr, e1]
      omega
    · rw [h] at e1 e2
      have hb := hl.2.1 h
      unfold uwOk at e2
      simp [contN, cont] at e2
      have hr : runeN s k = bN s k % 16 * 4096 + bN s (k + 1) % 64 * 64 + bN s (k + 2) % 64 := by unfold runeN; rw [if_neg (by omega), if_neg (by omega), if_pos e1]
      rw [hr, e1]
      omega
    · rw [h] at e1 e2
      have hb := hl.2.2 h
      unfold uwOk at e2
      simp [contN, cont] at e2
      have hr : runeN s k = bN s k % 8 * 262144 + bN s (k + 1) % 64 * 4096 + bN s (k + 2) % 64 * 64 + bN s (k + 3) % 64 := by unfold runeN; rw [if_neg (by omega), if_neg (by omega), if_neg (by omega), if_pos e1]
      rw [hr, e1]
      omega

theorem hdU_lo {r : Int} (h : r < 65536) : hdU r = r ∧ tlU r = [] := ⟨by unfold hdU; rw [if_neg (by omega)], by unfold tlU; rw [if_neg (by omega)]⟩
theorem hdU_hi {r : Int} (h : 65536 ≤ r) : hdU r = 55296 + (r - 65536) / 1024 ∧ tlU r = [56320 + (r - 65536) % 1024] := ⟨by unfold hdU; rw [if_pos h], by unfold tlU; rw [if_pos h]⟩

theorem textF_fuel (p : ByteArray) : ∀ (n m j : Nat), p.size - j ≤ n → p.size - j ≤ m → textF p n j = textF p m j
  | 0, 0, _, _, _ => rfl
  | 0, m + 1, j, h1, _ => by rw [textF, textF, if_neg (by omega)]; simp; omega
  | n + 1, 0, j, _, h2 => by rw [textF, textF, if_neg (by omega)]; simp; omega
  | n + 1, m + 1, j, h1, h2 => by
    rw [textF, textF]
    split
    · split
      · rfl
      · exact textF_fuel p n m _ (by omega) (by omega)
    · rfl
theorem text_at' {s : ByteArray} {k : Nat} (h : textF s (s.size - k) k = true) (hk : k < s.size) : uw s k ≠ 0 ∧ k + uw s k ≤ s.size ∧ textF s (s.size - (k + uw s k)) (k + uw s k) = true := by
  rw [show s.size - k = (s.size - k - 1) + 1 by omega, textF, if_pos hk] at h
  by_cases hu : uw s k = 0
  · rw [if_pos hu] at h; cases h
  · rw [if_neg hu] at h
    have hf := uw_fit s k hu
    refine ⟨hu, hf, ?_⟩
    rw [← h]
    exact textF_fuel s _ _ _ (by omega) (by omega)

/-- The character as it is put together: what is left of the first byte, then six bits of each other one. -/
def mskU (n b : Nat) : Nat := if n = 2 then b % 32 else if n = 3 then b % 16 else if n = 4 then b % 8 else b
def accN (s : ByteArray) (k x0 : Nat) : Nat → Nat
  | 0 => x0
  | m + 1 => accN s k x0 m * 64 + bN s (k + 1 + m) % 64
theorem acc_le (s : ByteArray) (k x0 m : Nat) (h : x0 < 128) (hm : m ≤ 3) : accN s k x0 m < 33554432 := by
  have : m = 0 ∨ m = 1 ∨ m = 2 ∨ m = 3 := by omega
  rcases this with rfl | rfl | rfl | rfl
  all_goals simp only [accN]; omega
theorem uw_four (s : ByteArray) (k : Nat) (h : uw s k ≠ 0) : uw s k = 1 ∨ uw s k = 2 ∨ uw s k = 3 ∨ uw s k = 4 := by
  unfold uw at h ⊢
  split at h
  · rename_i hk
    rw [if_pos hk]
    split at h
    · rename_i h1; rw [if_pos h1]; exact Or.inl rfl
    · rename_i h1
      rw [if_neg h1]
      split at h
      · exact absurd rfl h
      · rename_i h2
        rw [if_neg h2]
        split at h
        · rename_i h3; rw [if_pos h3]; rcases uLen_cases (bAt s k) with e | e <;> omega
        · exact absurd rfl h
  · exact absurd rfl h
theorem acc_rune (s : ByteArray) (k : Nat) (h : uw s k ≠ 0) : accN s k (mskU (uw s k) (bN s k)) (uw s k - 1) = runeN s k := by
  rcases uw_four s k h with e | e | e | e
  all_goals
    unfold runeN
    rw [e]
    simp [accN, mskU, show k + 1 + 1 = k + 2 from rfl, show k + 1 + 2 = k + 3 from rfl]
  all_goals omega
theorem msk_lt (s : ByteArray) (k : Nat) (h : uw s k ≠ 0) : mskU (uw s k) (bN s k) < 128 := by
  have hb := bN_le s k
  have n0 := bN_eq s k
  rcases uw_four s k h with e | e | e | e
  all_goals rw [e]; simp [mskU]
  · rcases rune_chr h with ⟨h1, _⟩ | ⟨_, h2, _⟩ <;> omega
  all_goals omega
end Go.Proofs.Ytokhmhbjbclcoaa
