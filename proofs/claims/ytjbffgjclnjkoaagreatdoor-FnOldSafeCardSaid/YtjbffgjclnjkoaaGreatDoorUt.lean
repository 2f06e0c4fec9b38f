/- Characters in UTF-8, by RFC 3629: the plain mathematics. -/
import Derived.Test.YtjbffgjclnjkoaaGreatDoorPl
import Derived.Laws.Strings
namespace Go.Proofs.YtjbffgjclnjkoaaGreatDoor
set_option linter.unusedVariables false
set_option linter.unusedSimpArgs false
open Go.RowKit

def cont (c : Int) : Bool := decide (128 ≤ c) && decide (c ≤ 191)
/-- m bytes from j on are continuation bytes. -/
def contN (s : ByteArray) : Nat → Nat → Bool
  | _, 0 => true
  | j, m + 1 => cont (bAt s j) && contN s (j + 1) m
def uwOk (s : ByteArray) (i n : Nat) (x y : Int) : Bool := decide (i + n ≤ s.size) && decide (x ≤ bAt s (i + 1)) && decide (bAt s (i + 1) ≤ y) && contN s (i + 2) (n - 2)
/-- The length and the bounds of the second byte, by the first byte: 0 where none begins so. -/
def uLen (c : Int) : Nat := if 194 ≤ c ∧ c ≤ 223 then 2 else if 224 ≤ c ∧ c ≤ 239 then 3 else if 240 ≤ c ∧ c ≤ 244 then 4 else 0
def uLo (c : Int) : Int := if c = 224 then 160 else if c = 240 then 144 else 128
def uHi (c : Int) : Int := if c = 237 then 159 else if c = 244 then 143 else 191
/-- The width of the character at a place, 0 if none begins there. -/
def uw (s : ByteArray) (i : Nat) : Nat :=
  if i < s.size then
    if bAt s i < 128 then 1
    else if uLen (bAt s i) = 0 then 0
    else if uwOk s i (uLen (bAt s i)) (uLo (bAt s i)) (uHi (bAt s i)) then uLen (bAt s i) else 0
  else 0

theorem uLen_le (c : Int) : uLen c ≤ 4 := by unfold uLen; repeat' split
                                             all_goals omega
theorem uLen_cases (c : Int) : uLen c = 0 ∨ uLen c = 2 ∨ uLen c = 3 ∨ uLen c = 4 := by
  unfold uLen; repeat' split
  all_goals omega
theorem uw_fit (s : ByteArray) (i : Nat) : uw s i ≠ 0 → i + uw s i ≤ s.size := by
  unfold uw
  split
  · split
    · intro _; omega
    · split
      · intro h; exact absurd rfl h
      · split
        · rename_i h; intro _; unfold uwOk at h; simp at h; omega
        · intro h; exact absurd rfl h
  · intro h; exact absurd rfl h

/-- Is a text, from a place on, of characters alone? -/
def textF (s : ByteArray) : Nat → Nat → Bool
  | 0, i => decide (s.size ≤ i)
  | n + 1, i => if i < s.size then (if uw s i = 0 then false else textF s n (i + uw s i)) else true

theorem size_from (s : ByteArray) (k : Nat) : (s.extract k s.size).size = s.size - k := by simp
theorem bAt_from (s : ByteArray) (k i : Nat) : bAt (s.extract k s.size) i = bAt s (k + i) := by
  unfold bAt
  by_cases h : k + i < s.size
  · rw [dif_pos h, dif_pos (by simp; omega)]
    simp [ByteArray.getElem_extract]
  · rw [dif_neg h, dif_neg (by simp; omega)]
theorem contN_from (s : ByteArray) (k : Nat) : ∀ (m j : Nat), contN (s.extract k s.size) j m = contN s (k + j) m
  | 0, _ => rfl
  | m + 1, j => by unfold contN; rw [bAt_from, contN_from s k m (j + 1), Nat.add_assoc]
theorem uw_from (s : ByteArray) (k i : Nat) (hk : k ≤ s.size) : uw (s.extract k s.size) i = uw s (k + i) := by
  unfold uw uwOk
  rw [size_from, bAt_from, bAt_from, contN_from]
  have e1 : (i < s.size - k) = (k + i < s.size) := by apply propext; omega
  have e2 : ∀ n, decide (i + n ≤ s.size - k) = decide (k + i + n ≤ s.size) := by intro n; apply decide_eq_decide.2; omega
  simp only [e1, e2, Nat.add_assoc]
theorem from_from (s : ByteArray) (k n : Nat) (h : n ≤ s.size - k) : (s.extract k s.size).extract n (s.extract k s.size).size = s.extract (k + n) s.size := by
  rw [size_from]
  apply ByteArray.ext
  simp [Array.extract_extract]
  congr 1
  omega

/-- The tildes of a pointer from a place on. -/
def tildeOk (s : ByteArray) : Nat → Nat → Bool
  | 0, _ => true
  | n + 1, i => if bAt s i = 126 ∧ ¬ (i + 1 < s.size ∧ (bAt s (i + 1) = 48 ∨ bAt s (i + 1) = 49)) then false else tildeOk s n (i + 1)
/-- A text is a pointer. -/
def pvB (s : ByteArray) : Bool := textF s s.size 0 && (decide (s.size = 0) || decide (bAt s 0 = 47)) && tildeOk s s.size 0

theorem empty_no {p : ByteArray} (h : 0 < p.size) : p.toList.isEmpty = false := by
  rw [ByteArray.toList_eq]
  cases hl : p.data.toList with
  | nil => have := congrArg List.length hl; rw [Array.length_toList] at this; exact absurd this (Nat.ne_of_gt h)
  | cons a l => rfl
theorem empty_yes {p : ByteArray} (h : p.size = 0) : p.toList.isEmpty = true := by
  rw [ByteArray.toList_eq]
  cases hl : p.data.toList with
  | nil => rfl
  | cons a l => have := congrArg List.length hl; rw [Array.length_toList] at this; exact absurd (show p.data.size = 0 from h) (by rw [this]; simp)
/-- Bytes within a character are no tildes. -/
theorem uw_inner (s : ByteArray) (i : Nat) (h : uw s i ≠ 0) : ∀ j, i < j → j < i + uw s i → 128 ≤ bAt s j := by
  intro j h1 h2
  have key : ∀ n x y, uwOk s i n x y = true → 128 ≤ x → n ≤ 4 → j < i + n → 128 ≤ bAt s j := by
    intro n x y ho hx hn hj
    unfold uwOk at ho
    simp only [Bool.and_eq_true, decide_eq_true_eq] at ho
    obtain ⟨⟨⟨o1, o2⟩, o3⟩, o4⟩ := ho
    by_cases e1 : j = i + 1
    · subst e1; omega
    have more : ∀ m b, contN s b m = true → ∀ q, b ≤ q → q < b + m → 128 ≤ bAt s q := by
      intro m
      induction m with
      | zero => intro b _ q h3 h4; omega
      | succ m ih =>
        intro b hb q h3 h4
        unfold contN at hb
        rw [Bool.and_eq_true] at hb
        by_cases e : q = b
        · subst e; have := hb.1; simp [cont] at this; omega
        · exact ih (b + 1) hb.2 q (by omega) (by omega)
    exact more (n - 2) (i + 2) o4 j (by omega) (by omega)
  have hlo : 128 ≤ uLo (bAt s i) := by unfold uLo; repeat' split
                                       all_goals omega
  have hle := uLen_le (bAt s i)
  unfold uw at h h2
  split at h2
  · split at h2
    · omega
    · split at h2
      · omega
      · split at h2
        · rename_i ho
          exact key _ _ _ ho hlo hle h2
        · omega
  · omega
end Go.Proofs.YtjbffgjclnjkoaaGreatDoor
