/- Numbers: three ways to tell them, one law. Plain mathematics. -/
import Derived.Test.YtjbffgjclnjkoaaSv
namespace Go.Proofs.Ytjbffgjclnjkoaa
set_option linter.unusedVariables false
set_option linter.unusedSimpArgs false

/-- One byte of a number, as the law's own automaton takes it. -/
def numS (n : Nat) (c : Int) : Option Nat :=
  if n = 0 ∧ c = 45 then some 1
  else if n ≤ 1 ∧ c = 48 then some 2
  else if n ≤ 1 ∧ digB c = true ∨ n = 3 ∧ digB c = true then some 3
  else if (n = 2 ∨ n = 3) ∧ c = 46 then some 4
  else if (n = 4 ∨ n = 5) ∧ digB c = true then some 5
  else if (n = 2 ∨ n = 3 ∨ n = 5) ∧ (c = 101 ∨ c = 69) then some 6
  else if n = 6 ∧ (c = 43 ∨ c = 45) then some 7
  else if 6 ≤ n ∧ digB c = true then some 8
  else none
def numE (n : Nat) : Bool := n == 2 || n == 3 || n == 5 || n == 8
def numF : Nat → List Int → Bool
  | n, [] => numE n
  | n, c :: l => match numS n c with
    | some m => numF m l
    | none => false
/-- The bytes that such texts have. -/
def NumC (c : Int) : Prop := digB c = true ∨ c = 43 ∨ c = 45 ∨ c = 46 ∨ c = 101 ∨ c = 69
def numQ : Nat → Sq
  | 0 => .bv | 1 => .neg | 2 => .s0 | 3 => .s1 | 4 => .dot | 5 => .dot0 | 6 => .ee | 7 => .esg | _ => .e0
theorem valid_er (l : List Int) (t : Bool) (s : List Int) : validQ ⟨.er, t, s, true⟩ l = false := by
  cases l with
  | nil => rfl
  | cons c l => rfl
theorem valid_cons (σ : Sc) (c : Int) (l : List Int) : validQ σ (c :: l) = if (stepQ σ c).1 = 11 then false else validQ (stepQ σ c).2 l := rfl
theorem digB_iff {c : Int} : digB c = true ↔ 48 ≤ c ∧ c ≤ 57 := by unfold digB; simp
theorem isW_num {c : Int} (h : NumC c) : isW c = false := by
  unfold NumC at h
  rw [digB_iff] at h
  unfold isW
  simp
  omega
theorem end_num {q : Sq} {c : Int} (h : NumC c) : endQ ⟨q, false, [], false⟩ c = (10, ⟨.er, true, [], true⟩) := by
  show topQ _ c = _
  unfold topQ
  rw [isW_num h]
  rfl
theorem num_step (n : Nat) (hn : n ≤ 8) (c : Int) (l : List Int) (h : NumC c) :
    validQ ⟨numQ n, false, [], false⟩ (c :: l) = match numS n c with
      | some m => validQ ⟨numQ m, false, [], false⟩ l
      | none => false := by
  have hw := isW_num h
  have he := fun q => end_num (q := q) h
  unfold NumC at h
  by_cases hd : digB c = true
  · have hd2 := digB_iff.1 hd
    have g1 : c ≠ 43 := by omega
    have g2 : c ≠ 45 := by omega
    have g3 : c ≠ 46 := by omega
    have g4 : c ≠ 101 := by omega
    have g5 : c ≠ 69 := by omega
    have g6 : c ≠ 123 := by omega
    have g7 : c ≠ 91 := by omega
    have g8 : c ≠ 34 := by omega
    rw [valid_cons]
    by_cases h0 : c = 48
    · subst h0
      have : n = 0 ∨ n = 1 ∨ n = 2 ∨ n = 3 ∨ n = 4 ∨ n = 5 ∨ n = 6 ∨ n = 7 ∨ n = 8 := by omega
      rcases this with rfl | rfl | rfl | rfl | rfl | rfl | rfl | rfl | rfl <;> first | rfl | (simp [stepQ, numQ, numS, s0Q, he, hd, valid_er]; done)
    · have hd3 : 49 ≤ c := by omega
      have h9 : (decide (49 ≤ c) && decide (c ≤ 57)) = true := by simp; omega
      have : n = 0 ∨ n = 1 ∨ n = 2 ∨ n = 3 ∨ n = 4 ∨ n = 5 ∨ n = 6 ∨ n = 7 ∨ n = 8 := by omega
      have k1 : c ≠ 116 := by omega
      have k2 : c ≠ 102 := by omega
      have k3 : c ≠ 110 := by omega
      have k4 : ¬ c < 32 := by omega
      rcases this with rfl | rfl | rfl | rfl | rfl | rfl | rfl | rfl | rfl <;> simp [stepQ, numQ, numS, bvQ, negQ, s0Q, s1Q, dotQ, dot0Q, eeQ, esgQ, e0Q, Sc.to, Sc.err, he, hd, hw, valid_er, h0, h9, g1, g2, g3, g4, g5, g6, g7, g8, k1, k2, k3, hd3, hd2.2]
  · have hd' : digB c = false := by simpa using hd
    rw [valid_cons]
    have : n = 0 ∨ n = 1 ∨ n = 2 ∨ n = 3 ∨ n = 4 ∨ n = 5 ∨ n = 6 ∨ n = 7 ∨ n = 8 := by omega
    rcases h with h | rfl | rfl | rfl | rfl | rfl
    · exact absurd h hd
    all_goals rcases this with rfl | rfl | rfl | rfl | rfl | rfl | rfl | rfl | rfl <;> first | rfl | (simp [stepQ, numQ, numS, bvQ, negQ, s0Q, s1Q, dotQ, dot0Q, eeQ, esgQ, e0Q, Sc.to, Sc.err, he, hd', hw, valid_er]; done)
theorem num_end (n : Nat) (hn : n ≤ 8) : validQ ⟨numQ n, false, [], false⟩ [] = numE n := by
  have : n = 0 ∨ n = 1 ∨ n = 2 ∨ n = 3 ∨ n = 4 ∨ n = 5 ∨ n = 6 ∨ n = 7 ∨ n = 8 := by omega
  rcases this with rfl | rfl | rfl | rfl | rfl | rfl | rfl | rfl | rfl <;> rfl
theorem numS_le {n m : Nat} {c : Int} (h : numS n c = some m) : m ≤ 8 := by
  unfold numS at h
  repeat' split at h
  all_goals first | (injection h with h; omega) | cases h
/-- A value of such bytes is a number. -/
theorem valid_num : ∀ (l : List Int) (n : Nat), n ≤ 8 → (∀ c ∈ l, NumC c) → validQ ⟨numQ n, false, [], false⟩ l = numF n l
  | [], n, hn, _ => num_end n hn
  | c :: l, n, hn, h => by
    rw [num_step n hn c l (h c (by simp)), numF]
    cases hm : numS n c with
    | none => rfl
    | some m => exact valid_num l m (numS_le hm) (fun x hx => h x (by simp [hx]))

/-- The rest behind the digits. -/
def dd (l : List Int) : List Int := l.dropWhile digB
def exN : List Int → Bool
  | [] => true
  | [_] => false
  | c :: d :: r => if c = 101 ∨ c = 69 then (if d = 43 ∨ d = 45 then (if r = [] then false else (dd r).isEmpty) else (dd (d :: r)).isEmpty) else false
def frN : List Int → Bool
  | c :: d :: r => if c = 46 ∧ digB d = true then exN (dd r) else exN (c :: d :: r)
  | l => exN l
def inN : List Int → Bool
  | [] => false
  | c :: r => if c = 48 then frN r else if 49 ≤ c ∧ c ≤ 57 then frN (dd r) else false
def isN (l : List Int) : Bool := match l with
  | [] => false
  | c :: r => if c = 45 then inN r else inN (c :: r)
theorem dd_cons (c : Int) (l : List Int) : dd (c :: l) = if digB c then dd l else c :: l := by unfold dd; rw [List.dropWhile_cons]
theorem num8 : ∀ l, numF 8 l = (dd l).isEmpty
  | [] => rfl
  | c :: l => by
    rw [dd_cons, numF]
    by_cases h : digB c = true
    · have : numS 8 c = some 8 := by simp [numS, h]
      rw [this, if_pos h]
      exact num8 l
    · have : numS 8 c = none := by simp [numS, h]
      rw [this, if_neg h]
      rfl
theorem num7 (l : List Int) : numF 7 l = if l = [] then false else (dd l).isEmpty := by
  cases l with
  | nil => rfl
  | cons c l =>
    rw [numF, if_neg (by simp), dd_cons]
    by_cases h : digB c = true
    · have : numS 7 c = some 8 := by simp [numS, h]
      rw [this, if_pos h]
      exact num8 l
    · have : numS 7 c = none := by simp [numS, h]
      rw [this, if_neg h]
      rfl
theorem exN_eq (e : Int) (he : e = 101 ∨ e = 69) (l : List Int) : exN (e :: l) = numF 6 l := by
  cases l with
  | nil => rfl
  | cons d r =>
    rw [exN, if_pos he, numF]
    by_cases h : d = 43 ∨ d = 45
    · have hd : digB d = false := by unfold digB; rcases h with rfl | rfl <;> rfl
      have : numS 6 d = some 7 := by simp [numS, h, hd]
      rw [if_pos h, this]
      exact (num7 r).symm
    · rw [if_neg h, dd_cons]
      by_cases hd : digB d = true
      · have : numS 6 d = some 8 := by simp [numS, h, hd]
        rw [this, if_pos hd]
        exact (num8 r).symm
      · have : numS 6 d = none := by simp [numS, h, hd]
        rw [this, if_neg hd]
        rfl
theorem exN_no (c : Int) (h : ¬ (c = 101 ∨ c = 69)) (l : List Int) : exN (c :: l) = false := by
  cases l with
  | nil => rfl
  | cons d r => rw [exN, if_neg h]
theorem num5 : ∀ l, numF 5 l = exN (dd l)
  | [] => rfl
  | c :: l => by
    rw [dd_cons, numF]
    by_cases h : digB c = true
    · have : numS 5 c = some 5 := by simp [numS, h]
      rw [this, if_pos h]
      exact num5 l
    · rw [if_neg h]
      by_cases he : c = 101 ∨ c = 69
      · have : numS 5 c = some 6 := by simp [numS, h, he]
        rw [this, exN_eq c he]
      · have : numS 5 c = none := by simp [numS, h, he]
        rw [this, exN_no c he]
theorem num2 (l : List Int) : numF 2 l = frN l := by
  match l with
  | [] => rfl
  | [c] =>
    show numF 2 [c] = exN [c]
    rw [numF]
    have : exN [c] = false := rfl
    rw [this]
    by_cases h46 : c = 46
    · subst h46; rfl
    · by_cases he : c = 101 ∨ c = 69
      · have : numS 2 c = some 6 := by simp [numS, h46, he]
        rw [this]; rfl
      · have : numS 2 c = none := by simp [numS, h46, he]
        rw [this]
  | c :: d :: r =>
    rw [frN, numF]
    by_cases h46 : c = 46
    · subst h46
      have : numS 2 46 = some 4 := rfl
      rw [this]
      show numF 4 (d :: r) = _
      rw [numF]
      by_cases hd : digB d = true
      · have : numS 4 d = some 5 := by simp [numS, hd]
        rw [this, if_pos ⟨rfl, hd⟩]
        exact num5 r
      · have : numS 4 d = none := by simp [numS, hd]
        rw [this, if_neg (fun h => hd h.2), exN_no 46 (by decide)]
    · rw [if_neg (fun h => h46 h.1)]
      by_cases he : c = 101 ∨ c = 69
      · have : numS 2 c = some 6 := by simp [numS, h46, he]
        rw [this, exN_eq c he]
      · have : numS 2 c = none := by simp [numS, h46, he]
        rw [this, exN_no c he]
theorem num3 : ∀ l, numF 3 l = frN (dd l)
  | [] => rfl
  | c :: l => by
    rw [dd_cons]
    by_cases h : digB c = true
    · have : numS 3 c = some 3 := by simp [numS, h]
      rw [numF, this, if_pos h]
      exact num3 l
    · rw [if_neg h, ← num2, numF, numF]
      have : numS 3 c = numS 2 c := by simp [numS, h]
      rw [this]
theorem numIn (n : Nat) (hn : n ≤ 1) (c : Int) (hc : ¬ (n = 0 ∧ c = 45)) (l : List Int) : numF n (c :: l) = inN (c :: l) := by
  rw [numF, inN]
  by_cases h0 : c = 48
  · subst h0
    have : numS n 48 = some 2 := by simp [numS, hn]
    rw [this, if_pos rfl]
    exact num2 l
  · rw [if_neg h0]
    by_cases h : 49 ≤ c ∧ c ≤ 57
    · have hd : digB c = true := digB_iff.2 ⟨by omega, h.2⟩
      have : numS n c = some 3 := by simp [numS, hn, hc, h0, hd]
      rw [this, if_pos h]
      exact num3 l
    · have hd : digB c = false := by
        cases hb : digB c
        · rfl
        · exact absurd (digB_iff.1 hb) (by omega)
      have : numS n c = none := by
        have a1 : ¬ n = 2 := by omega
        have a2 : ¬ n = 3 := by omega
        have a3 : ¬ n = 5 := by omega
        have a4 : ¬ n = 6 := by omega
        simp [numS, hn, hc, h0, hd, a1, a2, a3, a4]
      rw [this, if_neg h]
theorem isN_eq (l : List Int) : isN l = numF 0 l := by
  cases l with
  | nil => rfl
  | cons c r =>
    unfold isN
    by_cases h : c = 45
    · subst h
      show (if (45 : Int) = 45 then inN r else inN (45 :: r)) = numF 1 r
      rw [if_pos rfl]
      cases r with
      | nil => rfl
      | cons d r => exact (numIn 1 (by decide) d (fun h => (by cases h.1)) r).symm
    · show (if c = 45 then inN r else inN (c :: r)) = _
      rw [if_neg h]
      exact (numIn 0 (by decide) c (fun k => h k.2) r).symm
end Go.Proofs.Ytjbffgjclnjkoaa
