/- The tokens of a pointer, and the pointer of some tokens: the plain mathematics. -/
import Derived.Test.YtokhmhbjbclcoaaUt
import Derived.Test.YtokhmhbjbclcoaaBw
import Derived.Test.YtokhmhbjbclcoaaSb
namespace Go.Proofs.Ytokhmhbjbclcoaa
set_option linter.unusedVariables false
set_option linter.unusedSimpArgs false
open Go.RowKit

/-- Bytes more for the last token. -/
def addLast (acc : List (List Int)) (x : List Int) : List (List Int) := acc.dropLast ++ [acc.getLast?.getD [] ++ x]
/-- What stands behind a tilde. -/
def tilC (c : Int) : Int := if c = 48 then 126 else 47
def tokS (p : ByteArray) : Nat → Nat → List (List Int) → List (List Int)
  | 0, _, acc => acc
  | g + 1, i, acc =>
    if i < p.size then
      if bAt p i = 47 then tokS p g (i + 1) (acc ++ [[]])
      else if bAt p i = 126 then tokS p g (i + 2) (addLast acc [tilC (bAt p (i + 1))])
      else tokS p g (i + 1) (addLast acc [bAt p i])
    else acc
def toks (p : ByteArray) : List (List Int) := tokS p p.size 0 []
def escP (c : Int) : List Int := if c = 126 then [126, 48] else if c = 47 then [126, 49] else [c]
def ptrOf (l : List (List Int)) : List Int := l.flatMap fun t => 47 :: t.flatMap escP
theorem ptrOf_app (a b : List (List Int)) : ptrOf (a ++ b) = ptrOf a ++ ptrOf b := by simp [ptrOf]
theorem addLast_ne (acc : List (List Int)) (x : List Int) : addLast acc x ≠ [] := by unfold addLast; simp
theorem addLast_drop (acc : List (List Int)) (x : List Int) : (addLast acc x).dropLast = acc.dropLast := by unfold addLast; simp
theorem ptrOf_add {acc : List (List Int)} (h : acc ≠ []) (x : List Int) : ptrOf (addLast acc x) = ptrOf acc ++ x.flatMap escP := by
  obtain ⟨a, b, rfl⟩ : ∃ a b, acc = a ++ [b] := ⟨acc.dropLast, acc.getLast h, (List.dropLast_concat_getLast h).symm⟩
  unfold addLast
  rw [ptrOf_app, ptrOf_app]
  simp [ptrOf]

/-- The last slash ahead of a place, the place's own number if there is none. -/
def lastSl (p : ByteArray) : Nat → Nat
  | 0 => 0
  | i + 1 => if bAt p i = 47 then i else lastSl p i
theorem lastSl_le (p : ByteArray) : ∀ i, lastSl p i ≤ i
  | 0 => Nat.le_refl _
  | i + 1 => by unfold lastSl; split; omega; have := lastSl_le p i; omega

/-- A pointer that can be read: a slash ahead of all, each tilde followed by 0 or 1. -/
structure PtrOk (p : ByteArray) : Prop where
  head : p.size = 0 ∨ bAt p 0 = 47
  tilde : ∀ i, i < p.size → bAt p i = 126 → i + 1 < p.size ∧ (bAt p (i + 1) = 48 ∨ bAt p (i + 1) = 49)

/-- What has been read up to a place. -/
structure TokI (p : ByteArray) (i : Nat) (acc : List (List Int)) : Prop where
  ptr : ptrOf acc = sub p 0 i
  emp : acc = [] ↔ i = 0
  par : ptrOf acc.dropLast = sub p 0 (lastSl p i)
  by8 : ∀ t ∈ acc, By8 t
  len : ∀ t ∈ acc, t.length ≤ i
  num : acc.length ≤ i

theorem by8_add {acc : List (List Int)} {x : List Int} (h : ∀ t ∈ acc, By8 t) (hx : By8 x) : ∀ t ∈ addLast acc x, By8 t := by
  intro t ht
  unfold addLast at ht
  rcases List.mem_append.1 ht with h1 | h1
  · exact h t ((List.dropLast_sublist acc).subset h1)
  · simp only [List.mem_singleton] at h1
    subst h1
    cases hl : acc.getLast? with
    | none => simpa using hx
    | some u => exact (h u (List.mem_of_getLast? hl)).app hx
theorem len_add {acc : List (List Int)} {x : List Int} {i : Nat} (h : ∀ t ∈ acc, t.length ≤ i) : ∀ t ∈ addLast acc x, t.length ≤ i + x.length := by
  intro t ht
  unfold addLast at ht
  rcases List.mem_append.1 ht with h1 | h1
  · have := h t ((List.dropLast_sublist acc).subset h1); omega
  · simp only [List.mem_singleton] at h1
    subst h1
    cases hl : acc.getLast? with
    | none => simp
    | some u => have := h u (List.mem_of_getLast? hl); simp; omega
theorem num_add {acc : List (List Int)} (x : List Int) (h : acc ≠ []) : (addLast acc x).length = acc.length := by
  unfold addLast
  have : 0 < acc.length := List.length_pos_iff.2 h
  simp; omega

theorem tok_slash {p : ByteArray} {i : Nat} {acc : List (List Int)} (I : TokI p i acc) (hi : i < p.size) (h : bAt p i = 47) : TokI p (i + 1) (acc ++ [[]]) := by
  refine ⟨?_, by simp, ?_, ?_, ?_, ?_⟩
  · rw [ptrOf_app, I.ptr, sub_snoc p (Nat.zero_le i), h]; rfl
  · rw [List.dropLast_concat, I.ptr, lastSl, if_pos h]
  · intro t ht
    rcases List.mem_append.1 ht with h1 | h1
    · exact I.by8 t h1
    · simp only [List.mem_singleton] at h1; subst h1; exact By8.nil
  · intro t ht
    rcases List.mem_append.1 ht with h1 | h1
    · have := I.len t h1; omega
    · simp only [List.mem_singleton] at h1; subst h1; simp
  · have := I.num; simp; omega
theorem tok_byte {p : ByteArray} {i : Nat} {acc : List (List Int)} (I : TokI p i acc) (hi0 : i ≠ 0) (h : bAt p i ≠ 47) (h2 : bAt p i ≠ 126) : TokI p (i + 1) (addLast acc [bAt p i]) := by
  have hne : acc ≠ [] := fun e => hi0 (I.emp.1 e)
  have h0 := bAt_nonneg p i
  have h1 := bAt_le p i
  refine ⟨?_, by simp [addLast_ne], ?_, by8_add I.by8 (by intro x hx; simp at hx; omega), ?_, ?_⟩
  · rw [ptrOf_add hne, I.ptr, sub_snoc p (Nat.zero_le i)]
    simp [escP, h, h2]
  · rw [addLast_drop, I.par, lastSl, if_neg h]
  · have := len_add (x := [bAt p i]) I.len; simpa using this
  · rw [num_add _ hne]; have := I.num; omega
theorem tok_tilde {p : ByteArray} {i : Nat} {acc : List (List Int)} (I : TokI p i acc) (hi0 : i ≠ 0) (h2 : bAt p i = 126) (h : bAt p (i + 1) = 48 ∨ bAt p (i + 1) = 49) : TokI p (i + 2) (addLast acc [tilC (bAt p (i + 1))]) := by
  have hne : acc ≠ [] := fun e => hi0 (I.emp.1 e)
  refine ⟨?_, by simp [addLast_ne], ?_, by8_add I.by8 (by intro x hx; simp [tilC] at hx; split at hx <;> omega), ?_, ?_⟩
  · rw [ptrOf_add hne, I.ptr, show i + 2 = i + 1 + 1 from rfl, sub_snoc p (Nat.zero_le (i + 1)), sub_snoc p (Nat.zero_le i), h2]
    rcases h with h | h <;> rw [h] <;> simp [escP, tilC]
  · rw [addLast_drop, I.par, show i + 2 = i + 1 + 1 from rfl, lastSl, if_neg (by omega), lastSl, if_neg (by omega)]
  · intro t ht
    have := len_add (x := [tilC (bAt p (i + 1))]) I.len t ht
    simp at this; omega
  · rw [num_add _ hne]; have := I.num; omega
theorem tok_all {p : ByteArray} (ok : PtrOk p) : ∀ (g i : Nat) (acc : List (List Int)), p.size - i ≤ g → i ≤ p.size → TokI p i acc → TokI p p.size (tokS p g i acc)
  | 0, i, acc, hg, hi, I => by
    have : i = p.size := by omega
    subst this; exact I
  | g + 1, i, acc, hg, hi, I => by
    unfold tokS
    split
    · rename_i hlt
      split
      · rename_i h; exact tok_all ok g (i + 1) _ (by omega) (by omega) (tok_slash I hlt h)
      · rename_i h
        have hi0 : i ≠ 0 := by rintro rfl; rcases ok.head with h1 | h1; omega; exact h h1
        split
        · rename_i h2
          have ht := ok.tilde i hlt h2
          exact tok_all ok g (i + 2) _ (by omega) (by omega) (tok_tilde I hi0 h2 ht.2)
        · rename_i h2
          exact tok_all ok g (i + 1) _ (by omega) (by omega) (tok_byte I hi0 h h2)
    · have : i = p.size := by omega
      subst this; exact I
theorem toks_ok {p : ByteArray} (ok : PtrOk p) : TokI p p.size (toks p) := by
  refine tok_all ok p.size 0 [] (by omega) (by omega) ⟨by rw [sub_self]; rfl, by simp, by rw [lastSl, sub_self]; rfl, by simp, by simp, by simp⟩
end Go.Proofs.Ytokhmhbjbclcoaa
