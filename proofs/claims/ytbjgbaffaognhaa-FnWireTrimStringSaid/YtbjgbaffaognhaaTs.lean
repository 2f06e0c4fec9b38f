/- Where a string at the end of a text begins: the plain mathematics of taking it off. -/
import Derived.Test.YtbjgbaffaognhaaPl
namespace Go.Proofs.Ytbjgbaffaognhaa
open Go.RowKit

namespace St
variable {s : ByteArray}

/-- No quotation mark stands from i on ahead of j. -/
def Free (s : ByteArray) (i j : Nat) : Prop := ∀ k, i ≤ k → k < j → bAt s k ≠ 34
theorem Free.nil (s : ByteArray) (i : Nat) : Free s i i := fun k h1 h2 => absurd h2 (by omega)
theorem Free.trans {i j k : Nat} (h : Free s i j) (h' : Free s j k) : Free s i k := fun q h1 h2 => by
  by_cases e : q < j
  · exact h q h1 e
  · exact h' q (by omega) h2
theorem Free.one {i : Nat} (h : bAt s i ≠ 34) : Free s i (i + 1) := fun k h1 h2 => by
  have : k = i := by omega
  subst this; exact h

theorem andThen_true {p : Bool × St} {f : St → Bool × St} {σ' : St} (h : andThen p f = (true, σ')) : p.1 = true ∧ f p.2 = (true, σ') := by
  unfold andThen at h
  split at h
  · rename_i hp; exact ⟨hp, h⟩
  · cases h

theorem need_free {σ σ' : St} {x y : Int} (h : need s σ x y = (true, σ')) (hx : y < 34 ∨ 34 < x) : Free s σ.at_ σ'.at_ ∧ σ'.at_ = σ.at_ + 1 ∧ x ≤ bAt s σ.at_ ∧ bAt s σ.at_ ≤ y := by
  unfold need at h
  split at h
  · rename_i hc
    cases h
    exact ⟨Free.one (by omega), rfl, hc.2.1, hc.2.2⟩
  · cases h
theorem hex_free {σ σ' : St} {x y : Int} (h : hex s σ x y = (true, σ')) (hx : 0 ≤ x) : Free s σ.at_ σ'.at_ := by
  unfold hex at h
  split at h
  · cases h
  · rename_i hc
    cases h
    apply Free.one
    intro e
    rw [e] at hc
    have : hexV 34 = -1 := rfl
    omega
theorem free_then {σ σ' : St} {p : Bool × St} {f : St → Bool × St} (h : andThen p f = (true, σ')) (hp : p.1 = true → Free s σ.at_ p.2.at_) (hf : ∀ τ, f p.2 = (true, τ) → Free s p.2.at_ τ.at_) : Free s σ.at_ σ'.at_ := by
  obtain ⟨h1, h2⟩ := andThen_true h
  exact (hp h1).trans (hf _ h2)
theorem hexP {σ : St} {x y : Int} (hx : 0 ≤ x) : (hex s σ x y).1 = true → Free s σ.at_ (hex s σ x y).2.at_ := fun h =>
  hex_free (σ' := (hex s σ x y).2) (by rw [← h]) hx
theorem hex2_free {σ σ' : St} (h : hex2 s σ = (true, σ')) : Free s σ.at_ σ'.at_ :=
  free_then h (hexP (by omega)) fun _ h => hex_free h (by omega)
theorem hex3_free {σ σ' : St} (h : hex3 s σ = (true, σ')) : Free s σ.at_ σ'.at_ :=
  free_then h (hexP (by omega)) fun _ h => hex2_free h
theorem hex4_free {σ σ' : St} (h : hex4 s σ = (true, σ')) : Free s σ.at_ σ'.at_ :=
  free_then h (hexP (by omega)) fun _ h => hex3_free h
theorem unit_free {σ : St} {lo low : Bool} (h : (unit s lo low σ).1 = true) : Free s σ.at_ (unit s lo low σ).2.2.at_ := by
  unfold unit at h ⊢
  split
  · rename_i hl
    rw [if_pos hl] at h
    exact hex4_free (σ' := (hex4 s σ).2) (by rw [← (show (hex4 s σ).1 = true from h)])
  · rename_i hl
    rw [if_neg hl] at h
    dsimp only at h ⊢
    split
    · rename_i hp
      rw [if_pos hp] at h
      dsimp only at h ⊢
      refine (hexP (unitX_nonneg low) hp).trans ?_
      exact free_then (σ' := (andThen (hex s (hex s σ (unitX low) (unitY low)).2 (unitLo low) (unitHi low (hexV (bAt s σ.at_)))) fun σ => hex2 s σ).2) (by rw [← h]) (hexP (unitLo_nonneg low)) fun _ h => hex2_free h
    · rename_i hp
      rw [if_neg hp] at h
      exact absurd h (by simp)

/-- What an escape reads: one character, or no quotation mark. -/
theorem escape_free {σ σ' : St} {lo : Bool} (h : escape s lo σ = (true, σ')) : σ'.at_ = σ.at_ + 1 ∨ Free s σ.at_ σ'.at_ := by
  unfold escape at h
  dsimp only at h
  split at h
  · cases h; exact .inl rfl
  · split at h
    · rename_i hc
      right
      have h0 : Free s σ.at_ (σ.at_ + 1) := Free.one (by omega)
      split at h
      · rename_i hu
        rw [Bool.and_eq_true] at hu
        have h1 : Free s (σ.at_ + 1) (unit s lo false { σ with at_ := σ.at_ + 1 }).2.2.at_ := unit_free hu.1
        obtain ⟨a1, a2⟩ := andThen_true h
        obtain ⟨b1, b2⟩ := andThen_true a2
        have n1 := need_free (σ' := (need s (unit s lo false { σ with at_ := σ.at_ + 1 }).2.2 92 92).2) (by rw [← a1]) (.inr (by omega))
        have n2 := need_free (σ' := (need s (need s (unit s lo false { σ with at_ := σ.at_ + 1 }).2.2 92 92).2 117 117).2) (by rw [← b1]) (.inr (by omega))
        have n3 : (unit s lo true (need s (need s (unit s lo false { σ with at_ := σ.at_ + 1 }).2.2 92 92).2 117 117).2).1 = true := congrArg Prod.fst b2
        have n4 : (unit s lo true (need s (need s (unit s lo false { σ with at_ := σ.at_ + 1 }).2.2 92 92).2 117 117).2).2.2 = σ' := congrArg Prod.snd b2
        have n5 := unit_free n3
        rw [n4] at n5
        exact (((h0.trans h1).trans n1.1).trans n2.1).trans n5
      · have h1 : (unit s lo false { σ with at_ := σ.at_ + 1 }).1 = true := congrArg Prod.fst h
        have h2 : (unit s lo false { σ with at_ := σ.at_ + 1 }).2.2 = σ' := congrArg Prod.snd h
        have h3 : Free s (σ.at_ + 1) (unit s lo false { σ with at_ := σ.at_ + 1 }).2.2.at_ := unit_free h1
        rw [h2] at h3
        exact h0.trans h3
    · cases h

theorem rune_free {σ σ' : St} (h : rune s σ = (true, σ')) : Free s σ.at_ σ'.at_ := by
  unfold rune at h
  dsimp only at h
  have key : ∀ {τ τ' : St} {x y : Int}, need s τ x y = (true, τ') → 128 ≤ x → Free s τ.at_ τ'.at_ := fun h hx => (need_free h (.inr (by omega))).1
  have nt : ∀ {τ : St} {x y : Int}, (need s τ x y).1 = true → need s τ x y = (true, (need s τ x y).2) := fun h => by rw [← h]
  split at h
  · rename_i hc
    exact (Free.one (i := σ.at_) (by omega)).trans (key h (by omega))
  · split at h
    · rename_i hc
      obtain ⟨a1, a2⟩ := andThen_true h
      exact ((Free.one (i := σ.at_) (by omega)).trans (key (nt a1) (by split <;> omega))).trans (key a2 (by omega))
    · split at h
      · rename_i hc
        obtain ⟨a1, a2⟩ := andThen_true h
        obtain ⟨b1, b2⟩ := andThen_true a2
        exact (((Free.one (i := σ.at_) (by omega)).trans (key (nt a1) (by split <;> omega))).trans (key (nt b1) (by omega))).trans (key b2 (by omega))
      · cases h

/-- Each quotation mark from 1 on ahead of i has a backslash ahead of it. -/
def Quo (s : ByteArray) (i : Nat) : Prop := ∀ j, 1 ≤ j → j < i → bAt s j = 34 → bAt s (j - 1) = 92

theorem Quo.free {i j : Nat} (h : Quo s i) (h' : Free s i j) : Quo s j := fun k h1 h2 h3 => by
  by_cases e : k < i
  · exact h k h1 e h3
  · exact absurd h3 (h' k (by omega) h2)

theorem inner_quo {σ σ' : St} {lo : Bool} (h : inner s lo σ = (true, σ')) (h34 : bAt s σ.at_ ≠ 34) (hq : Quo s σ.at_) : Quo s σ'.at_ := by
  unfold inner at h
  dsimp only at h
  split at h
  · rename_i hc
    have h1 : Quo s (σ.at_ + 1) := hq.free (Free.one (by omega))
    rcases escape_free h with e | e
    · dsimp only at e
      rw [e]
      intro j g1 g2 g3
      by_cases ej : j = σ.at_ + 1
      · subst ej; rw [Nat.add_sub_cancel]; exact hc
      · exact h1 j g1 (by omega) g3
    · exact h1.free e
  · split at h
    · cases h
    · split at h
      · cases h; exact hq.free (Free.one h34)
      · exact hq.free (rune_free h)

theorem strLoop_quo (lo : Bool) : ∀ (n : Nat) (σ σ' : St), strLoop s lo n σ = (true, σ') → Quo s σ.at_ → Quo s σ'.at_ ∧ bAt s σ'.at_ = 34 ∧ σ'.at_ < s.size
  | 0, σ, σ', h, _ => by unfold strLoop at h; cases h
  | n + 1, σ, σ', h, hq => by
    unfold strLoop at h
    split at h
    · rename_i hl
      split at h
      · rename_i h34
        cases h; exact ⟨hq, h34, hl⟩
      · rename_i h34
        obtain ⟨a1, a2⟩ := andThen_true h
        exact strLoop_quo lo n _ _ a2 (inner_quo (σ' := (inner s lo σ).2) (by rw [← a1]) h34 hq)
    · cases h

theorem quoted_quo {lo : Bool} {σ' : St} (h : quoted s lo ⟨0, 0, false⟩ = (true, σ')) : Quo s σ'.at_ ∧ bAt s σ'.at_ = 34 ∧ σ'.at_ < s.size ∧ bAt s 0 = 34 ∧ 1 ≤ σ'.at_ := by
  unfold quoted at h
  obtain ⟨a1, a2⟩ := andThen_true h
  have hn : need s ⟨0, 0, false⟩ 34 34 = (true, ⟨1, 0, false⟩) ∧ bAt s 0 = 34 ∧ 0 < s.size := by
    unfold need at a1 ⊢
    split at a1
    · rename_i hc
      rw [if_pos hc]
      exact ⟨rfl, by have := hc.2.1; have := hc.2.2; dsimp only at *; omega, hc.1⟩
    · cases a1
  rw [hn.1] at a2
  have hq : Quo s (1 : Nat) := fun j g1 g2 => absurd g2 (by omega)
  obtain ⟨b1, b2, b3⟩ := strLoop_quo lo _ _ _ a2 hq
  have ad := (strLoop_adv (s := s) lo (s.size - 1) ⟨1, 0, false⟩ (show (1 : Nat) ≤ s.size by omega)).1
  have e : (strLoop s lo (s.size - 1) ⟨1, 0, false⟩).2 = σ' := by
    have : strLoop s lo (s.size - 1) ⟨1, 0, false⟩ = (true, σ') := a2
    rw [this]
  rw [e] at ad
  exact ⟨b1, b2, b3, hn.2.1, ad⟩
end St

/-- Where taking off stops. -/
def tsLoop (s : ByteArray) : Nat → Nat
  | 0 => 0
  | 1 => 1
  | k + 2 => if bAt s (k + 1) = 34 ∧ bAt s k ≠ 92 then k + 2 else tsLoop s (k + 1)
def tsHead (s : ByteArray) : Nat := if 0 < s.size ∧ bAt s (s.size - 1) = 34 then s.size - 1 else s.size
def tsTail (s : ByteArray) (k : Nat) : Nat := if 0 < k ∧ bAt s (k - 1) = 34 then k - 1 else k
def trimN (s : ByteArray) : Nat := tsTail s (tsLoop s (tsHead s))

theorem tsLoop_le (s : ByteArray) : ∀ k, tsLoop s k ≤ k
  | 0 => Nat.le_refl _
  | 1 => Nat.le_refl _
  | k + 2 => by unfold tsLoop; split; exact Nat.le_refl _; have := tsLoop_le s (k + 1); omega

theorem bAt_app_l (a t : ByteArray) (i : Nat) (h : i < a.size) : bAt (a ++ t) i = bAt a i := by
  rw [bAt_lt h, bAt_lt (show i < (a ++ t).size by rw [ByteArray.size_append]; omega)]
  rw [ByteArray.getElem_append_left h]
theorem bAt_app_r (a t : ByteArray) (i : Nat) : bAt (a ++ t) (a.size + i) = bAt t i := by
  by_cases h : i < t.size
  · rw [bAt_lt h, bAt_lt (show a.size + i < (a ++ t).size by rw [ByteArray.size_append]; omega)]
    rw [ByteArray.getElem_append_right (by omega)]
    simp
  · rw [bAt_ge h, bAt_ge (by rw [ByteArray.size_append]; omega)]

/-- A string behind a text is taken off. -/
theorem trim_join (a t : ByteArray) (σ' : St) (h : St.quoted t false ⟨0, 0, false⟩ = (true, σ')) (hn : σ'.at_ + 1 = t.size)
    (ha : a.size = 0 ∨ (bAt a (a.size - 1) ≠ 92 ∧ 0 < a.size)) : trimN (a ++ t) = a.size := by
  obtain ⟨q1, q2, q3, q4, q5⟩ := St.quoted_quo h
  have hsz : (a ++ t).size = a.size + t.size := ByteArray.size_append
  have hh : tsHead (a ++ t) = a.size + σ'.at_ := by
    unfold tsHead
    rw [if_pos]
    · omega
    · refine ⟨by omega, ?_⟩
      rw [hsz, show a.size + t.size - 1 = a.size + σ'.at_ by omega, bAt_app_r]
      exact q2
  have hl : ∀ k, 1 ≤ k → k ≤ σ'.at_ → tsLoop (a ++ t) (a.size + k) = a.size + 1 := by
    intro k
    induction k with
    | zero => intro h1; omega
    | succ k ih =>
      intro _ h2
      by_cases hk : k = 0
      · subst hk
        rcases ha with h0 | ⟨h0, h1⟩
        · rw [h0]; rfl
        · obtain ⟨m, hm⟩ : ∃ m, a.size = m + 1 := ⟨a.size - 1, by omega⟩
          have e1 : bAt (a ++ t) (m + 1) = 34 := by rw [show m + 1 = a.size + 0 by omega, bAt_app_r]; exact q4
          have e2 : bAt (a ++ t) m ≠ 92 := by
            rw [bAt_app_l a t m (by omega)]
            rw [show a.size - 1 = m by omega] at h0
            exact h0
          have e3 : tsLoop (a ++ t) (m + 2) = m + 2 := by rw [tsLoop, if_pos ⟨e1, e2⟩]
          have e4 : a.size + (0 + 1) = m + 2 := by omega
          rw [e4, e3]
      · obtain ⟨m, hm⟩ : ∃ m, k = m + 1 := ⟨k - 1, by omega⟩
        rw [show a.size + (k + 1) = (a.size + m) + 2 by omega, tsLoop, if_neg]
        · rw [show a.size + m + 1 = a.size + k by omega]
          exact ih (by omega) (by omega)
        · rintro ⟨e1, e2⟩
          rw [show a.size + m + 1 = a.size + k by omega, bAt_app_r] at e1
          rw [bAt_app_r] at e2
          exact e2 (by have := q1 k (by omega) (by omega) e1; rwa [show k - 1 = m by omega] at this)
  unfold trimN
  rw [hh, hl σ'.at_ q5 (Nat.le_refl _)]
  unfold tsTail
  rw [if_pos]
  · omega
  · refine ⟨by omega, ?_⟩
    rw [show a.size + 1 - 1 = a.size + 0 by omega, bAt_app_r]; exact q4
end Go.Proofs.Ytbjgbaffaognhaa
