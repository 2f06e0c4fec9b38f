/- The automaton's invariants, and what it says of a whole text. -/
import Derived.Test.YtjbffgjclnjkoaaGreatDoorSa
namespace Go.Proofs.YtjbffgjclnjkoaaGreatDoor
set_option linter.unusedVariables false
set_option linter.unusedSimpArgs false

structure Inv (σ : Sc) : Prop where
  er : σ.q = .er → σ.bad = true
  bs : σ.q = .bsE → σ.stk ≠ []
structure Ok (n : Nat) (r : Int × Sc) : Prop where
  inv : Inv r.2
  err : r.1 = 11 → r.2.bad = true
  len : r.2.stk.length ≤ n + 1
theorem inv0 : Inv sc0 := ⟨fun h => (by cases h), fun h => (by cases h)⟩
theorem ok_err {σ : Sc} : Ok σ.stk.length σ.err := ⟨⟨fun _ => rfl, fun h => (by cases h)⟩, fun _ => rfl, Nat.le_succ _⟩
theorem ok_to {σ : Sc} (k : Int) (q : Sq) (hk : k ≠ 11) (h1 : q ≠ .er) (h2 : q ≠ .bsE) : Ok σ.stk.length (σ.to k q) := ⟨⟨fun h => absurd h h1, fun h => absurd h h2⟩, fun h => absurd h hk, Nat.le_succ _⟩
theorem ok_id {σ : Sc} (h : Inv σ) (k : Int) (hk : k ≠ 11) : Ok σ.stk.length (k, σ) := ⟨h, fun h => absurd h hk, Nat.le_succ _⟩
theorem ok_pop {σ : Sc} (h : Inv σ) (k : Int) (hk : k ≠ 11) : Ok σ.stk.length (k, σ.pop) := by
  obtain ⟨q, t, s, d⟩ := σ
  rcases s with _ | ⟨a, _ | ⟨b, r⟩⟩
  · exact ok_id h k hk
  · exact ⟨⟨fun h => (by cases h), fun h => (by cases h)⟩, fun h => absurd h hk, by simp [Sc.pop]⟩
  · exact ⟨⟨fun h => (by cases h), fun h => (by cases h)⟩, fun h => absurd h hk, by simp [Sc.pop]⟩
theorem ok_top {σ : Sc} (h : Inv σ) (c : Int) : Ok σ.stk.length (topQ σ c) := by
  unfold topQ
  split
  · exact ok_id h 10 (by decide)
  · exact ⟨⟨fun _ => rfl, fun h => (by cases h)⟩, fun h => (by cases h), Nat.le_succ _⟩
theorem ok_end {σ : Sc} (h : Inv σ) (c : Int) : Ok σ.stk.length (endQ σ c) := by
  unfold endQ
  split
  · exact ok_top (σ := { σ with q := .et, top := true }) ⟨fun h => (by cases h), fun h => (by cases h)⟩ c
  · rename_i k r hs
    have hn : σ.stk.length = r.length + 1 := by rw [hs]; rfl
    repeat' split
    all_goals first
      | exact ok_to _ _ (by decide) nofun nofun
      | exact ok_err
      | exact ok_pop h _ (by decide)
      | exact ⟨⟨fun h => (by cases h), fun h => (by cases h)⟩, fun h => (by cases h), by simp [hn]⟩
theorem ok_bv {σ : Sc} (h : Inv σ) (c : Int) : Ok σ.stk.length (bvQ σ c) := by
  unfold bvQ
  repeat' split
  all_goals first
    | exact ok_id h _ (by decide)
    | exact ok_to _ _ (by decide) nofun nofun
    | exact ok_err
    | exact ⟨⟨fun h => (by cases h), fun h => (by simp [Sc.pushed])⟩, fun h => (by cases h), by simp [Sc.pushed]⟩
theorem ok_bs {σ : Sc} (h : Inv σ) (c : Int) : Ok σ.stk.length (bsQ σ c) := by
  unfold bsQ
  repeat' split
  all_goals first
    | exact ok_id h _ (by decide)
    | exact ok_to _ _ (by decide) nofun nofun
    | exact ok_err
theorem ok_step {σ : Sc} (h : Inv σ) (c : Int) : Ok σ.stk.length (stepQ σ c) := by
  have hE := ok_end h c
  have hT := ok_top h c
  have hV := ok_bv h c
  have hS := ok_bs h c
  obtain ⟨q, t, s, d⟩ := σ
  have hH : ∀ q', q' ≠ Sq.er → q' ≠ Sq.bsE → Ok s.length (hexQ ⟨q, t, s, d⟩ c q') := fun q' h1 h2 => by
    unfold hexQ
    split
    · exact ok_to (σ := ⟨q, t, s, d⟩) _ _ (by decide) h1 h2
    · exact ok_err (σ := ⟨q, t, s, d⟩)
  have hL : ∀ x q', q' ≠ Sq.er → q' ≠ Sq.bsE → Ok s.length (litQ ⟨q, t, s, d⟩ c x q') := fun x q' h1 h2 => by
    unfold litQ
    split
    · exact ok_to (σ := ⟨q, t, s, d⟩) _ _ (by decide) h1 h2
    · exact ok_err (σ := ⟨q, t, s, d⟩)
  have h0 : Ok s.length (s0Q ⟨q, t, s, d⟩ c) := by
    unfold s0Q
    repeat' split
    all_goals first
      | exact ok_to (σ := ⟨q, t, s, d⟩) _ _ (by decide) nofun nofun
      | exact hE
  have hG : Ok s.length (esgQ ⟨q, t, s, d⟩ c) := by
    unfold esgQ
    split
    · exact ok_to (σ := ⟨q, t, s, d⟩) _ _ (by decide) nofun nofun
    · exact ok_err (σ := ⟨q, t, s, d⟩)
  cases q
  case bv => exact hV
  case bvE =>
    show Ok s.length (bvEQ _ c)
    unfold bvEQ
    repeat' split
    · exact ok_id h _ (by decide)
    · exact hE
    · exact hV
  case bsE =>
    show Ok s.length (bsEQ _ c)
    unfold bsEQ
    repeat' split
    · exact ok_id h _ (by decide)
    · have hne := h.bs rfl
      cases s with
      | nil => exact absurd rfl hne
      | cons a r => exact ok_end (σ := ⟨.bsE, t, 1 :: r, d⟩) ⟨fun h => (by cases h), fun _ => (by simp)⟩ c
    · exact hS
  case bs => exact hS
  case ev => exact hE
  case et => exact hT
  case u0 => exact hH _ nofun nofun
  case u1 => exact hH _ nofun nofun
  case u2 => exact hH _ nofun nofun
  case u3 => exact hH _ nofun nofun
  case t1 => exact hL _ _ nofun nofun
  case t2 => exact hL _ _ nofun nofun
  case t3 => exact hL _ _ nofun nofun
  case f1 => exact hL _ _ nofun nofun
  case f2 => exact hL _ _ nofun nofun
  case f3 => exact hL _ _ nofun nofun
  case f4 => exact hL _ _ nofun nofun
  case n1 => exact hL _ _ nofun nofun
  case n2 => exact hL _ _ nofun nofun
  case n3 => exact hL _ _ nofun nofun
  case s0 => exact h0
  case esg => exact hG
  case er => exact ⟨h, fun _ => h.er rfl, Nat.le_succ _⟩
  case str =>
    show Ok s.length (strQ _ c)
    unfold strQ
    repeat' split
    all_goals first
      | exact ok_to (σ := ⟨_, t, s, d⟩) _ _ (by decide) nofun nofun
      | exact ok_err (σ := ⟨_, t, s, d⟩)
      | exact ok_id h _ (by decide)
  case esc =>
    show Ok s.length (escQ _ c)
    unfold escQ
    repeat' split
    all_goals first
      | exact ok_to (σ := ⟨_, t, s, d⟩) _ _ (by decide) nofun nofun
      | exact ok_err (σ := ⟨_, t, s, d⟩)
  case neg =>
    show Ok s.length (negQ _ c)
    unfold negQ
    repeat' split
    all_goals first
      | exact ok_to (σ := ⟨_, t, s, d⟩) _ _ (by decide) nofun nofun
      | exact ok_err (σ := ⟨_, t, s, d⟩)
  case s1 =>
    show Ok s.length (s1Q _ c)
    unfold s1Q
    split
    · exact ok_to (σ := ⟨_, t, s, d⟩) _ _ (by decide) nofun nofun
    · exact h0
  case dot =>
    show Ok s.length (dotQ _ c)
    unfold dotQ
    split
    · exact ok_to (σ := ⟨_, t, s, d⟩) _ _ (by decide) nofun nofun
    · exact ok_err (σ := ⟨_, t, s, d⟩)
  case dot0 =>
    show Ok s.length (dot0Q _ c)
    unfold dot0Q
    repeat' split
    all_goals first
      | exact ok_to (σ := ⟨_, t, s, d⟩) _ _ (by decide) nofun nofun
      | exact ok_id h _ (by decide)
      | exact hE
  case ee =>
    show Ok s.length (eeQ _ c)
    unfold eeQ
    split
    · exact ok_to (σ := ⟨_, t, s, d⟩) _ _ (by decide) nofun nofun
    · exact hG
  case e0 =>
    show Ok s.length (e0Q _ c)
    unfold e0Q
    repeat' split
    all_goals first
      | exact ok_id h _ (by decide)
      | exact hE
theorem eof_bad {σ : Sc} (h : (eofQ σ).1 = 11) : (eofQ σ).2.bad = true := by
  unfold eofQ at h ⊢
  split
  · assumption
  · split
    · rename_i h1 h2
      rw [if_neg h1, if_pos h2] at h
      cases h
    · split
      · rename_i h1 h2 h3
        rw [if_neg h1, if_neg h2, if_pos h3] at h
        cases h
      · rfl
theorem eof_len {σ : Sc} (h : Inv σ) : (eofQ σ).2.stk.length ≤ σ.stk.length + 1 := by
  have := (ok_step h 32).len
  unfold eofQ
  repeat' split
  all_goals first | exact this | exact Nat.le_succ _
/-- A text from a state on: it is a value's rest. -/
def validQ : Sc → List Int → Bool
  | σ, [] => (eofQ σ).1 != 11
  | σ, c :: l => if (stepQ σ c).1 = 11 then false else validQ (stepQ σ c).2 l
end Go.Proofs.YtjbffgjclnjkoaaGreatDoor
