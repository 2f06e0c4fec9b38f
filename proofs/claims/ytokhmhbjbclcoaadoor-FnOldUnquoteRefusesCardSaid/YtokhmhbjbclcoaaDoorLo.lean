/- What a loose reader takes between quotation marks, step by step: the plain mathematics. No program in sight. -/
import Derived.Test.YtokhmhbjbclcoaaDoorUj
namespace Go.Proofs.YtokhmhbjbclcoaaDoor
set_option linter.unusedVariables false
set_option linter.unusedSimpArgs false
open Go.RowKit

/-- From n to m by steps that a loose reader takes. -/
inductive Lo (s : ByteArray) : Nat → Nat → Prop
  | nil (n : Nat) : Lo s n n
  | plain {n m : Nat} (h34 : bAt s n ≠ 34) (h92 : bAt s n ≠ 92) (h32 : 32 ≤ bAt s n) (r : Lo s (n + 1) m) : Lo s n m
  | esc {n m : Nat} (h92 : bAt s n = 92) (hc : 0 ≤ escC (bAt s (n + 1))) (r : Lo s (n + 2) m) : Lo s n m
  | unit {n m : Nat} (h92 : bAt s n = 92) (h117 : bAt s (n + 1) = 117) (hx : hexAll s (n + 2) 4 = true) (r : Lo s (n + 6) m) : Lo s n m
theorem Lo.le {s : ByteArray} {n m : Nat} (h : Lo s n m) : n ≤ m := by
  induction h with
  | nil => exact Nat.le_refl _
  | plain _ _ _ _ ih => omega
  | esc _ _ _ ih => omega
  | unit _ _ _ _ ih => omega
theorem Lo.app {s : ByteArray} {n m p : Nat} (h : Lo s n m) (k : Lo s m p) : Lo s n p := by
  induction h with
  | nil => exact k
  | plain a b c _ ih => exact .plain a b c (ih k)
  | esc a b _ ih => exact .esc a b (ih k)
  | unit a b c _ ih => exact .unit a b c (ih k)
theorem Lo.plains {s : ByteArray} {n : Nat} : ∀ d, (∀ j, j < d → 128 ≤ bAt s (n + j)) → Lo s n (n + d)
  | 0, _ => .nil n
  | d + 1, h => (Lo.plains d (fun j hj => h j (by omega))).app (.plain (by have := h d (by omega); omega) (by have := h d (by omega); omega) (by have := h d (by omega); omega) (.nil _))
theorem bAt_in {s : ByteArray} {n : Nat} (h : bAt s n ≠ 0) : n < s.size := by
  by_cases hl : n < s.size
  · exact hl
  · exact absurd (bAt_ge hl) h
theorem hexAll_dig {s : ByteArray} {i : Nat} : ∀ k j, hexAll s i k = true → j < k → 0 ≤ hexV (bAt s (i + j))
  | 0, j, _, h => by omega
  | k + 1, j, h, hj => by
    unfold hexAll at h
    rw [Bool.and_eq_true, decide_eq_true_eq] at h
    by_cases e : j = k
    · subst e; exact h.2
    · exact hexAll_dig k j h.1 (by omega)
theorem hex4_loose {s : ByteArray} {n : Nat} {f : Int} {p : Bool} (h : hexAll s n 4 = true) : St.hex4 s ⟨n, f, p⟩ = (true, ⟨n + 4, f, p⟩) := by
  have d : ∀ j, j < 4 → ¬ (hexV (bAt s (n + j)) < 0 ∨ 15 < hexV (bAt s (n + j))) := fun j hj => by
    have h1 := hexAll_dig 4 j h hj
    have h2 := hexV_bd (bAt s (n + j))
    omega
  have d0 := d 0 (by omega)
  have d1 := d 1 (by omega)
  have d2 := d 2 (by omega)
  have d3 := d 3 (by omega)
  unfold St.hex4 St.hex3 St.hex2 St.hex St.andThen
  rw [Nat.add_zero] at d0
  simp only [d0, d1, d2, d3, if_false, if_true, Nat.add_assoc]
theorem escC_cases {e : Int} (h : 0 ≤ escC e) (h0 : 0 ≤ e) : e = 34 ∨ e = 92 ∨ e = 47 ∨ e = 98 ∨ e = 102 ∨ e = 110 ∨ e = 114 ∨ e = 116 := by
  unfold escC at h
  repeat' split at h
  all_goals omega
theorem Lo.loop {s : ByteArray} {n m : Nat} (h : Lo s n m) (hm : m < s.size) (h34 : bAt s m = 34) : ∀ (g : Nat) (f : Int) (p : Bool), s.size - n ≤ g → St.strLoop s true g ⟨n, f, p⟩ = (true, ⟨m, f, p⟩) := by
  induction h with
  | nil n =>
    intro g f p hg
    obtain ⟨g', rfl⟩ : ∃ g', g = g' + 1 := ⟨g - 1, by omega⟩
    unfold St.strLoop
    rw [if_pos hm, if_pos h34]
  | @plain n m a b c r ih =>
    intro g f p hg
    have hle := r.le
    obtain ⟨g', rfl⟩ : ∃ g', g = g' + 1 := ⟨g - 1, by omega⟩
    unfold St.strLoop
    have e : St.inner s true ⟨n, f, p⟩ = (true, ⟨n + 1, f, p⟩) := by
      unfold St.inner
      dsimp only
      rw [if_neg b, if_neg (by omega), if_pos (.inr rfl)]
    rw [if_pos (show n < s.size by omega), if_neg a, e]
    exact ih hm h34 g' f p (by omega)
  | @esc n m a b r ih =>
    intro g f p hg
    have hle := r.le
    obtain ⟨g', rfl⟩ : ∃ g', g = g' + 1 := ⟨g - 1, by omega⟩
    unfold St.strLoop
    have e : St.inner s true ⟨n, f, p⟩ = (true, ⟨n + 2, f, p⟩) := by
      unfold St.inner
      dsimp only
      rw [if_pos a]
      unfold St.escape
      dsimp only
      rw [if_pos (escC_cases b (bAt_nonneg _ _))]
    rw [if_pos (show n < s.size by omega), if_neg (show ¬ bAt s n = 34 by omega), e]
    exact ih hm h34 g' f p (by omega)
  | @unit n m a b c r ih =>
    intro g f p hg
    have hle := r.le
    obtain ⟨g', rfl⟩ : ∃ g', g = g' + 1 := ⟨g - 1, by omega⟩
    unfold St.strLoop
    have e : St.inner s true ⟨n, f, p⟩ = (true, ⟨n + 6, f, p⟩) := by
      unfold St.inner
      dsimp only
      rw [if_pos a]
      unfold St.escape
      dsimp only
      rw [if_neg (by omega), if_pos b]
      have e2 : St.unit s true false ⟨n + 1 + 1, f, p⟩ = (true, false, ⟨n + 6, f, p⟩) := by
        unfold St.unit
        rw [if_pos rfl, hex4_loose (n := n + 1 + 1) c]
      rw [e2]
      rfl
    rw [if_pos (show n < s.size by omega), if_neg (show ¬ bAt s n = 34 by omega), e]
    exact ih hm h34 g' f p (by omega)
/-- A text that stands so between two quotation marks is taken by loose rules. -/
theorem lo_taken {s : ByteArray} (h2 : 2 ≤ s.size) (h0 : bAt s 0 = 34) (hl : bAt s (s.size - 1) = 34) (r : Lo s 1 (s.size - 1)) : (psQ s true).fault = 0 := by
  have hn0 : St.need s ⟨0, 0, false⟩ 34 34 = (true, ⟨1, 0, false⟩) := by
    unfold St.need
    rw [if_pos ⟨by dsimp only; omega, by rw [h0]; decide, by rw [h0]; decide⟩]
  have hq : St.quoted s true ⟨0, 0, false⟩ = (true, ⟨s.size - 1, 0, false⟩) := by
    unfold St.quoted
    rw [hn0]
    exact r.loop (by omega) hl _ _ _ (by dsimp only; omega)
  have hn : St.need s ⟨s.size - 1, 0, false⟩ 34 34 = (true, ⟨s.size, 0, false⟩) := by
    unfold St.need
    rw [if_pos ⟨by dsimp only; omega, by rw [hl]; decide, by rw [hl]; decide⟩]
    rw [show s.size - 1 + 1 = s.size by omega]
  have hsc : scQ s true ⟨0, 0, false⟩ = (true, ⟨s.size, 0, false⟩) := by unfold scQ; rw [hq]; exact hn
  unfold psQ
  rw [hsc]
  dsimp only
  rw [if_pos rfl, space_eq]
  dsimp only
  have hs2 := (spEnd_le s (s.size - s.size) s.size (by omega)).1
  rw [if_neg (by omega)]
/-- What is taken within a text is taken where it stands. -/
theorem Lo.shift {s t : ByteArray} {k : Nat} (hS : ∀ i, i < t.size → bAt t i = bAt s (i + k)) {n m : Nat} (h : Lo t n m) : Lo s (n + k) (m + k) := by
  induction h with
  | nil n => exact .nil _
  | @plain n m a b c r ih =>
    have h1 := hS n (bAt_in (by omega))
    rw [h1] at a b c
    exact .plain a b c (by rw [show n + k + 1 = n + 1 + k by omega]; exact ih)
  | @esc n m a b r ih =>
    have h1 := hS n (bAt_in (by omega))
    have h2 := hS (n + 1) (bAt_in (by rcases escC_cases b (bAt_nonneg _ _) with h | h | h | h | h | h | h | h <;> omega))
    rw [h1] at a
    rw [h2] at b
    exact .esc a (by rw [show n + k + 1 = n + 1 + k by omega]; exact b) (by rw [show n + k + 2 = n + 2 + k by omega]; exact ih)
  | @unit n m a b c r ih =>
    have h1 := hS n (bAt_in (by omega))
    have h2 := hS (n + 1) (bAt_in (by omega))
    rw [h1] at a
    rw [h2] at b
    refine .unit a (by rw [show n + k + 1 = n + 1 + k by omega]; exact b) ?_ (by rw [show n + k + 6 = n + 6 + k by omega]; exact ih)
    rw [(hexAll_same (s := t) (t := s) (i := n + 2) (j := n + k + 2) 4 (fun a ha => by
      have h3 := hexAll_dig 4 a c ha
      have h4 := hS (n + 2 + a) (bAt_in (fun e => by rw [e] at h3; simp [hexV] at h3))
      rw [h4]; congr 1; omega)).1]
    exact c
end Go.Proofs.YtokhmhbjbclcoaaDoor
