/- Unquoting what a loose reader takes, and the reference's unquoting of the same: the plain mathematics, and the walk of spec.Encoded, unitAt, escaped, Decode. -/
import Derived.Test.YtokhmhbjbclcoaaDoorCp
import Derived.Test.YtokhmhbjbclcoaaDoorUj
import Derived.Test.YtokhmhbjbclcoaaDoorCb
import Derived.Test.YtokhmhbjbclcoaaDoorWd
import Derived.OwnWalk
import Derived.Deep.DeepCutAuto
namespace Go.Proofs.YtokhmhbjbclcoaaDoor
set_option linter.unusedVariables false
set_option linter.unusedSimpArgs false
open Go.RowKit

/-- From n to m by steps of unquoting; what they write, and whether something was wrong. -/
inductive LR (s : ByteArray) : Nat → Nat → List Int → Bool → Prop
  | nil (n : Nat) : LR s n n [] false
  | step {n m d : Nat} {o X : List Int} {b c : Bool} (h34 : bAt s n ≠ 34) (hu : uS s n = (o, d, b)) (hd : d ≠ 0) (hm : n + d ≤ m) (r : LR s (n + d) m X c) : LR s n m (o ++ X) (b || c)
theorem LR.le {s : ByteArray} {n m : Nat} {X : List Int} {b : Bool} (h : LR s n m X b) : n ≤ m := by
  induction h with
  | nil => exact Nat.le_refl _
  | step _ _ _ _ _ ih => omega
theorem LR.uO {s : ByteArray} {n m : Nat} {X : List Int} {b : Bool} (h : LR s n m X b) (hm : m < s.size) (h34 : bAt s m = 34) : ∀ g, s.size - n ≤ g → uO s g n = (X, b || decide (m + 1 < s.size)) := by
  induction h with
  | nil n =>
    intro g hg
    obtain ⟨g', rfl⟩ : ∃ g', g = g' + 1 := ⟨g - 1, by omega⟩
    rw [YtokhmhbjbclcoaaDoor.uO, if_pos hm, if_pos h34, Bool.false_or]
  | @step n m d o X b c h34' hu hd hm' r ih =>
    intro g hg
    obtain ⟨g', rfl⟩ : ∃ g', g = g' + 1 := ⟨g - 1, by omega⟩
    rw [YtokhmhbjbclcoaaDoor.uO, if_pos (by have := r.le; omega), if_neg h34', hu, if_neg hd, ih hm h34 g' (by omega), Bool.or_assoc]

theorem prefB_no {s : ByteArray} {i j m : Nat} (hj : j < m) (h6 : j < 6) (h : bAt s (i + j) = 34) : prefB true s i m = false := by
  cases hp : prefB true s i m
  · rfl
  · have := prefB_le hp (show j + 1 ≤ m by omega)
    unfold prefB at this
    rw [h] at this
    simp only [Bool.and_eq_true] at this
    have h2 := this.2
    unfold escAt at h2
    repeat' split at h2
    all_goals simp [hexV] at h2
    all_goals omega
theorem pair_units {s : ByteArray} {n : Nat} (h : pairR (hexPre s (n + 2) 4) (hexPre s (n + 8) 4) ≠ 65533) : 55296 ≤ hexPre s (n + 2) 4 ∧ hexPre s (n + 2) 4 < 56320 ∧ 56320 ≤ hexPre s (n + 8) 4 ∧ hexPre s (n + 8) 4 < 57344 := by
  unfold pairR at h
  split at h
  · assumption
  · exact absurd rfl h
theorem cO_ge {strict : Bool} {s : ByteArray} {m : Nat} : ∀ (g n : Nat), cO strict s g n = (m + 1, 0) → n ≤ m
  | 0, n, h => by unfold cO at h; cases h
  | g + 1, n, h => by
    unfold cO at h
    split at h
    · split at h
      · injection h with e _; omega
      · split at h
        · injection h with e _; omega
        · have := cO_ge g _ h; omega
    · cases h
/-- The next step of a loose reader that comes to an end at a quotation mark. -/
theorem lr_of {s : ByteArray} {m : Nat} (hm : m < s.size) (h34 : bAt s m = 34) : ∀ (k n g : Nat), m - n ≤ k → n ≤ m → cO false s g n = (m + 1, 0) → ∃ X b, LR s n m X b := by
  intro k
  induction k using Nat.strongRecOn with
  | _ k ih =>
  intro n g hk hn hc
  cases g with
  | zero => unfold cO at hc; cases hc
  | succ g =>
  rw [YtokhmhbjbclcoaaDoor.cO, if_pos (by omega)] at hc
  by_cases hq : bAt s n = 34
  · rw [if_pos hq] at hc
    injection hc with e _
    obtain rfl : n = m := by omega
    exact ⟨[], false, .nil _⟩
  rw [if_neg hq] at hc
  split at hc
  · cases hc
  rename_i hd0
  have hge := cO_ge _ _ hc
  -- a step of unquoting, as long as the reader's
  have go : ∀ (o : List Int) (d : Nat) (b : Bool), uS s n = (o, d, b) → d ≠ 0 → n + d ≤ m → (∃ g', cO false s g' (n + d) = (m + 1, 0)) → ∃ X b, LR s n m X b := fun o d b hu hd hle ⟨g', hc'⟩ => by
    obtain ⟨X, c, r⟩ := ih (m - (n + d)) (by omega) (n + d) g' (Nat.le_refl _) hle hc'
    exact ⟨_, _, .step hq hu hd hle r⟩
  by_cases h92 : bAt s n = 92
  · have hcE : cS false s n = cE false s n := by unfold cS; rw [if_pos h92]
    rw [hcE] at hc hge hd0
    have hu0 : uS s n = if s.size < n + 2 then ([], 0, true) else if 0 ≤ escC (bAt s (n + 1)) then ([escC (bAt s (n + 1))], 2, false) else if bAt s (n + 1) = 117 then uU s n else ([], 0, true) := by unfold uS; rw [if_pos h92]
    by_cases h2 : s.size < n + 2
    · exact absurd (by unfold cE; rw [if_pos h2]) hd0
    rw [if_neg h2] at hu0
    by_cases hes : 0 ≤ escC (bAt s (n + 1))
    · have e : cE false s n = (2, 0) := by unfold cE; rw [if_neg h2, if_pos hes]
      rw [e] at hc hge
      rw [if_pos hes] at hu0
      exact go _ 2 _ hu0 (by omega) hge ⟨_, hc⟩
    rw [if_neg hes] at hu0
    by_cases h117 : bAt s (n + 1) = 117
    · rw [if_pos h117] at hu0
      by_cases h6 : s.size < n + 6
      · exact absurd (by unfold cE; rw [if_neg h2, if_neg hes, if_pos h117, if_pos h6]) hd0
      cases ha : hexAll s (n + 2) 4
      · exact absurd (by unfold cE; rw [if_neg h2, if_neg hes, if_pos h117, if_neg h6, if_pos ha]) hd0
      have e : cE false s n = (6, 0) := by unfold cE; rw [if_neg h2, if_neg hes, if_pos h117, if_neg h6, if_neg (by rw [ha]; simp), Bool.false_and, if_neg (by simp)]
      rw [e] at hc hge
      dsimp only at hc hge
      have hu1 : uS s n = if surB (hexPre s (n + 2) 4) = false then (encU (hexPre s (n + 2) 4), 6, false) else if s.size < n + 12 then (if prefB true s (n + 6) (s.size - (n + 6)) = true then (brk, 0, true) else (brk, 6, true)) else if bAt s (n + 6) = 92 ∧ bAt s (n + 7) = 117 ∧ hexAll s (n + 8) 4 = true ∧ pairR (hexPre s (n + 2) 4) (hexPre s (n + 8) 4) ≠ 65533 then (encU (pairR (hexPre s (n + 2) 4) (hexPre s (n + 8) 4)), 12, false) else (brk, 6, true) := by
        rw [hu0]; unfold uU; rw [if_neg h6, if_neg (by rw [ha]; simp)]
      by_cases hs : surB (hexPre s (n + 2) 4) = false
      · rw [if_pos hs] at hu1
        exact go _ 6 _ hu1 (by omega) hge ⟨_, hc⟩
      rw [if_neg hs] at hu1
      by_cases h12 : s.size < n + 12
      · rw [if_pos h12, prefB_no (j := m - (n + 6)) (by omega) (by omega) (by rw [show n + 6 + (m - (n + 6)) = m by omega]; exact h34), if_neg (by simp)] at hu1
        exact go _ 6 _ hu1 (by omega) hge ⟨_, hc⟩
      rw [if_neg h12] at hu1
      by_cases hp : bAt s (n + 6) = 92 ∧ bAt s (n + 7) = 117 ∧ hexAll s (n + 8) 4 = true ∧ pairR (hexPre s (n + 2) 4) (hexPre s (n + 8) 4) ≠ 65533
      · rw [if_pos hp] at hu1
        obtain ⟨p1, p2, p3, p4⟩ := hp
        cases g with
        | zero => unfold cO at hc; cases hc
        | succ g =>
        rw [YtokhmhbjbclcoaaDoor.cO, if_pos (by omega), if_neg (by rw [p1]; decide)] at hc
        have e2 : cS false s (n + 6) = (6, 0) := by
          unfold cS cE
          rw [if_pos p1, if_neg (by omega), show n + 6 + 1 = n + 7 from rfl, p2, if_neg (by decide), if_pos rfl, if_neg (by omega), show n + 6 + 2 = n + 8 from rfl, p3, if_neg (by simp), Bool.false_and, if_neg (by simp)]
        rw [e2, if_neg (by decide)] at hc
        have hge2 := cO_ge _ _ hc
        exact go _ 12 _ hu1 (by omega) hge2 ⟨_, hc⟩
      · rw [if_neg hp] at hu1
        exact go _ 6 _ hu1 (by omega) hge ⟨_, hc⟩
    · exact absurd (by unfold cE; rw [if_neg h2, if_neg hes, if_neg h117]) hd0
  · by_cases h32 : bAt s n < 32
    · exact absurd (by unfold cS; rw [if_neg h92, if_pos h32]) hd0
    by_cases h128 : bAt s n < 128
    · have e : cS false s n = (1, 0) := by unfold cS; rw [if_neg h92, if_neg h32, if_pos h128]
      rw [e] at hc hge
      exact go [bAt s n] 1 false (by unfold uS; rw [if_neg h92, if_neg h32, if_pos h128]) (by omega) hge ⟨_, hc⟩
    by_cases hu : uw s n = 0
    · cases hf : fullB s n
      · exact absurd (by unfold cS; rw [if_neg h92, if_neg h32, if_neg h128, if_pos hu, if_pos hf]) hd0
      · have e : cS false s n = (1, 0) := by unfold cS; rw [if_neg h92, if_neg h32, if_neg h128, if_pos hu, if_neg (by rw [hf]; simp)]; rfl
        rw [e] at hc hge
        exact go brk 1 true (by unfold uS; rw [if_neg h92, if_neg h32, if_neg h128, if_pos hu, if_pos hf]) (by omega) hge ⟨_, hc⟩
    · have e : cS false s n = (uw s n, 0) := by unfold cS; rw [if_neg h92, if_neg h32, if_neg h128, if_neg hu]
      rw [e] at hc hge
      exact go _ (uw s n) _ (by unfold uS; rw [if_neg h92, if_neg h32, if_neg h128, if_neg hu]) hu hge ⟨_, hc⟩
/-- A text that is taken loosely. -/
theorem taken_lr {s : ByteArray} (h0 : bAt s 0 = 34) (hl : bAt s (s.size - 1) = 34) (hf : (psQ s true).fault = 0) : ∃ X b, 2 ≤ s.size ∧ LR s 1 (s.size - 1) X b := by
  have hz : 0 < s.size := by
    by_cases h : 0 < s.size
    · exact h
    · rw [bAt_ge h] at h0; cases h0
  obtain ⟨σ, hs, ha⟩ := taken_scQ hz hl hf
  obtain ⟨τ, h1, h2⟩ := then_ok hs
  obtain ⟨a1, _, _, rfl⟩ := need_ok h2
  dsimp only at ha
  have hsh : shP s false = (true, { τ with at_ := τ.at_ + 1 }) := by unfold shP; rw [show (!false) = true from rfl, h1]; rfl
  have hc := (shP_cq s false).1 (by rw [hsh])
  rw [hsh] at hc
  dsimp only at hc
  unfold cq at hc
  rw [if_neg (by omega), if_pos h0] at hc
  have hge := cO_ge _ _ hc
  obtain ⟨X, b, r⟩ := lr_of (m := τ.at_) (by omega) (by rw [show τ.at_ = s.size - 1 by omega]; exact hl) s.size 1 s.size (by omega) hge hc
  exact ⟨X, b, by omega, by rw [show s.size - 1 = τ.at_ by omega]; exact r⟩
theorem lr_uq {s : ByteArray} {X : List Int} {b : Bool} (h0 : bAt s 0 = 34) (hl : bAt s (s.size - 1) = 34) (h2 : 2 ≤ s.size) (r : LR s 1 (s.size - 1) X b) : uq s = (X, b) := by
  unfold uq
  rw [if_neg (by omega), if_pos h0, r.uO (by omega) hl s.size (by omega)]
  simp; omega
theorem uO_run {s : ByteArray} : ∀ (g n : Nat), (uO s g n).2 = false → ∃ X m, Run s n m X ∧ bAt s m = 34 ∧ m + 1 = s.size
  | 0, n, h => by unfold uO at h; cases h
  | g + 1, n, h => by
    unfold uO at h
    split at h
    · rename_i hl
      split at h
      · rename_i hq
        have : ¬ n + 1 < s.size := by simpa using h
        exact ⟨[], n, .nil n, hq, by omega⟩
      · rename_i hq
        split at h
        · cases h
        · rename_i hd
          obtain ⟨hb, h2⟩ := Bool.or_eq_false_iff.1 h
          obtain ⟨X, m, r, r1, r2⟩ := uO_run g _ h2
          obtain ⟨o, d, b, hu⟩ : ∃ o d b, uS s n = (o, d, b) := ⟨_, _, _, rfl⟩
          rw [hu] at hb hd r
          dsimp only at hb hd r
          subst hb
          exact ⟨_, m, .step hq hu hd r.le r, r1, r2⟩
    · cases h
theorem cSf_of_uS {s : ByteArray} {n d : Nat} {o : List Int} (hu : uS s n = (o, d, false)) (hd : d ≠ 0) : cS false s n = (d, 0) ∨ (d = 12 ∧ cS false s n = (6, 0) ∧ bAt s (n + 6) = 92 ∧ cS false s (n + 6) = (6, 0)) := by
  by_cases h92 : bAt s n = 92
  · have hu0 : uS s n = if s.size < n + 2 then ([], 0, true) else if 0 ≤ escC (bAt s (n + 1)) then ([escC (bAt s (n + 1))], 2, false) else if bAt s (n + 1) = 117 then uU s n else ([], 0, true) := by unfold uS; rw [if_pos h92]
    rw [hu0] at hu
    split at hu
    · cases hu
    rename_i h2
    split at hu
    · rename_i hes
      injection hu with _ e; injection e with e _
      exact .inl (by unfold cS cE; rw [if_pos h92, if_neg h2, if_pos hes, ← e])
    rename_i hes
    split at hu
    · rename_i h117
      unfold uU at hu
      split at hu
      · cases hu
      rename_i h6
      split at hu
      · cases hu
      rename_i ha
      have e6 : cS false s n = (6, 0) := by unfold cS cE; rw [if_pos h92, if_neg h2, if_neg hes, if_pos h117, if_neg h6, if_neg ha, Bool.false_and, if_neg (by simp)]
      split at hu
      · injection hu with _ e; injection e with e _
        exact .inl (by rw [e6, ← e])
      split at hu
      · split at hu <;> cases hu
      rename_i h12
      split at hu
      · rename_i hp
        obtain ⟨p1, p2, p3, p4⟩ := hp
        injection hu with _ e; injection e with e _
        refine .inr ⟨e.symm, e6, p1, ?_⟩
        unfold cS cE
        rw [if_pos p1, if_neg (by omega), show n + 6 + 1 = n + 7 from rfl, p2, if_neg (by decide), if_pos rfl, if_neg (by omega), show n + 6 + 2 = n + 8 from rfl, p3, if_neg (by simp), Bool.false_and, if_neg (by simp)]
      · cases hu
    · cases hu
  · unfold uS at hu
    rw [if_neg h92] at hu
    unfold cS
    rw [if_neg h92]
    split at hu
    · cases hu
    rename_i h32
    rw [if_neg h32]
    split at hu
    · rename_i h128
      injection hu with _ e; injection e with e _
      exact .inl (by rw [if_pos h128, ← e])
    rename_i h128
    rw [if_neg h128]
    split at hu
    · split at hu <;> cases hu
    · rename_i hw
      injection hu with _ e; injection e with e _
      exact .inl (by rw [if_neg hw, ← e])
theorem Run.cOf {s : ByteArray} {n m : Nat} {X : List Int} (h : Run s n m X) (hm : m < s.size) (h34 : bAt s m = 34) : ∀ g, s.size - n ≤ g → YtokhmhbjbclcoaaDoor.cO false s g n = (m + 1, 0) := by
  induction h with
  | nil n =>
    intro g hg
    obtain ⟨g', rfl⟩ : ∃ g', g = g' + 1 := ⟨g - 1, by omega⟩
    rw [YtokhmhbjbclcoaaDoor.cO, if_pos hm, if_pos h34]
  | @step n m d o X h34' hu hd hm' r ih =>
    intro g hg
    have hrl := r.le
    obtain ⟨g', rfl⟩ : ∃ g', g = g' + 1 := ⟨g - 1, by omega⟩
    rw [YtokhmhbjbclcoaaDoor.cO, if_pos (by omega), if_neg h34']
    rcases cSf_of_uS hu hd with e | ⟨rfl, e, e1, e2⟩
    · rw [e, if_neg hd, ih hm h34 g' (by omega)]
    · rw [e, if_neg (by decide)]
      obtain ⟨g2, rfl⟩ : ∃ g2, g' = g2 + 1 := ⟨g' - 1, by omega⟩
      rw [YtokhmhbjbclcoaaDoor.cO, if_pos (by omega), if_neg (by rw [e1]; decide), e2, if_neg (by decide)]
      exact ih hm h34 g2 (by omega)
/-- What is unquoted without a fault is taken loosely. -/
theorem uq_taken {s : ByteArray} (h : (uq s).2 = false) : bAt s 0 = 34 ∧ bAt s (s.size - 1) = 34 ∧ (psQ s true).fault = 0 := by
  unfold uq at h
  split at h
  · cases h
  rename_i hz
  split at h
  · rename_i h0
    obtain ⟨X, m, r, r1, r2⟩ := uO_run _ _ h
    have hge := r.le
    have hl : bAt s (s.size - 1) = 34 := by rw [show s.size - 1 = m by omega]; exact r1
    refine ⟨h0, hl, ?_⟩
    have hc : cq false s = (m + 1, 0) := by unfold cq; rw [if_neg hz, if_pos h0]; exact r.cOf (by omega) r1 _ (by omega)
    obtain ⟨c1, c2⟩ := shP_cq s false
    cases hp : (shP s false).1
    · have := (c2 hp).1; rw [hc] at this; exact absurd rfl this
    · have he := c1 hp
      rw [hc] at he
      injection he with he _
      unfold shP at hp he
      rw [show (!false) = true from rfl] at hp he
      dsimp only at hp he
      rw [if_pos hp] at he
      dsimp only at he
      obtain ⟨σ, hq⟩ : ∃ σ, St.quoted s true ⟨0, 0, false⟩ = (true, σ) := ⟨_, Prod.ext hp rfl⟩
      rw [hq] at he
      dsimp only at he
      have hft := (quoted_ft s true ⟨0, 0, false⟩).2 (by rw [hq])
      rw [hq] at hft
      dsimp only at hft
      have hn : St.need s σ 34 34 = (true, { σ with at_ := σ.at_ + 1 }) := by
        unfold St.need
        rw [if_pos ⟨by omega, by rw [show σ.at_ = m by omega, r1]; decide, by rw [show σ.at_ = m by omega, r1]; decide⟩]
      have hsc : scQ s true ⟨0, 0, false⟩ = (true, { σ with at_ := σ.at_ + 1 }) := by unfold scQ; rw [hq]; show St.need s σ 34 34 = _; exact hn
      unfold psQ
      rw [hsc]
      dsimp only
      rw [if_pos rfl, space_eq]
      dsimp only
      have hs2 := (spEnd_le s (s.size - (σ.at_ + 1)) (σ.at_ + 1) (by omega)).1
      rw [if_neg (by omega)]
      exact hft
  · cases h

def unitD (t : ByteArray) (k : Nat) : Int × Bool := if t.size < k + 6 then (0, false) else if bAt t k ≠ 92 then (0, false) else if bAt t (k + 1) ≠ 117 then (0, false) else if hexAll t (k + 2) 4 = false then (0, false) else (hexPre t (k + 2) 4, true)
def escD (t : ByteArray) (k : Nat) : List Int × Nat × Bool :=
  if bAt t (k + 1) = 117 then
    (if surB (unitD t k).1 = false then (encU (unitD t k).1, 6, true)
     else if (unitD t k).1 < 56320 ∧ (unitD t (k + 6)).2 = true ∧ 56320 ≤ (unitD t (k + 6)).1 ∧ (unitD t (k + 6)).1 ≤ 57343 then (encU (pairR (unitD t k).1 (unitD t (k + 6)).1), 12, true)
     else (brk, 6, false))
  else ([escC (bAt t (k + 1))], 2, true)
def dS (t : ByteArray) (k : Nat) : List Int × Nat × Bool :=
  if bAt t k = 92 then escD t k else if uw t k = 0 then (brk, 1, false) else (sub t k (k + uw t k), uw t k, true)
def dO (t : ByteArray) : Nat → Nat → List Int × Bool
  | 0, _ => ([], true)
  | g + 1, k => if k < t.size then ((dS t k).1 ++ (dO t g (k + (dS t k).2.1)).1, (dS t k).2.2 && (dO t g (k + (dS t k).2.1)).2) else ([], true)
/-- An escape that Decode may meet. -/
def EscOk (t : ByteArray) (k : Nat) : Prop := k + 1 < t.size ∧ (0 ≤ escC (bAt t (k + 1)) ∨ (bAt t (k + 1) = 117 ∧ (unitD t k).2 = true))

theorem unit_ofs {s t : ByteArray} {k : Nat} (hS : ∀ i, i < t.size → bAt t i = bAt s (i + 1)) (h6 : k + 6 ≤ t.size) : hexAll t (k + 2) 4 = hexAll s (k + 3) 4 ∧ hexPre t (k + 2) 4 = hexPre s (k + 3) 4 :=
  hexAll_same (s := s) (t := t) (i := k + 3) (j := k + 2) 4 fun a ha => by rw [hS _ (by omega), show k + 2 + a + 1 = k + 3 + a by omega]
theorem step_d {s t : ByteArray} (hS : ∀ i, i < t.size → bAt t i = bAt s (i + 1)) (hz : t.size + 2 ≤ s.size) {k d : Nat} {o : List Int} {b : Bool} (hu : uS s (k + 1) = (o, d, b)) (hd : d ≠ 0) (hf : k + d ≤ t.size) :
    dS t k = (o, d, !b) ∧ (bAt t k = 92 → EscOk t k) := by
  have h0 : bAt t k = bAt s (k + 1) := hS k (by omega)
  by_cases h92 : bAt s (k + 1) = 92
  · have h92t : bAt t k = 92 := by rw [h0]; exact h92
    have hu0 : uS s (k + 1) = if s.size < k + 1 + 2 then ([], 0, true) else if 0 ≤ escC (bAt s (k + 1 + 1)) then ([escC (bAt s (k + 1 + 1))], 2, false) else if bAt s (k + 1 + 1) = 117 then uU s (k + 1) else ([], 0, true) := by unfold uS; rw [if_pos h92]
    rw [hu0] at hu
    unfold dS
    rw [if_pos h92t]
    split at hu
    · injection hu with _ e; injection e with e _; exact absurd e.symm hd
    split at hu
    · rename_i hes
      injection hu with e1 e; injection e with e2 e3
      subst e1 e2 e3
      have h1 : bAt t (k + 1) = bAt s (k + 1 + 1) := hS (k + 1) (by omega)
      refine ⟨?_, fun _ => ⟨by omega, .inl (by rw [h1]; exact hes)⟩⟩
      unfold escD
      rw [if_neg (by rw [h1]; intro h; rw [h] at hes; revert hes; decide), h1]; rfl
    rename_i hes
    split at hu
    · rename_i h117
      have hd6 : 6 ≤ d := by
        unfold uU at hu
        repeat' split at hu
        all_goals (injection hu with _ e; injection e with e _; omega)
      have h1 : bAt t (k + 1) = 117 := by rw [hS (k + 1) (by omega)]; exact h117
      obtain ⟨ua, up⟩ := unit_ofs hS (k := k) (by omega)
      unfold uU at hu
      split at hu
      · injection hu with _ e; injection e with e _; exact absurd e.symm hd
      rename_i h6
      split at hu
      · injection hu with _ e; injection e with e _; exact absurd e.symm hd
      rename_i ha
      rw [show k + 1 + 2 = k + 3 from rfl] at ha hu
      have hU : unitD t k = (hexPre s (k + 3) 4, true) := by unfold unitD; rw [if_neg (by omega), if_neg (by rw [h92t]; simp), if_neg (by rw [h1]; simp), ua, if_neg ha, up]
      refine ⟨?_, fun _ => ⟨by omega, .inr ⟨h1, by rw [hU]⟩⟩⟩
      unfold escD
      rw [if_pos h1, hU]
      dsimp only
      split at hu
      · rename_i hs
        injection hu with e1 e; injection e with e2 e3
        rw [if_pos hs, e1, e2, ← e3]; rfl
      rename_i hs
      rw [if_neg hs]
      -- the second unit, if it is there, is the same in both
      have hV : ∀ V, unitD t (k + 6) = (V, true) → ¬ s.size < k + 1 + 12 ∧ bAt s (k + 1 + 6) = 92 ∧ bAt s (k + 1 + 7) = 117 ∧ hexAll s (k + 1 + 8) 4 = true ∧ hexPre s (k + 1 + 8) 4 = V := fun V h => by
        unfold unitD at h
        split at h
        · cases h
        rename_i q6
        split at h
        · cases h
        rename_i q92
        split at h
        · cases h
        rename_i q117
        split at h
        · cases h
        rename_i qa
        obtain ⟨va, vp⟩ := unit_ofs hS (k := k + 6) (by omega)
        injection h with h _
        refine ⟨by omega, ?_, ?_, ?_, ?_⟩
        · have := hS (k + 6) (by omega); rw [show k + 1 + 6 = k + 6 + 1 by omega, ← this]; simpa using q92
        · have := hS (k + 6 + 1) (by omega); rw [show k + 1 + 7 = k + 6 + 1 + 1 by omega, ← this]; simpa using q117
        · rw [show k + 1 + 8 = k + 6 + 3 by omega, ← va]; simpa using qa
        · rw [show k + 1 + 8 = k + 6 + 3 by omega, ← vp]; exact h
      have no : ∀ (hn : ¬ (¬ s.size < k + 1 + 12 ∧ bAt s (k + 1 + 6) = 92 ∧ bAt s (k + 1 + 7) = 117 ∧ hexAll s (k + 1 + 8) 4 = true ∧ pairR (hexPre s (k + 3) 4) (hexPre s (k + 1 + 8) 4) ≠ 65533)), ¬ (hexPre s (k + 3) 4 < 56320 ∧ (unitD t (k + 6)).2 = true ∧ 56320 ≤ (unitD t (k + 6)).1 ∧ (unitD t (k + 6)).1 ≤ 57343) := fun hn ⟨c1, c2, c3, c4⟩ => by
        obtain ⟨V, hVV⟩ : ∃ V, unitD t (k + 6) = (V, true) := ⟨_, Prod.ext rfl c2⟩
        obtain ⟨q1, q2, q3, q4, q5⟩ := hV V hVV
        rw [hVV] at c3 c4
        dsimp only at c3 c4
        refine hn ⟨q1, q2, q3, q4, ?_⟩
        have hs' : 55296 ≤ hexPre s (k + 3) 4 := by
          unfold surB at hs; simp at hs; exact hs.1
        rw [q5]
        unfold pairR
        rw [if_pos ⟨hs', c1, c3, by omega⟩]
        omega
      split at hu
      · rename_i h12
        split at hu
        · injection hu with _ e; injection e with e _; exact absurd e.symm hd
        · injection hu with e1 e; injection e with e2 e3
          rw [if_neg (no fun h => h.1 h12), e1, e2, ← e3]; rfl
      rename_i h12
      split at hu
      · rename_i hp
        obtain ⟨p1, p2, p3, p4⟩ := hp
        injection hu with e1 e; injection e with e2 e3
        have hp4 := p4
        rw [show k + 3 = k + 1 + 2 from rfl] at p4
        obtain ⟨b1, b2, b3, b4⟩ := pair_units (n := k + 1) p4
        obtain ⟨va, vp⟩ := unit_ofs hS (k := k + 6) (by omega)
        have g92 : bAt t (k + 6) = 92 := by rw [hS (k + 6) (by omega)]; exact p1
        have g117 : bAt t (k + 6 + 1) = 117 := by rw [hS (k + 6 + 1) (by omega)]; exact p2
        have hU2 : unitD t (k + 6) = (hexPre s (k + 1 + 8) 4, true) := by
          unfold unitD
          rw [if_neg (by omega), if_neg (by rw [g92]; simp), if_neg (by rw [g117]; simp), va, show k + 6 + 3 = k + 1 + 8 by omega, if_neg (by rw [p3]; simp), vp, show k + 6 + 3 = k + 1 + 8 by omega]
        rw [hU2]
        dsimp only
        rw [if_pos ⟨b2, rfl, b3, by omega⟩, e1, e2, ← e3]; rfl
      · rename_i hp
        injection hu with e1 e; injection e with e2 e3
        rw [if_neg (no fun h => hp h.2), e1, e2, ← e3]; rfl
    · injection hu with _ e; injection e with e _; exact absurd e.symm hd
  · have h92t : bAt t k ≠ 92 := by rw [h0]; exact h92
    refine ⟨?_, fun h => absurd h h92t⟩
    have hk : k < t.size := by omega
    have back : uw t k ≠ 0 → uw s (k + 1) = uw t k := fun hne => uw_same_at (s := t) (t := s) hne (fun i hi => by have := uw_fit t k hne; rw [hS _ (by omega)]; congr 1; omega) (by have := uw_fit t k hne; omega)
    unfold dS
    rw [if_neg h92t]
    unfold uS at hu
    rw [if_neg h92] at hu
    split at hu
    · injection hu with _ e; injection e with e _; exact absurd e.symm hd
    rename_i h32
    split at hu
    · rename_i h128
      injection hu with e1 e; injection e with e2 e3
      have hw := (uw_one t k hk).1 (by rw [h0]; exact h128)
      rw [hw, if_neg (by decide), sub_one, h0, e1, ← e3, e2]; rfl
    rename_i h128
    split at hu
    · rename_i hu0
      have hw : uw t k = 0 := by
        by_cases h : uw t k = 0
        · exact h
        · have := back h; omega
      split at hu
      · injection hu with e1 e; injection e with e2 e3
        rw [if_pos hw, e1, e2, ← e3]; rfl
      · injection hu with _ e; injection e with e _; exact absurd e.symm hd
    · rename_i hu0
      injection hu with e1 e; injection e with e2 e3
      have hw : uw t k = uw s (k + 1) := uw_same_at hu0 (fun i hi => by rw [hS _ (by omega)]; congr 1; omega) (by omega)
      have hsub : sub t k (k + uw t k) = sub s (k + 1) (k + 1 + uw s (k + 1)) := by
        rw [hw]
        unfold sub
        rw [Nat.add_sub_cancel_left, Nat.add_sub_cancel_left]
        apply List.map_congr_left
        intro a ha
        have : a < uw s (k + 1) := by simpa using ha
        rw [hS _ (by omega)]; congr 1; omega
      rw [if_neg (by rw [hw]; exact hu0), hsub, e1, hw, e2, ← e3]; rfl
theorem lr_d {s t : ByteArray} (hS : ∀ i, i < t.size → bAt t i = bAt s (i + 1)) (hz : t.size + 2 ≤ s.size) {n m : Nat} {X : List Int} {b : Bool} (r : LR s n m X b) : ∀ k, n = k + 1 → m = t.size + 1 → ∀ g, t.size - k ≤ g → dO t g k = (X, !b) := by
  induction r with
  | nil n =>
    intro k hk hm g hg
    cases g
    · rfl
    · unfold dO; rw [if_neg (by omega)]; rfl
  | @step n m d o X b c h34 hu hd hm' r ih =>
    intro k hk hm g hg
    subst hk
    obtain ⟨e, _⟩ := step_d hS hz hu hd (by omega)
    obtain ⟨g', rfl⟩ : ∃ g', g = g' + 1 := ⟨g - 1, by omega⟩
    rw [dO, if_pos (by omega), e]
    dsimp only
    rw [ih (k + d) (by omega) hm g' (by omega), Bool.not_or]
/-- Where Decode stands it may stand. -/
inductive At (t : ByteArray) : Nat → Prop
  | done (k : Nat) (h : k = t.size) : At t k
  | step (k : Nat) (hk : k < t.size) (he : bAt t k = 92 → EscOk t k) (hn : (dS t k).2.1 ≠ 0) (hf : k + (dS t k).2.1 ≤ t.size) (r : At t (k + (dS t k).2.1)) : At t k
theorem lr_at {s t : ByteArray} (hS : ∀ i, i < t.size → bAt t i = bAt s (i + 1)) (hz : t.size + 2 ≤ s.size) {n m : Nat} {X : List Int} {b : Bool} (r : LR s n m X b) : ∀ k, n = k + 1 → m = t.size + 1 → At t k := by
  induction r with
  | nil n => intro k hk hm; exact .done k (by omega)
  | @step n m d o X b c h34 hu hd hm' r ih =>
    intro k hk hm
    subst hk
    obtain ⟨e, he⟩ := step_d hS hz hu hd (by omega)
    exact .step k (by omega) he (by rw [e]; exact hd) (by rw [e]; show k + d ≤ _; omega) (by rw [e]; exact ih (k + d) (by omega) hm)

theorem txt_conv (l : List Int) (hl : ∀ x ∈ l, 0 ≤ x ∧ x < 256) (w : World) (T : TypeId) (cap : Nat) :
    (convert 46 9 (.slice (some ⟨w.heap.size, 0, none⟩) l.length cap)).run Tryd.prog (w.alloc (.cells (l.map (Value.int .u8)).toArray T)) = .ok (.string (txt l)) (w.alloc (.cells (l.map (Value.int .u8)).toArray T)) := by
  have hB : Lib.Bytes (w.alloc (.cells (l.map (Value.int .u8)).toArray T)) w.heap.size 0 (txt l) := by
    intro i hi
    rw [txt_size] at hi
    have hg : (txt l)[i]'(by rw [txt_size]; exact hi) = UInt8.ofNat (l[i]).toNat := by
      show (txt l).data[i]'_ = _
      unfold txt; simp
    have := hl l[i] (List.getElem_mem hi)
    have e : ((UInt8.ofNat (l[i]).toNat).toNat : Int) = l[i] := by
      rw [UInt8.toNat_ofNat']; omega
    rw [hg, e, Nat.zero_add]
    have hh := heap_alloc_new w (.cells (l.map (Value.int .u8)).toArray T)
    simp only [World.cell?, hh]
    simp [hi]
  have h := Lib.run_convert_whole (P := Tryd.prog) _ 46 5 9 Tryd.underlying46 Tryd.underlying5 Tryd.underlying9 w.heap.size 0 (txt l) hB cap
  rw [txt_size] at h
  exact h
set_option maxRecDepth 100000 in
theorem enc_1 (c : Int) (h0 : 0 ≤ c) (h1 : c < 128) (w : World) :
    Calls Tryd.prog 44 #[.int .i64 c] w fun e w' => e = .returned (.string (txt [c])) ∧ Below w.heap.size w w' := by
  have hc : ∀ w : World, (convert 46 9 (.slice (some ⟨w.heap.size, 0, none⟩) 1 1)).run Tryd.prog (w.alloc (.cells #[.int .u8 c] 5)) = .ok (.string (txt [c])) (w.alloc (.cells #[.int .u8 c] 5)) := fun w => txt_conv [c] (by simp; omega) w 5 1
  go_enter Tryd.func44, Tryd.ntmps44
  go_wp2
  all_goals go_ret
  exact ⟨rfl, (Below.refl _ _).alloc (Nat.le_refl _) _⟩
theorem mask6 (x : Int) (h0 : 0 ≤ x) (h1 : x < 9223372036854775808) : bits .and .i64 x 63 = x % 64 := bits_mask .i64 63 (by decide) (fun n a b => by rw [IntKind.wrap_i64]; omega) 6 (by decide) x h0 h1
set_option maxRecDepth 100000 in
theorem enc_2 (c : Int) (h0 : 128 ≤ c) (h1 : c < 2048) (w : World) :
    Calls Tryd.prog 44 #[.int .i64 c] w fun e w' => e = .returned (.string (txt [192 + c / 64, 128 + c % 64])) ∧ Below w.heap.size w w' := by
  have hm := mask6 c (by omega) (by omega)
  obtain ⟨M, hM⟩ : ∃ M, c % 64 = M := ⟨_, rfl⟩
  rw [hM] at hm ⊢
  have m2 : M % 256 = M := by omega
  have m3 : (128 + M) % 256 = 128 + M := by omega
  have hc : ∀ w : World, (convert 46 9 (.slice (some ⟨w.heap.size, 0, none⟩) 2 2)).run Tryd.prog (w.alloc (.cells #[.int .u8 (192 + c / 64), .int .u8 (128 + M)] 5)) = .ok (.string (txt [192 + c / 64, 128 + M])) (w.alloc (.cells #[.int .u8 (192 + c / 64), .int .u8 (128 + M)] 5)) := fun w => txt_conv [192 + c / 64, 128 + M] (by simp; omega) w 5 2
  clear hM
  go_enter Tryd.func44, Tryd.ntmps44
  go_wp2
  all_goals go_ret
  exact ⟨rfl, (Below.refl _ _).alloc (Nat.le_refl _) _⟩
set_option maxRecDepth 100000 in
theorem enc_3 (c : Int) (h0 : 2048 ≤ c) (h1 : c < 65536) (h2 : c < 55296 ∨ 57343 < c) (w : World) :
    Calls Tryd.prog 44 #[.int .i64 c] w fun e w' => e = .returned (.string (txt [224 + c / 4096, 128 + c / 64 % 64, 128 + c % 64])) ∧ Below w.heap.size w w' := by
  have hm := mask6 c (by omega) (by omega)
  have hk := mask6 (c / 64) (by omega) (by omega)
  obtain ⟨M, hM⟩ : ∃ M, c % 64 = M := ⟨_, rfl⟩
  obtain ⟨K, hK⟩ : ∃ K, c / 64 % 64 = K := ⟨_, rfl⟩
  rw [hM] at hm ⊢
  rw [hK] at hk ⊢
  have m2 : M % 256 = M := by omega
  have m3 : (128 + M) % 256 = 128 + M := by omega
  have k2 : K % 256 = K := by omega
  have k3 : (128 + K) % 256 = 128 + K := by omega
  have hc : ∀ w : World, (convert 46 9 (.slice (some ⟨w.heap.size, 0, none⟩) 3 3)).run Tryd.prog (w.alloc (.cells #[.int .u8 (224 + c / 4096), .int .u8 (128 + K), .int .u8 (128 + M)] 5)) = .ok (.string (txt [224 + c / 4096, 128 + K, 128 + M])) (w.alloc (.cells #[.int .u8 (224 + c / 4096), .int .u8 (128 + K), .int .u8 (128 + M)] 5)) := fun w => txt_conv [224 + c / 4096, 128 + K, 128 + M] (by simp; omega) w 5 3
  clear hM hK
  rcases h2 with h2 | h2
  all_goals
    go_enter Tryd.func44, Tryd.ntmps44
    go_wp2
    all_goals go_ret
    exact ⟨rfl, (Below.refl _ _).alloc (Nat.le_refl _) _⟩
set_option maxRecDepth 100000 in
theorem enc_4 (c : Int) (h0 : 65536 ≤ c) (h1 : c < 1114112) (w : World) :
    Calls Tryd.prog 44 #[.int .i64 c] w fun e w' => e = .returned (.string (txt [240 + c / 262144, 128 + c / 4096 % 64, 128 + c / 64 % 64, 128 + c % 64])) ∧ Below w.heap.size w w' := by
  have hm := mask6 c (by omega) (by omega)
  have hk := mask6 (c / 64) (by omega) (by omega)
  have hl := mask6 (c / 4096) (by omega) (by omega)
  obtain ⟨M, hM⟩ : ∃ M, c % 64 = M := ⟨_, rfl⟩
  obtain ⟨K, hK⟩ : ∃ K, c / 64 % 64 = K := ⟨_, rfl⟩
  obtain ⟨L, hL⟩ : ∃ L, c / 4096 % 64 = L := ⟨_, rfl⟩
  rw [hM] at hm ⊢
  rw [hK] at hk ⊢
  rw [hL] at hl ⊢
  have m2 : M % 256 = M := by omega
  have m3 : (128 + M) % 256 = 128 + M := by omega
  have k2 : K % 256 = K := by omega
  have k3 : (128 + K) % 256 = 128 + K := by omega
  have l2 : L % 256 = L := by omega
  have l3 : (128 + L) % 256 = 128 + L := by omega
  have hc : ∀ w : World, (convert 46 9 (.slice (some ⟨w.heap.size, 0, none⟩) 4 4)).run Tryd.prog (w.alloc (.cells #[.int .u8 (240 + c / 262144), .int .u8 (128 + L), .int .u8 (128 + K), .int .u8 (128 + M)] 5)) = .ok (.string (txt [240 + c / 262144, 128 + L, 128 + K, 128 + M])) (w.alloc (.cells #[.int .u8 (240 + c / 262144), .int .u8 (128 + L), .int .u8 (128 + K), .int .u8 (128 + M)] 5)) := fun w => txt_conv [240 + c / 262144, 128 + L, 128 + K, 128 + M] (by simp; omega) w 5 4
  clear hM hK hL
  go_enter Tryd.func44, Tryd.ntmps44
  go_wp2
  all_goals go_ret
  exact ⟨rfl, (Below.refl _ _).alloc (Nat.le_refl _) _⟩
theorem encoded_any (c : Int) (h0 : 0 ≤ c) (h1 : c < 1114112) (w : World) :
    Calls Tryd.prog 44 #[.int .i64 c] w fun e w' => e = .returned (.string (txt (encU c))) ∧ Below w.heap.size w w' := by
  unfold encU
  by_cases g1 : c < 128
  · rw [if_pos g1]; exact enc_1 c h0 g1 w
  rw [if_neg g1]
  by_cases g2 : c < 2048
  · rw [if_pos g2]; exact enc_2 c (by omega) g2 w
  rw [if_neg g2]
  by_cases g3 : 55296 ≤ c ∧ c ≤ 57343
  · rw [if_pos g3]
    obtain ⟨a, b⟩ := g3
    have hB : txt [239, 191, 189] = ⟨#[239, 191, 189]⟩ := rfl
    rw [hB]
    have a1 : 128 ≤ c := by omega
    have a2 : 2048 ≤ c := by omega
    clear g1 g2 hB
    go_enter Tryd.func44, Tryd.ntmps44
    go_wp2
    all_goals go_ret
    exact ⟨rfl, Below.refl _ _⟩
  rw [if_neg g3]
  by_cases g4 : c < 65536
  · rw [if_pos g4]; exact enc_3 c (by omega) g4 (by omega) w
  rw [if_neg g4]; exact enc_4 c (by omega) h1 w

theorem hexPre_pre (t : ByteArray) (i : Nat) : ∀ j, hexAll t i j = true → 0 ≤ hexPre t i j ∧ hexPre t i j < 16 ^ j
  | 0, _ => by simp [hexPre]
  | j + 1, h => by
    unfold hexAll at h
    simp only [Bool.and_eq_true, decide_eq_true_eq] at h
    have h1 := hexPre_pre t i j h.1
    have h2 := hexV_bd (bAt t (i + j))
    unfold hexPre
    rw [Int.pow_succ]
    omega
theorem hexAll_drop (t : ByteArray) (i : Nat) {j n : Nat} (hj : j < n) (h : hexV (bAt t (i + j)) < 0) : hexAll t i n = false := by
  induction n with
  | zero => omega
  | succ n ih =>
    unfold hexAll
    by_cases e : j = n
    · subst e
      rw [show decide (0 ≤ hexV (bAt t (i + j))) = false by simp; omega, Bool.and_false]
    · rw [ih (by omega), Bool.false_and]
set_option maxRecDepth 100000 in
theorem unitAt_any (t : ByteArray) (k : Nat) (w : World) (hs : t.size ≤ 10000000000) (hk : k ≤ 10000000000) :
    Calls Tryd.prog 43 #[.string t, .int .i64 k] w fun e w' => e = .returned (.tuple #[.int .i64 (unitD t k).1, .bool (unitD t k).2]) ∧ w' = w := by
  by_cases h6 : t.size < k + 6
  · have e : unitD t k = (0, false) := by unfold unitD; rw [if_pos h6]
    rw [e]
    have h6I : (t.size : Int) < (k : Int) + 6 := by omega
    clear h6 e
    go_enter Tryd.func43, Tryd.ntmps43
    go_wp2_with fail
    all_goals go_ret2
    exact ⟨rfl, rfl⟩
  have h6I : (k : Int) + 6 ≤ (t.size : Int) := by omega
  obtain ⟨A, hA⟩ : ∃ A, bAt t k = A := ⟨_, rfl⟩
  obtain ⟨C, hC⟩ : ∃ C, bAt t (k + 1) = C := ⟨_, rfl⟩
  have bA := bAt_lt (s := t) (i := k) (by omega)
  have bC := bAt_lt (s := t) (i := k + 1) (by omega)
  rw [hA] at bA
  rw [hC] at bC
  cases a92 : (A != 92)
  case true =>
    have e : unitD t k = (0, false) := by unfold unitD; rw [if_neg h6, hA, if_pos (by simpa using a92)]
    rw [e]
    rw [bA] at a92
    clear e hA hC bA bC
    go_enter Tryd.func43, Tryd.ntmps43
    go_wp2_with fail
    all_goals go_ret2
    exact ⟨rfl, rfl⟩
  cases c117 : (C != 117)
  case true =>
    have e : unitD t k = (0, false) := by unfold unitD; rw [if_neg h6, hA, hC, if_neg (by simpa using a92), if_pos (by simpa using c117)]
    rw [e]
    rw [bA] at a92
    rw [bC] at c117
    clear e hA hC bA bC
    go_enter Tryd.func43, Tryd.ntmps43
    go_wp2_with fail
    all_goals go_ret2
    exact ⟨rfl, rfl⟩
  have e : unitD t k = if hexAll t (k + 2) 4 = false then (0, false) else (hexPre t (k + 2) 4, true) := by unfold unitD; rw [if_neg h6, hA, hC, if_neg (by simpa using a92), if_neg (by simpa using c117)]
  rw [bA] at a92
  rw [bC] at c117
  obtain ⟨U, HU⟩ : ∃ U, Hid (unitD t k = U) := ⟨_, Lib.hid rfl⟩
  rw [HU.out]
  have HE := Lib.hid (e.symm.trans HU.out)
  have A0 : Aside ((if hexAll t (k + 2) 4 = false then (0, false) else (hexPre t (k + 2) 4, true)) = U) := HE.out
  clear e hA hC bA bC HU HE
  go_enter Tryd.func43, Tryd.ntmps43
  go_wp2_with fail
  clear a92 c117
  go_loopg [6, 7] 4 (fun g n i wx => ∃ j : Nat, i = .int .i64 ((k + 2 + j : Nat) : Int) ∧ n = .int .i64 (hexPre t (k + 2) j) ∧ j ≤ 4 ∧ 4 - j ≤ g ∧ Aside (hexAll t (k + 2) j = true) ∧ wx = w)
  case atStart => exact ⟨0, by go_num, rfl, by omega, by omega, rfl, rfl⟩
  case round =>
    obtain ⟨j, rfl, rfl, hj4, hjg, hall, rfl⟩ := hrel
    obtain ⟨hp0, hp1⟩ := hexPre_pre t (k + 2) j hall
    have hp2 : (16 : Int) ^ j ≤ 65536 := by
      have : j = 0 ∨ j = 1 ∨ j = 2 ∨ j = 3 ∨ j = 4 := by omega
      rcases this with rfl | rfl | rfl | rfl | rfl <;> decide
    obtain ⟨N, hN⟩ : ∃ N, hexPre t (k + 2) j = N := ⟨_, rfl⟩
    rw [hN] at hp0 hp1
    have hN1 : N < 65536 := by omega
    clear hp1 hp2
    by_cases hj : j < 4
    · have hjI : (j : Int) < 4 := by omega
      have hlt : k + 2 + j < t.size := by omega
      have hb := bAt_lt hlt
      have hbI : ((k + 2 + j : Nat) : Int) < (t.size : Int) := by omega
      obtain ⟨V, hV⟩ : ∃ V, hexV (bAt t (k + 2 + j)) = V := ⟨_, rfl⟩
      have hhex := hex_any (bAt t (k + 2 + j)) wr (bAt_nonneg _ _) (bAt_le _ _)
      have hVb := hexV_bd (bAt t (k + 2 + j))
      rw [hV] at hhex hVb
      rw [hb] at hhex
      have HV := Lib.hid hV
      have HN := Lib.hid hN
      rw [hN]
      clear hb hV hN
      by_cases hv : V < 0
      · go_wp2_with (go_at_call 68; refine hhex.mono ?_; rintro e w2 ⟨rfl, hw2⟩; obtain rfl := hw2.symm)
        all_goals go_ret2
        have hf : hexAll t (k + 2) 4 = false := hexAll_drop t (k + 2) hj (by rw [HV.out]; exact hv)
        have A1 : (if hexAll t (k + 2) 4 = false then ((0 : Int), false) else (hexPre t (k + 2) 4, true)) = U := A0
        rw [if_pos hf] at A1
        exact ⟨(by rw [← A1]; try rfl), rfl⟩
      · have hv0 : 0 ≤ V := by omega
        clear hv
        go_wp2_with (go_at_call 68; refine hhex.mono ?_; rintro e w2 ⟨rfl, hw2⟩; obtain rfl := hw2.symm)
        go_roundg (gk - 1)
        case measure => omega
        case rel =>
          refine ⟨j + 1, by go_num, ?_, by omega, by omega, ?_, rfl⟩
          · unfold hexPre; rw [HN.out, HV.out]
          · show hexAll t (k + 2) (j + 1) = true
            have hall' : hexAll t (k + 2) j = true := hall
            unfold hexAll; rw [hall', HV.out]; simp; exact hv0
    · obtain rfl : j = 4 := by omega
      have hall' : hexAll t (k + 2) 4 = true := hall
      have A1 : (if hexAll t (k + 2) 4 = false then ((0 : Int), false) else (hexPre t (k + 2) 4, true)) = U := A0
      rw [hall', if_neg (by simp), hN] at A1
      have HA := Lib.hid A1
      clear A1 hall' hall A0
      rw [hN]
      clear hN
      go_wp2_with fail
      all_goals go_ret2
      exact ⟨(by rw [← HA.out]; try rfl), rfl⟩

theorem unitD_bd (t : ByteArray) (k : Nat) : 0 ≤ (unitD t k).1 ∧ (unitD t k).1 < 65536 := by
  unfold unitD
  split
  · decide
  split
  · decide
  split
  · decide
  split
  · decide
  · rename_i h
    have := hexPre_pre t (k + 2) 4 (by simpa using h)
    simpa using this
theorem ext_txt (t : ByteArray) (a b : Nat) (hb : b ≤ t.size) (ha : a ≤ b) : t.extract a b = txt (sub t a b) := by
  apply bl_inj
  rw [bl_sub t a b hb ha, bl_txt (sub_by t a b)]
set_option maxRecDepth 100000 in
set_option maxHeartbeats 4000000 in
theorem escaped_any (t : ByteArray) (k : Nat) (w : World) (hs : t.size ≤ 3000000000) (he : EscOk t k) :
    Calls Tryd.prog 29 #[.string t, .int .i64 k] w fun e w' => e = .returned (.tuple #[.string (txt (escD t k).1), .int .i64 ((escD t k).2.1 : Nat), .bool (escD t k).2.2]) ∧ Below w.heap.size w w' := by
  obtain ⟨hk1, hcase⟩ := he
  have hb := bAt_lt hk1
  have hkI : (k : Int) + 1 < (t.size : Int) := by omega
  have hk2I : (k : Int) + 2 ≤ (t.size : Int) := by omega
  rcases hcase with hes | ⟨h117, hU⟩
  · have h117 : bAt t (k + 1) ≠ 117 := fun h => by rw [h] at hes; revert hes; decide
    have hx : t.extract (k + 1) (k + 2) = txt [bAt t (k + 1)] := by rw [ext_txt t (k + 1) (k + 2) (by omega) (by omega), sub_one]
    have hcl : bAt t (k + 1) = 34 ∨ bAt t (k + 1) = 92 ∨ bAt t (k + 1) = 47 ∨ bAt t (k + 1) = 98 ∨ bAt t (k + 1) = 102 ∨ bAt t (k + 1) = 110 ∨ bAt t (k + 1) = 114 ∨ bAt t (k + 1) = 116 := by
      unfold escC at hes
      repeat' split at hes
      all_goals omega
    unfold escD
    rw [if_neg h117]
    clear h117 hes
    obtain ⟨E, hE⟩ : ∃ E, bAt t (k + 1) = E := ⟨_, rfl⟩
    rw [hE] at hb hx hcl ⊢
    clear hE
    have HX := Lib.hid hx
    have hb' := hb.symm
    clear hx hb
    rcases hcl with rfl | rfl | rfl | rfl | rfl | rfl | rfl | rfl
    · go_enter Tryd.func29, Tryd.ntmps29
      go_wp2_with fail
      all_goals go_ret3
      exact ⟨by rw [HX.out]; rfl, Below.refl _ _⟩
    · go_enter Tryd.func29, Tryd.ntmps29
      go_wp2_with fail
      all_goals go_ret3
      exact ⟨by rw [HX.out]; rfl, Below.refl _ _⟩
    · go_enter Tryd.func29, Tryd.ntmps29
      go_wp2_with fail
      all_goals go_ret3
      exact ⟨by rw [HX.out]; rfl, Below.refl _ _⟩
    · go_enter Tryd.func29, Tryd.ntmps29
      go_wp2_with fail
      all_goals go_ret3
      exact ⟨rfl, Below.refl _ _⟩
    · go_enter Tryd.func29, Tryd.ntmps29
      go_wp2_with fail
      all_goals go_ret3
      exact ⟨rfl, Below.refl _ _⟩
    · go_enter Tryd.func29, Tryd.ntmps29
      go_wp2_with fail
      all_goals go_ret3
      exact ⟨rfl, Below.refl _ _⟩
    · go_enter Tryd.func29, Tryd.ntmps29
      go_wp2_with fail
      all_goals go_ret3
      exact ⟨rfl, Below.refl _ _⟩
    · go_enter Tryd.func29, Tryd.ntmps29
      go_wp2_with fail
      all_goals go_ret3
      exact ⟨rfl, Below.refl _ _⟩
  · have hb117 : ((t[k + 1].toNat : Nat) : Int) = 117 := hb.symm.trans h117
    obtain ⟨V, hV⟩ : ∃ V, (unitD t k).1 = V := ⟨_, rfl⟩
    have hVb := unitD_bd t k
    have hu1 := fun w' => unitAt_any t k w' (by omega) (by omega)
    have hu2 := fun w' => unitAt_any t (k + 6) w' (by omega) (by omega)
    obtain ⟨D, hD⟩ : ∃ D, (unitD t (k + 6)).1 = D := ⟨_, rfl⟩
    obtain ⟨O, hO⟩ : ∃ O, (unitD t (k + 6)).2 = O := ⟨_, rfl⟩
    have hDb := unitD_bd t (k + 6)
    unfold escD
    rw [if_pos h117]
    rw [hV] at hu1 hVb ⊢
    rw [hU] at hu1
    rw [hD] at hDb hu2 ⊢
    rw [hO] at hu2 ⊢
    clear hb h117 hU hV hD hO
    obtain ⟨v0, v1⟩ := hVb
    obtain ⟨d0, d1⟩ := hDb
    have enc := fun (c : Int) (h0 : 0 ≤ c) (h1 : c < 1114112) (w' : World) => encoded_any c h0 h1 w'
    by_cases hs1 : V < 55296 ∨ 57343 < V
    · have hsur : surB V = false := by unfold surB; simp; omega
      rw [if_pos hsur]
      have hE1 := enc V v0 (by omega) w
      clear hsur enc hu2
      by_cases hlo : V < 55296
      · go_enter Tryd.func29, Tryd.ntmps29
        go_wp2_with (first
          | (go_at_call 43; refine (hu1 _).mono ?_; rintro e w1 ⟨rfl, hw1⟩; obtain rfl := hw1.symm)
          | (go_at_call 44; refine hE1.mono ?_; rintro e w2 ⟨rfl, hb2⟩))
        all_goals go_ret3
        exact ⟨rfl, hb2⟩
      · have hhi : 57343 < V := by omega
        have hlo' : 55296 ≤ V := by omega
        clear hs1 hlo
        go_enter Tryd.func29, Tryd.ntmps29
        go_wp2_with (first
          | (go_at_call 43; refine (hu1 _).mono ?_; rintro e w1 ⟨rfl, hw1⟩; obtain rfl := hw1.symm)
          | (go_at_call 44; refine hE1.mono ?_; rintro e w2 ⟨rfl, hb2⟩))
        all_goals go_ret3
        exact ⟨rfl, hb2⟩
    · have hlo : 55296 ≤ V := by omega
      have hhi : V ≤ 57343 := by omega
      have hsur : surB V = true := by unfold surB; simp; omega
      rw [if_neg (by rw [hsur]; simp)]
      clear hs1 hsur
      have hbrk : txt brk = ⟨#[239, 191, 189]⟩ := rfl
      by_cases hp : V < 56320 ∧ O = true ∧ 56320 ≤ D ∧ D ≤ 57343
      · rw [if_pos hp]
        obtain ⟨a1, rfl, a2, a3⟩ := hp
        have hpr : pairR V D = (V - 55296) * 1024 + (D - 56320) + 65536 := by unfold pairR; rw [if_pos ⟨hlo, a1, a2, by omega⟩]
        have hE1 := enc (pairR V D) (by rw [hpr]; omega) (by rw [hpr]; omega) w
        have hshl : IntKind.i64.wrap ((V - 55296) * 1024) = (V - 55296) * 1024 := by rw [IntKind.wrap_i64]; omega
        have hq : (65536 : Int) + (V - 55296) * 1024 + (D - 56320) = pairR V D := by rw [hpr]; omega
        have hE2 : Calls Tryd.prog 44 #[.int .i64 (65536 + (V - 55296) * 1024 + (D - 56320))] w fun e w' => e = .returned (.string (txt (encU (pairR V D)))) ∧ Below w.heap.size w w' := by rw [hq]; exact hE1
        clear enc hbrk hpr hq hE1
        go_enter Tryd.func29, Tryd.ntmps29
        go_wp2_with (first
          | (go_at_call 43; first | (refine (hu1 _).mono ?_; clear hu1; rintro e w1 ⟨rfl, hw1⟩; obtain rfl := hw1.symm) | (refine (hu2 _).mono ?_; rintro e w1 ⟨rfl, hw1⟩; obtain rfl := hw1.symm))
          | (go_at_call 44; refine hE2.mono ?_; rintro e w2 ⟨rfl, hb2⟩))
        all_goals go_ret3
        exact ⟨rfl, hb2⟩
      · rw [if_neg hp, hbrk]
        clear enc hbrk
        by_cases a1 : V < 56320
        · cases O
          · clear hp
            go_enter Tryd.func29, Tryd.ntmps29
            go_wp2_with (go_at_call 43; first | (refine (hu1 _).mono ?_; clear hu1; rintro e w1 ⟨rfl, hw1⟩; obtain rfl := hw1.symm) | (refine (hu2 _).mono ?_; rintro e w1 ⟨rfl, hw1⟩; obtain rfl := hw1.symm))
            all_goals go_ret3
            exact ⟨rfl, Below.refl _ _⟩
          · by_cases a2 : 56320 ≤ D
            · have a3 : 57343 < D := by
                by_cases h : 57343 < D
                · exact h
                · exact absurd ⟨a1, rfl, a2, by omega⟩ hp
              clear hp
              go_enter Tryd.func29, Tryd.ntmps29
              go_wp2_with (go_at_call 43; first | (refine (hu1 _).mono ?_; clear hu1; rintro e w1 ⟨rfl, hw1⟩; obtain rfl := hw1.symm) | (refine (hu2 _).mono ?_; rintro e w1 ⟨rfl, hw1⟩; obtain rfl := hw1.symm))
              all_goals go_ret3
              exact ⟨rfl, Below.refl _ _⟩
            · have a2' : D < 56320 := by omega
              clear hp a2
              go_enter Tryd.func29, Tryd.ntmps29
              go_wp2_with (go_at_call 43; first | (refine (hu1 _).mono ?_; clear hu1; rintro e w1 ⟨rfl, hw1⟩; obtain rfl := hw1.symm) | (refine (hu2 _).mono ?_; rintro e w1 ⟨rfl, hw1⟩; obtain rfl := hw1.symm))
              all_goals go_ret3
              exact ⟨rfl, Below.refl _ _⟩
        · have a1' : 56320 ≤ V := by omega
          clear hp a1
          go_enter Tryd.func29, Tryd.ntmps29
          go_wp2_with (go_at_call 43; first | (refine (hu1 _).mono ?_; clear hu1; rintro e w1 ⟨rfl, hw1⟩; obtain rfl := hw1.symm) | (refine (hu2 _).mono ?_; rintro e w1 ⟨rfl, hw1⟩; obtain rfl := hw1.symm))
          all_goals go_ret3
          exact ⟨rfl, Below.refl _ _⟩

theorem bs_none (w : World) : Bs (w.alloc (.cells #[] 5)) w.heap.size (.slice (some ⟨w.heap.size, 0, none⟩) 0 0) [] := by
  refine ⟨By8.nil, _, _, rfl, Nat.le_refl _, Nat.zero_le _, .inr ⟨w.heap.size, _, (0, 0), rfl, Nat.le_refl _, heap_alloc_new w _, by simp, .inl rfl, ?_⟩⟩
  simp [bv]
theorem dS_bd {t : ByteArray} {k : Nat} (hk : k < t.size) (he : bAt t k = 92 → EscOk t k) : By8 (dS t k).1 ∧ (dS t k).1.length ≤ 4 := by
  unfold dS
  split
  · rename_i h92
    obtain ⟨h1, h2⟩ := he h92
    unfold escD
    split
    · obtain ⟨v0, v1⟩ := unitD_bd t k
      split
      · exact ⟨encU_by v0 (by omega), encU_len _⟩
      · split
        · have := pairR_bd (unitD t k).1 (unitD t (k + 6)).1
          exact ⟨encU_by this.1 this.2, encU_len _⟩
        · exact ⟨brk_by, by decide⟩
    · rename_i h117
      rcases h2 with h2 | h2
      · have := escC_bd (bAt t (k + 1)) (bAt_nonneg _ _) (bAt_le _ _) h2
        exact ⟨by intro x hx; simp at hx; omega, by simp⟩
      · exact absurd h2.1 h117
  · split
    · exact ⟨brk_by, by decide⟩
    · rename_i hu
      have := step_fits t k hk
      unfold stepN at this
      rw [if_neg hu] at this
      refine ⟨sub_by _ _ _, ?_⟩
      rw [sub_len]
      omega
set_option maxRecDepth 100000 in
set_option maxHeartbeats 4000000 in
theorem specDecode_any (s t : ByteArray) (w : World) (hs : s.size ≤ 2500000000) (h2 : 2 ≤ s.size) (ht : s.extract 1 (s.size - 1) = t) (ha : At t 0) :
    Calls Tryd.prog 18 #[.string s] w fun e w' => e = .returned (.tuple #[.string (txt (dO t t.size 0).1), .bool (dO t t.size 0).2]) ∧ Below w.heap.size w w' := by
  obtain ⟨i0, hi, hz0, hz1, hz2⟩ := info_parts Tryd.infoU8
  obtain ⟨B, hBa, hBb⟩ : ∃ B, B ≤ w.heap.size ∧ w.heap.size ≤ B := ⟨_, Nat.le_refl _, Nat.le_refl _⟩
  have hbs0 := (bs_none w).mono hBa
  have htz : t.size = s.size - 2 := by rw [← ht, ByteArray.size_extract]; omega
  have htm : t.size ≤ maxLen := by unfold maxLen; omega
  have h2I : (1 : Int) ≤ (s.size : Int) - 1 := by omega
  have HT := Lib.hid ht
  obtain ⟨T, HTT⟩ : ∃ T, Hid (dO t t.size 0 = T) := ⟨_, Lib.hid rfl⟩
  rw [HTT.out]
  have A0 : Aside (([] ++ (dO t t.size 0).1, true && (dO t t.size 0).2) = T) := by rw [← HTT.out]; rfl
  clear ht HTT
  go_enter Tryd.func18, Tryd.ntmps18
  go_wp2_with fail
  rw [HT.out]
  go_loopg [5, 6, 7] t.size (fun g v cl i wr => ∃ (k : Nat) (v' : Value) (l : List Int) (c : Bool), i = .int .i64 k ∧ v' = v ∧ cl = .bool c ∧ k ≤ t.size ∧ t.size - k ≤ g ∧ Bs wr B v' l ∧ l.length ≤ 4 * k ∧ At t k ∧ Below w.heap.size w wr ∧ Aside ((l ++ (dO t g k).1, c && (dO t g k).2) = T))
  case atStart => exact ⟨0, _, [], true, rfl, rfl, rfl, Nat.zero_le _, Nat.le_refl _, hbs0, by simp, ha, (Below.refl _ _).alloc (Nat.le_refl _) _, A0⟩
  case round =>
    clear ha A0 hbs0
    obtain ⟨k, v, l, c, rfl, rfl, rfl, hk, hg, hbs, hll, hat, hbel, A⟩ := hrel
    have hBr := hbel.size
    by_cases hkt : k < t.size
    · obtain ⟨hes, hn0, hf, hr⟩ : (bAt t k = 92 → EscOk t k) ∧ (dS t k).2.1 ≠ 0 ∧ k + (dS t k).2.1 ≤ t.size ∧ At t (k + (dS t k).2.1) := by
        cases hat with
        | done _ h => omega
        | step _ h1 h2 h3 h4 h5 => exact ⟨h2, h3, h4, h5⟩
      obtain ⟨hby, hlen⟩ := dS_bd hkt hes
      obtain ⟨o, d, ok, hdS⟩ : ∃ o d ok, dS t k = (o, d, ok) := ⟨_, _, _, rfl⟩
      rw [hdS] at hn0 hf hr hby hlen
      dsimp only at hn0 hf hr hby hlen
      have A1 : (l ++ (o ++ (dO t (gk - 1) (k + d)).1), c && (ok && (dO t (gk - 1) (k + d)).2)) = T := by
        have A2 : (l ++ (dO t gk k).1, c && (dO t gk k).2) = T := A
        rw [show gk = gk - 1 + 1 by omega, dO, if_pos hkt, hdS] at A2
        exact A2
      have HA := Lib.hid A1
      have HR := Lib.hid hr
      have hb := bAt_lt hkt
      have hkI : (k : Int) < (t.size : Int) := by omega
      clear A A1 hr hat
      by_cases h92 : bAt t k = 92
      · have hesc := hes h92
        have he : escD t k = (o, d, ok) := by unfold dS at hdS; rw [if_pos h92] at hdS; exact hdS
        have hb92 : ((t[k].toNat : Nat) : Int) = 92 := hb.symm.trans h92
        have hE := fun w' => escaped_any t k w' (by omega) hesc
        rw [he] at hE
        dsimp only at hE
        have hdI : (k : Int) + (d : Int) ≤ (t.size : Int) := by omega
        clear hes hdS he hb h92 hesc
        cases c
        all_goals
          go_wp2_with (first
            | (go_at_call 29; refine (hE _).mono ?_; rintro e w2 ⟨rfl, hb2⟩; have hbs2 := hbs.below hb2; have hB2 := Nat.le_trans hBa (Nat.le_trans hBr hb2.size))
            | (at_builtin; refine wpList_append_bs _ rfl (.tmp 33) (.tmp 34) 46 9 (by rfl) B i0 Tryd.underlying46 hi hz0 hz1 hz2 _ _ rfl hbs2 _ (bl (txt o)) rfl (bl_by8 _) (src_str Tryd.underlying9 (txt o) _ _ hz1) (by rw [bl_len, txt_size]; omega) (by first | assumption | omega | (simp; omega)) ?_; intro v3 w3 hb3 ha3))
          go_roundg (gk - 1)
          case measure => omega
          case rel =>
            refine ⟨k + d, _, _, _, by go_num, rfl, rfl, by omega, by omega, hb3, by rw [List.length_append, bl_len, txt_size]; omega, HR.out, (hbel.trans (hb2.mono hBr)).trans ((ha3.below hbs2 hB2).mono hBb), ?_⟩
            show (l ++ bl (txt o) ++ (dO t (gk - 1) (k + d)).1, _) = T
            rw [bl_txt hby, List.append_assoc, ← HA.out]
            cases ok <;> rfl
      · have hn92 : (((t[k].toNat : Nat) : Int) == 92) = false := by rw [← hb]; simpa using h92
        have hW := fun w' => width_any t k w' htm hkt
        by_cases hu : uw t k = 0
        · have hdS2 : dS t k = (brk, 1, false) := by unfold dS; rw [if_neg h92, if_pos hu]
          obtain ⟨rfl, rfl, rfl⟩ : brk = o ∧ 1 = d ∧ false = ok := by rw [hdS] at hdS2; injection hdS2 with a b; injection b with b c; exact ⟨a.symm, b.symm, c.symm⟩
          rw [hu] at hW
          clear hes hdS hdS2 hb h92 hu
          go_wp2_with (first
            | (go_at_call 30; refine (hW _).mono ?_; rintro e w2 ⟨rfl, hb2⟩; have hbs2 := hbs.below hb2; have hB2 := Nat.le_trans hBa (Nat.le_trans hBr hb2.size))
            | (at_builtin; refine wpList_append_bs _ rfl (.tmp 48) (.const (.string ⟨#[239, 191, 189]⟩)) 46 9 (by rfl) B i0 Tryd.underlying46 hi hz0 hz1 hz2 _ _ rfl hbs2 _ [239, 191, 189] rfl (by intro x hx; simp at hx; omega) (src_strL Tryd.underlying9 ⟨#[239, 191, 189]⟩ [239, 191, 189] rfl _ _ hz1) (by first | omega | (simp; omega) | (simp only [List.length_append, sub_len, bl_len, List.length_cons, List.length_nil]; omega)) (by first | assumption | omega | (simp; omega)) ?_; intro v3 w3 hb3 ha3))
          go_roundg (gk - 1)
          case measure => omega
          case rel =>
            refine ⟨k + 1, _, _, _, by go_num, rfl, rfl, by omega, by omega, hb3, by rw [List.length_append]; simp; omega, HR.out, (hbel.trans (hb2.mono hBr)).trans ((ha3.below hbs2 hB2).mono hBb), ?_⟩
            show (l ++ brk ++ (dO t (gk - 1) (k + 1)).1, _) = T
            rw [List.append_assoc, ← HA.out]
            cases c <;> rfl
        · have hdS2 : dS t k = (sub t k (k + uw t k), uw t k, true) := by unfold dS; rw [if_neg h92, if_neg hu]
          obtain ⟨ho, hd, rfl⟩ : sub t k (k + uw t k) = o ∧ uw t k = d ∧ true = ok := by rw [hdS] at hdS2; injection hdS2 with a b; injection b with b c; exact ⟨a.symm, b.symm, c.symm⟩
          rw [hd] at hW ho hu
          have hx : bl (t.extract k (k + d)) = o := by rw [bl_sub t k (k + d) (by omega) (by omega), ho]
          have HX := Lib.hid hx
          have hd0 : (((d : Nat) : Int) == 0) = false := by simp; exact hu
          have hdI : (k : Int) + (d : Int) ≤ (t.size : Int) := by omega
          clear hes hdS hdS2 hb h92 hd ho hx hu
          go_wp2_with (first
            | (go_at_call 30; refine (hW _).mono ?_; rintro e w2 ⟨rfl, hb2⟩; have hbs2 := hbs.below hb2; have hB2 := Nat.le_trans hBa (Nat.le_trans hBr hb2.size))
            | (at_builtin; refine wpList_append_bs _ rfl (.tmp 52) (.tmp 58) 46 9 (by rfl) B i0 Tryd.underlying46 hi hz0 hz1 hz2 _ _ rfl hbs2 _ (bl (t.extract k (k + d))) rfl (bl_by8 _) (src_str Tryd.underlying9 (t.extract k (k + d)) _ _ hz1) (by rw [HX.out]; omega) (by first | assumption | omega | (simp; omega)) ?_; intro v3 w3 hb3 ha3))
          go_roundg (gk - 1)
          case measure => omega
          case rel =>
            refine ⟨k + d, _, _, _, by go_num, rfl, rfl, by omega, by omega, hb3, by rw [List.length_append, HX.out]; omega, HR.out, (hbel.trans (hb2.mono hBr)).trans ((ha3.below hbs2 hB2).mono hBb), ?_⟩
            show (l ++ bl (t.extract k (k + d)) ++ (dO t (gk - 1) (k + d)).1, _) = T
            rw [HX.out, List.append_assoc, ← HA.out]
            cases c <;> rfl
    · have hkI : (t.size : Int) ≤ (k : Int) := by omega
      have hcv := bs_str hbs
      have A2 : (l ++ (dO t gk k).1, c && (dO t gk k).2) = T := A
      have hd0 : dO t gk k = ([], true) := by
        cases gk
        · rfl
        · unfold dO; rw [if_neg hkt]
      rw [hd0, List.append_nil, Bool.and_true] at A2
      have HA := Lib.hid A2
      clear A A2 hd0 hat
      go_wp2_with fail
      all_goals go_ret2
      exact ⟨(by rw [← HA.out]; try rfl), hbel⟩
end Go.Proofs.YtokhmhbjbclcoaaDoor
