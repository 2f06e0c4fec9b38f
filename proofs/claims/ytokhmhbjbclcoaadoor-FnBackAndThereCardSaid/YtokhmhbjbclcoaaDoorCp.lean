/- Reading a string at the beginning of a text: the plain mathematics of the library's own reading. No program in sight. -/
import Derived.Test.YtokhmhbjbclcoaaDoorUd
import Derived.Test.YtokhmhbjbclcoaaDoorShd
namespace Go.Proofs.YtokhmhbjbclcoaaDoor
set_option linter.unusedVariables false
set_option linter.unusedSimpArgs false
open Go.RowKit

/-- An escape at a place: how long it is; if 0, how reading ends: 1 too early, 2 wrong, 3 no UTF-8. -/
def cE (strict : Bool) (s : ByteArray) (n : Nat) : Nat × Nat :=
  if s.size < n + 2 then (0, 1)
  else if 0 ≤ escC (bAt s (n + 1)) then (2, 0)
  else if bAt s (n + 1) = 117 then
    if s.size < n + 6 then (0, if prefB false s n (s.size - n) = true then 1 else 2)
    else if hexAll s (n + 2) 4 = false then (0, 2)
    else if strict && surB (hexPre s (n + 2) 4) then
      if s.size < n + 12 then (0, if prefB true s (n + 6) (s.size - (n + 6)) = true then 1 else 2)
      else if bAt s (n + 6) = 92 ∧ bAt s (n + 7) = 117 ∧ hexAll s (n + 8) 4 = true ∧ pairR (hexPre s (n + 2) 4) (hexPre s (n + 8) 4) ≠ 65533 then (12, 0) else (0, 2)
    else (6, 0)
  else (0, 2)
/-- One step. -/
def cS (strict : Bool) (s : ByteArray) (n : Nat) : Nat × Nat :=
  if bAt s n = 92 then cE strict s n
  else if bAt s n < 32 then (0, 2)
  else if bAt s n < 128 then (1, 0)
  else if uw s n = 0 then (if fullB s n = false then (0, 1) else if strict then (0, 3) else (1, 0))
  else (uw s n, 0)
/-- From a place on: the place behind the string, or how reading ends. -/
def cO (strict : Bool) (s : ByteArray) : Nat → Nat → Nat × Nat
  | 0, _ => (0, 1)
  | g + 1, n => if n < s.size then (if bAt s n = 34 then (n + 1, 0) else if (cS strict s n).1 = 0 then (0, (cS strict s n).2) else cO strict s g (n + (cS strict s n).1)) else (0, 1)
def cq (strict : Bool) (s : ByteArray) : Nat × Nat := if s.size = 0 then (0, 1) else if bAt s 0 = 34 then cO strict s s.size 1 else (0, 2)

/-- A loose reader goes byte by byte over what is no ASCII. -/
theorem loose_skip {s : ByteArray} (f : Int) (p : Bool) : ∀ (d g n : Nat), (∀ j, j < d → n + j < s.size ∧ 128 ≤ bAt s (n + j)) → St.strLoop s true (g + d) ⟨n, f, p⟩ = St.strLoop s true g ⟨n + d, f, p⟩
  | 0, g, n, _ => rfl
  | d + 1, g, n, h => by
    have h0 := h 0 (by omega)
    rw [Nat.add_zero] at h0
    rw [show g + (d + 1) = (g + d) + 1 by omega, St.strLoop]
    dsimp only
    rw [if_pos h0.1, if_neg (by omega)]
    have hi : St.inner s true ⟨n, f, p⟩ = (true, ⟨n + 1, f, p⟩) := by
      unfold St.inner
      dsimp only
      rw [if_neg (by omega), if_neg (by omega), if_pos (.inr rfl)]
    rw [hi]
    show St.strLoop s true (g + d) ⟨n + 1, f, p⟩ = _
    rw [loose_skip f p d g (n + 1) (fun j hj => by have := h (j + 1) (by omega); rwa [show n + (j + 1) = n + 1 + j by omega] at this), show n + 1 + d = n + (d + 1) by omega]
/-- Bytes of a character past ASCII. -/
theorem uw_high {s : ByteArray} {n : Nat} (hu : uw s n ≠ 0) (h128 : ¬ bAt s n < 128) : ∀ j, j < uw s n → n + j < s.size ∧ 128 ≤ bAt s (n + j) := fun j hj => by
  have hf := uw_fit s n hu
  refine ⟨by omega, ?_⟩
  by_cases e : j = 0
  · subst e; rw [Nat.add_zero]; omega
  · exact uw_inner s n hu (n + j) (by omega) (by omega)
/-- A character that is cut off by the text's end. -/
theorem cut_high {s : ByteArray} {n : Nat} (hn : n < s.size) (h : fullB s n = false) : ∀ j, n + j < s.size → 128 ≤ bAt s (n + j) := by
  unfold fullB at h
  dsimp only at h
  have hl4 := uLen_le (bAt s n)
  have hlo : 128 ≤ uLo (bAt s n) := by
    unfold uLo
    repeat' split
    all_goals omega
  split at h
  · cases h
  · rename_i h1
    split at h
    · cases h
    · rename_i h2
      split at h
      · cases h
      · rename_i h3
        intro j hj
        have hc : 128 ≤ bAt s n := by
          unfold uLen at h1
          split at h1
          · omega
          · split at h1
            · omega
            · split at h1
              · omega
              · omega
        by_cases e0 : j = 0
        · subst e0; exact hc
        · by_cases e1 : j = 1
          · subst e1
            by_cases h128 : 128 ≤ bAt s (n + 1)
            · exact h128
            · exact absurd ⟨by omega, .inl (by omega)⟩ h2
          · have e2 : j = 2 := by omega
            subst e2
            by_cases h128 : 128 ≤ bAt s (n + 2)
            · exact h128
            · exact absurd ⟨by omega, .inl (by omega)⟩ h3
/-- Where unquoting goes on without a fault, strict reading goes on. -/
theorem cE_of_uU {s : ByteArray} {n d : Nat} {o : List Int} (h2 : ¬ s.size < n + 2) (he : ¬ 0 ≤ escC (bAt s (n + 1))) (h117 : bAt s (n + 1) = 117) (hu : uU s n = (o, d, false)) : cE true s n = (d, 0) := by
  unfold cE
  rw [if_neg h2, if_neg he, if_pos h117]
  unfold uU at hu
  split at hu
  · cases hu
  · rename_i h6
    rw [if_neg h6]
    split at hu
    · cases hu
    · rename_i ha
      rw [if_neg ha]
      split at hu
      · rename_i hs
        injection hu with a b; injection b with b c
        rw [hs, ← b]; rfl
      · rename_i hs
        rw [if_pos (by simpa using hs)]
        split at hu
        · split at hu <;> cases hu
        · rename_i h12
          rw [if_neg h12]
          split at hu
          · rename_i hc
            injection hu with a b; injection b with b c
            rw [if_pos hc, ← b]
          · cases hu
theorem cS_of_uS {s : ByteArray} {n d : Nat} {o : List Int} (hu : uS s n = (o, d, false)) (hd : d ≠ 0) : cS true s n = (d, 0) := by
  unfold uS at hu
  unfold cS
  split at hu
  · rename_i h92
    rw [if_pos h92]
    split at hu
    · cases hu
    · rename_i h2
      split at hu
      · rename_i he
        injection hu with a b; injection b with b c
        unfold cE; rw [if_neg h2, if_pos he, ← b]
      · rename_i he
        split at hu
        · rename_i h117
          exact cE_of_uU h2 he h117 hu
        · cases hu
  · rename_i h92
    rw [if_neg h92]
    split at hu
    · cases hu
    · rename_i h32
      rw [if_neg h32]
      split at hu
      · rename_i h128
        injection hu with a b; injection b with b c
        rw [if_pos h128, ← b]
      · rename_i h128
        rw [if_neg h128]
        split at hu
        · split at hu <;> cases hu
        · rename_i hz
          injection hu with a b; injection b with b c
          rw [if_neg hz, ← b]
theorem Run.cO {s : ByteArray} {n m : Nat} {X : List Int} (h : Run s n m X) (hm : m < s.size) (h34 : bAt s m = 34) : ∀ g, s.size - n ≤ g → cO true s g n = (m + 1, 0) := by
  induction h with
  | nil n =>
    intro g hg
    obtain ⟨g', rfl⟩ : ∃ g', g = g' + 1 := ⟨g - 1, by omega⟩
    rw [YtokhmhbjbclcoaaDoor.cO, if_pos hm, if_pos h34]
  | @step n m d o X h34' hu hd hm' r ih =>
    intro g hg
    obtain ⟨g', rfl⟩ : ∃ g', g = g' + 1 := ⟨g - 1, by omega⟩
    rw [YtokhmhbjbclcoaaDoor.cO, if_pos (by omega), if_neg h34', cS_of_uS hu hd, if_neg hd, ih hm h34 g' (by omega)]

/-! Where a strict reader fails. -/
theorem pref_of {low : Bool} {s : ByteArray} {i : Nat} : ∀ m, (∀ j, j < m → escAt low j (bAt s (i + j)) = true) → prefB low s i m = true
  | 0, _ => rfl
  | m + 1, h => by unfold prefB; rw [pref_of m (fun j hj => h j (by omega)), h m (by omega)]; rfl
theorem hexm_no {s : ByteArray} {σ σ' : St} {x y : Int} (h : St.hex s σ x y = (false, σ')) : σ'.at_ = σ.at_ ∧ (hexV (bAt s σ.at_) < x ∨ y < hexV (bAt s σ.at_)) := by
  unfold St.hex at h
  split at h
  · rename_i hn
    injection h with _ h2
    exact ⟨by rw [← h2, St.fail_at], hn⟩
  · cases h
theorem need_no {s : ByteArray} {σ σ' : St} {x y : Int} (h : St.need s σ x y = (false, σ')) : σ'.at_ = σ.at_ ∧ ¬ (σ.at_ < s.size ∧ x ≤ bAt s σ.at_ ∧ bAt s σ.at_ ≤ y) := by
  unfold St.need at h
  split at h
  · cases h
  · rename_i hn
    injection h with _ h2
    exact ⟨by rw [← h2, St.fail_at], hn⟩
theorem then_no {p : Bool × St} {f : St → Bool × St} {σ' : St} (h : St.andThen p f = (false, σ')) : p = (false, σ') ∨ ∃ τ, p = (true, τ) ∧ f τ = (false, σ') := by
  unfold St.andThen at h
  split at h
  · rename_i hp; exact .inr ⟨p.2, Prod.ext hp rfl, h⟩
  · rename_i hp
    injection h with _ h2
    exact .inl (Prod.ext (by simpa using hp) h2)
theorem hex2_no {s : ByteArray} {σ σ' : St} (h : St.hex2 s σ = (false, σ')) : ∃ k, k < 2 ∧ σ'.at_ = σ.at_ + k ∧ (∀ j, j < k → 0 ≤ hexV (bAt s (σ.at_ + j))) ∧ hexV (bAt s (σ.at_ + k)) < 0 := by
  have b0 := hexV_bd (bAt s σ.at_)
  have b1 := hexV_bd (bAt s (σ.at_ + 1))
  rcases then_no h with h1 | ⟨τ, h1, h2⟩
  · obtain ⟨a, c⟩ := hexm_no h1
    exact ⟨0, by omega, a, fun j hj => by omega, by rw [Nat.add_zero]; omega⟩
  · obtain ⟨a1, _, rfl⟩ := hex_ok h1
    obtain ⟨a, c⟩ := hexm_no h2
    dsimp only at a c
    exact ⟨1, by omega, a, fun j hj => by obtain rfl : j = 0 := by omega
                                          exact a1, by omega⟩
/-- Four digits of a strict reader that are not there: where it stops, and why. -/
theorem unit_no {s : ByteArray} {σ σ' : St} {low half : Bool} (h : St.unit s false low σ = (false, half, σ')) :
    ∃ k, k < 4 ∧ σ'.at_ = σ.at_ + k ∧ (∀ j, j < k → 0 ≤ hexV (bAt s (σ.at_ + j))) ∧
      (low = true → (1 ≤ k → hexV (bAt s σ.at_) = 13) ∧ (2 ≤ k → 12 ≤ hexV (bAt s (σ.at_ + 1)))) ∧
      (hexV (bAt s (σ.at_ + k)) < 0 ∨ (k = 0 ∧ low = true ∧ hexV (bAt s σ.at_) ≠ 13) ∨ (k = 1 ∧ low = true ∧ hexV (bAt s (σ.at_ + 1)) < 12) ∨ (k = 1 ∧ low = false ∧ hexV (bAt s σ.at_) = 13 ∧ 12 ≤ hexV (bAt s (σ.at_ + 1)))) := by
  unfold St.unit at h
  rw [if_neg (by simp)] at h
  dsimp only at h
  have b0 := hexV_bd (bAt s σ.at_)
  have b1 := hexV_bd (bAt s (σ.at_ + 1))
  split at h
  case isFalse hp =>
    obtain ⟨τ1, h1⟩ : ∃ τ1, St.hex s σ (St.unitX low) (St.unitY low) = (false, τ1) := ⟨_, Prod.ext (by simpa using hp) rfl⟩
    rw [h1] at h
    injection h with _ h2
    injection h2 with _ h3
    subst h3
    obtain ⟨a, c⟩ := hexm_no h1
    refine ⟨0, by omega, a, fun j hj => by omega, fun _ => ⟨fun h => by omega, fun h => by omega⟩, ?_⟩
    rw [Nat.add_zero]
    cases low
    · simp only [St.unitX, St.unitY, if_false, Bool.false_eq_true] at c
      exact .inl (by omega)
    · simp only [St.unitX, St.unitY, if_true] at c
      exact .inr (.inl ⟨rfl, rfl, by omega⟩)
  case isTrue hp =>
    obtain ⟨τ1, h1⟩ : ∃ τ1, St.hex s σ (St.unitX low) (St.unitY low) = (true, τ1) := ⟨_, Prod.ext hp rfl⟩
    rw [h1] at h
    dsimp only at h
    obtain ⟨a1, a2, rfl⟩ := hex_ok h1
    have hx0 : 0 ≤ hexV (bAt s σ.at_) := by have := St.unitX_nonneg low; omega
    injection h with h2 h3
    injection h3 with h3 h4
    rcases then_no (σ' := σ') (Prod.ext h2 h4 : St.andThen _ _ = (false, σ')) with g1 | ⟨τ2, g1, g2⟩
    · obtain ⟨a, c⟩ := hexm_no g1
      dsimp only at a c
      refine ⟨1, by omega, a, fun j hj => by obtain rfl : j = 0 := by omega
                                             exact hx0, fun hl => ⟨fun _ => ?_, fun h => by omega⟩, ?_⟩
      · subst hl
        simp only [St.unitX, St.unitY, if_true] at a1 a2
        omega
      · cases low
        · simp only [St.unitX, St.unitY, St.unitLo, St.unitHi, if_false, Bool.false_eq_true] at a1 a2 c
          by_cases e : hexV (bAt s σ.at_) = 13
          · rw [if_pos e] at c
            rcases c with c | c
            · exact .inl c
            · exact .inr (.inr (.inr ⟨rfl, rfl, e, by omega⟩))
          · rw [if_neg e] at c
            exact .inl (by omega)
        · simp only [St.unitX, St.unitY, St.unitLo, St.unitHi, if_true] at a1 a2 c
          exact .inr (.inr (.inl ⟨rfl, rfl, by omega⟩))
    · obtain ⟨c1, c2, rfl⟩ := hex_ok g1
      obtain ⟨k, k1, k2, k3, k4⟩ := hex2_no g2
      dsimp only at c1 c2 k2 k3 k4
      have hy0 : 0 ≤ hexV (bAt s (σ.at_ + 1)) := by have := St.unitLo_nonneg low; omega
      refine ⟨k + 2, by omega, by omega, fun j hj => ?_, fun hl => ?_, .inl (by rwa [show σ.at_ + (k + 2) = σ.at_ + 1 + 1 + k by omega])⟩
      · by_cases e0 : j = 0
        · subst e0; exact hx0
        · by_cases e1 : j = 1
          · subst e1; exact hy0
          · have := k3 (j - 2) (by omega)
            rwa [show σ.at_ + 1 + 1 + (j - 2) = σ.at_ + j by omega] at this
      · subst hl
        simp only [St.unitX, St.unitY, St.unitLo, St.unitHi, if_true] at a1 a2 c1 c2
        exact ⟨fun _ => by omega, fun _ => by omega⟩

theorem hexV_13 {c : Int} (h : hexV c = 13) : c = 100 ∨ c = 68 := by
  unfold hexV at h
  repeat' split at h
  all_goals omega
theorem hexV_12 {c : Int} (h : 12 ≤ hexV c) : (99 ≤ c ∧ c ≤ 102) ∨ (67 ≤ c ∧ c ≤ 70) := by
  unfold hexV at h
  repeat' split at h
  all_goals omega
/-- The number of four digits. -/
theorem hexPre4 (s : ByteArray) (i : Nat) : hexPre s i 4 = 4096 * hexV (bAt s i) + 256 * hexV (bAt s (i + 1)) + 16 * hexV (bAt s (i + 2)) + hexV (bAt s (i + 3)) := by
  simp only [hexPre, Nat.add_zero]; omega
theorem hexAll4 {s : ByteArray} {i : Nat} (h : hexAll s i 4 = true) : ∀ j, j < 4 → 0 ≤ hexV (bAt s (i + j)) := fun j hj => by
  have := hexAll_le (k := j + 1) h (by omega)
  unfold hexAll at this
  rw [Bool.and_eq_true, decide_eq_true_eq] at this
  exact this.2
/-- The beginning of an escape of a unit. -/
theorem pref_unit {s : ByteArray} {n k : Nat} (h92 : bAt s n = 92) (h117 : bAt s (n + 1) = 117) (hd : ∀ j, j < k → 0 ≤ hexV (bAt s (n + 2 + j))) (hk : k ≤ 4) : prefB false s n (k + 2) = true := by
  refine pref_of _ fun j hj => ?_
  by_cases e0 : j = 0
  · subst e0; rw [Nat.add_zero, h92]; rfl
  · by_cases e1 : j = 1
    · subst e1; rw [h117]; rfl
    · have := hd (j - 2) (by omega)
      rw [show n + 2 + (j - 2) = n + j by omega] at this
      unfold escAt
      rw [if_neg e0, if_neg e1, if_neg (by omega), decide_eq_true this]; rfl
theorem pref_low {s : ByteArray} {n k : Nat} (h92 : bAt s n = 92) (h117 : bAt s (n + 1) = 117) (hd : ∀ j, j < k → 0 ≤ hexV (bAt s (n + 2 + j))) (hk : k ≤ 4)
    (h13 : 1 ≤ k → hexV (bAt s (n + 2)) = 13) (h12 : 2 ≤ k → 12 ≤ hexV (bAt s (n + 2 + 1))) : prefB true s n (k + 2) = true := by
  refine pref_of _ fun j hj => ?_
  by_cases e0 : j = 0
  · subst e0; rw [Nat.add_zero, h92]; rfl
  · by_cases e1 : j = 1
    · subst e1; rw [h117]; rfl
    · have := hd (j - 2) (by omega)
      rw [show n + 2 + (j - 2) = n + j by omega] at this
      unfold escAt
      rw [if_neg e0, if_neg e1, if_neg (by omega), decide_eq_true this]
      by_cases e2 : j = 2
      · subst e2
        have := hexV_13 (h13 (by omega))
        rcases this with h | h <;> rw [h] <;> rfl
      · by_cases e3 : j = 3
        · subst e3
          have := hexV_12 (h12 (by omega))
          rw [show n + 2 + 1 = n + 3 from rfl] at this
          simp; omega
        · simp [e2, e3]
/-- An escape that a strict reader does not take. -/
theorem escape_no {s : ByteArray} {n : Nat} {f : Int} {p : Bool} {τ : St} (hn : n < s.size) (h92 : bAt s n = 92) (h : St.escape s false ⟨n + 1, f, p⟩ = (false, τ)) :
    (cE true s n).1 = 0 ∧ (cE true s n).2 ≠ 0 ∧ (τ.at_ = s.size → (cE true s n).2 = 1) := by
  unfold St.escape at h
  dsimp only at h
  split at h
  · cases h
  · rename_i he
    have hne : ¬ 0 ≤ escC (bAt s (n + 1)) := by
      unfold escC
      repeat' split
      all_goals omega
    split at h
    · rename_i h117
      have hlt : ¬ s.size < n + 2 := by
        by_cases hl : n + 1 < s.size
        · omega
        · rw [bAt_ge hl] at h117; omega
      obtain ⟨r1, half, τ1, h1⟩ : ∃ r half τ, St.unit s false false ⟨n + 1 + 1, f, p⟩ = (r, half, τ) := ⟨_, _, _, rfl⟩
      rw [h1] at h
      dsimp only at h
      unfold cE
      rw [if_neg hlt, if_neg hne, if_pos h117]
      cases r1
      · simp at h
        subst h
        obtain ⟨k, k1, k2, k3, _, k5⟩ := unit_no h1
        dsimp only at k2 k3 k5
        by_cases h6 : s.size < n + 6
        · rw [if_pos h6]
          refine ⟨rfl, by dsimp only; split <;> omega, fun ha => ?_⟩
          have := pref_unit (k := k) h92 h117 k3 (by omega)
          rw [show s.size - n = k + 2 by omega]
          dsimp only
          rw [if_pos this]
        · rw [if_neg h6]
          cases ha : hexAll s (n + 2) 4
          · rw [if_pos rfl]; exact ⟨rfl, by dsimp only; omega, fun hh => by omega⟩
          · have hA := hexAll4 ha
            have b0 := hexV_bd (bAt s (n + 2))
            have b1 := hexV_bd (bAt s (n + 2 + 1))
            have b2 := hexV_bd (bAt s (n + 2 + 2))
            have b3 := hexV_bd (bAt s (n + 2 + 3))
            have a2 := hA 2 (by omega)
            have a3 := hA 3 (by omega)
            have hk : k = 1 ∧ hexV (bAt s (n + 2)) = 13 ∧ 12 ≤ hexV (bAt s (n + 2 + 1)) := by
              rcases k5 with k5 | k5 | k5 | k5
              · have := hA k k1; rw [show n + 2 + k = n + 1 + 1 + k from rfl] at this; omega
              · cases k5.2.1
              · cases k5.2.1
              · exact ⟨k5.1, k5.2.2.1, k5.2.2.2⟩
            have hV := hexPre4 s (n + 2)
            have hsur : surB (hexPre s (n + 2) 4) = true := by unfold surB; rw [hV]; simp; omega
            have hpr : ∀ b, pairR (hexPre s (n + 2) 4) b = 65533 := fun b => by unfold pairR; rw [if_neg (by omega)]
            rw [if_neg (by simp), hsur, if_pos (show (true && true) = true from rfl)]
            by_cases h12 : s.size < n + 12
            · rw [if_pos h12]
              exact ⟨rfl, by dsimp only; split <;> omega, fun hh => by omega⟩
            · rw [if_neg h12, if_neg (fun hh => hh.2.2.2 (hpr _))]
              exact ⟨rfl, by dsimp only; omega, fun hh => by omega⟩
      · obtain ⟨u1, u2, u3, _, u5⟩ := unit_ok h1
        dsimp only at u1 u2 u3 u5
        obtain ⟨_, u6⟩ := u5 rfl
        cases half
        · simp at h
        · have u6 : 55296 ≤ hexPre s (n + 2) 4 ∧ hexPre s (n + 2) 4 < 56320 := u6 rfl
          have u3 : hexAll s (n + 2) 4 = true := u3
          have hsur : surB (hexPre s (n + 2) 4) = true := by unfold surB; simp; omega
          rw [if_neg (by omega), u3, if_neg (by simp), hsur, if_pos (show (true && true) = true from rfl)]
          simp only [Bool.and_self, if_true] at h
          have e6 : n + 1 + 1 + 4 = n + 6 := rfl
          rcases then_no h with g1 | ⟨τ2, g1, h⟩
          · obtain ⟨a1, a2⟩ := need_no g1
            rw [u2, e6] at a1 a2
            by_cases h12 : s.size < n + 12
            · rw [if_pos h12]
              refine ⟨rfl, by dsimp only; split <;> omega, fun hh => ?_⟩
              rw [show s.size - (n + 6) = 0 by omega]; rfl
            · rw [if_neg h12, if_neg (fun hh => a2 ⟨by omega, by have := hh.1; omega, by have := hh.1; omega⟩)]
              exact ⟨rfl, by dsimp only; omega, fun hh => by omega⟩
          obtain ⟨a1, a2, a3, rfl⟩ := need_ok g1
          rw [u2, e6] at a1 a2 a3
          have h92' : bAt s (n + 6) = 92 := by omega
          rcases then_no h with g2 | ⟨τ3, g2, h⟩
          · obtain ⟨b1, b2⟩ := need_no g2
            dsimp only at b1 b2
            rw [u2, e6] at b1 b2
            by_cases h12 : s.size < n + 12
            · rw [if_pos h12]
              refine ⟨rfl, by dsimp only; split <;> omega, fun hh => ?_⟩
              rw [show s.size - (n + 6) = 1 by omega, if_pos]
              exact pref_of 1 fun j hj => by
                obtain rfl : j = 0 := by omega
                rw [Nat.add_zero, h92']; rfl
            · rw [if_neg h12, if_neg (fun hh => b2 ⟨by omega, by have := hh.2.1; rw [show n + 6 + 1 = n + 7 from rfl]; omega, by have := hh.2.1; rw [show n + 6 + 1 = n + 7 from rfl]; omega⟩)]
              exact ⟨rfl, by dsimp only; omega, fun hh => by omega⟩
          obtain ⟨b1, b2, b3, rfl⟩ := need_ok g2
          dsimp only at b1 b2 b3 h
          obtain ⟨r4, hf4, τ4, g4⟩ : ∃ r half τ, St.unit s false true { at_ := τ1.at_ + 1 + 1, fault := τ1.fault, opn := τ1.opn } = (r, half, τ) := ⟨_, _, _, rfl⟩
          rw [g4] at h
          injection h with h5 h6
          dsimp only at h5 h6
          subst h5 h6
          obtain ⟨k, k1, k2, k3, k4, k5⟩ := unit_no g4
          dsimp only at k2 k3 k4 k5
          rw [u2] at b1 b2 b3 k2 k3 k4 k5
          have h117' : bAt s (n + 7) = 117 := by
            rw [show n + 1 + 1 + 4 + 1 = n + 7 from rfl] at b2 b3
            omega
          rw [show n + 1 + 1 + 4 + 1 + 1 = n + 8 from rfl] at k2 k3 k4 k5
          have k4 := k4 rfl
          by_cases h12 : s.size < n + 12
          · rw [if_pos h12]
            refine ⟨rfl, by dsimp only; split <;> omega, fun hh => ?_⟩
            rw [show s.size - (n + 6) = k + 2 by omega, if_pos]
            exact pref_low h92' h117' k3 (by omega) k4.1 k4.2
          · rw [if_neg h12, if_neg]
            · exact ⟨rfl, by dsimp only; omega, fun hh => by omega⟩
            · rintro ⟨_, _, hA, hp⟩
              have hA := hexAll4 hA
              have hV := hexPre4 s (n + 8)
              have b0 := hexV_bd (bAt s (n + 8))
              have b1 := hexV_bd (bAt s (n + 8 + 1))
              have b2 := hexV_bd (bAt s (n + 8 + 2))
              have b3 := hexV_bd (bAt s (n + 8 + 3))
              have a0 := hA 0 (by omega)
              have a1 := hA 1 (by omega)
              have a2 := hA 2 (by omega)
              have a3 := hA 3 (by omega)
              rw [Nat.add_zero] at a0
              refine hp ?_
              unfold pairR
              rw [if_neg]
              rintro ⟨_, _, q1, q2⟩
              rcases k5 with k5 | k5 | k5 | k5
              · have := hA k k1; omega
              · have := k5.2.2; omega
              · have := k4.1 (by omega); have := k5.2.2; omega
              · cases k5.2.1
    · rename_i h117
      injection h with _ h2
      have ha : τ.at_ = n + 1 := by rw [← h2, St.fail_at]
      unfold cE
      by_cases hl : s.size < n + 2
      · rw [if_pos hl]; exact ⟨rfl, by dsimp only; omega, fun _ => rfl⟩
      · rw [if_neg hl, if_neg hne, if_neg h117]; exact ⟨rfl, by dsimp only; omega, fun hh => by omega⟩
/-- A character that a strict reader does not take: at the text's end only if it is cut off. -/
theorem rune_cut {s : ByteArray} {n : Nat} {f : Int} {p : Bool} {τ : St} (hn : n < s.size) (h : St.rune s ⟨n, f, p⟩ = (false, τ)) (he : τ.at_ = s.size) : fullB s n = false := by
  unfold St.rune at h
  dsimp only at h
  unfold fullB
  dsimp only
  generalize hc : bAt s n = c at *
  split at h
  · rename_i h2
    have hl : uLen c = 2 := by unfold uLen; rw [if_pos h2]
    obtain ⟨a1, a2⟩ := need_no h
    dsimp only at a1 a2
    rw [hl, if_neg (by omega), if_neg (fun hh => by omega), if_neg (fun hh => by omega)]
  · rename_i h2
    split at h
    · rename_i h3
      have hl : uLen c = 3 := by unfold uLen; rw [if_neg h2, if_pos h3]
      have hlo : uLo c = if c = 224 then 160 else 128 := by unfold uLo; split; rfl; rw [if_neg (by omega)]
      have hhi : uHi c = if c = 237 then 159 else 191 := by unfold uHi; split; rfl; rw [if_neg (by omega)]
      rw [← hlo, ← hhi] at h
      rcases then_no h with g1 | ⟨τ2, g1, h⟩
      · obtain ⟨a1, a2⟩ := need_no g1
        dsimp only at a1 a2
        rw [hl, if_neg (by omega), if_neg (fun hh => by omega), if_neg (fun hh => by omega)]
      · obtain ⟨a1, a2, a3, rfl⟩ := need_ok g1
        obtain ⟨b1, b2⟩ := need_no h
        dsimp only at a1 a2 a3 b1 b2
        rw [hl, if_neg (by omega), if_neg (fun hh => by omega), if_neg (fun hh => by omega)]
    · rename_i h3
      split at h
      · rename_i h4
        have hl : uLen c = 4 := by unfold uLen; rw [if_neg h2, if_neg h3, if_pos h4]
        have hlo : uLo c = if c = 240 then 144 else 128 := by unfold uLo; rw [if_neg (by omega)]
        have hhi : uHi c = if c = 244 then 143 else 191 := by unfold uHi; rw [if_neg (by omega)]
        rw [← hlo, ← hhi] at h
        rcases then_no h with g1 | ⟨τ2, g1, h⟩
        · obtain ⟨a1, a2⟩ := need_no g1
          dsimp only at a1 a2
          rw [hl, if_neg (by omega), if_neg (fun hh => by omega), if_neg (fun hh => by omega)]
        · obtain ⟨a1, a2, a3, rfl⟩ := need_ok g1
          rcases then_no h with g2 | ⟨τ3, g2, h⟩
          · obtain ⟨b1, b2⟩ := need_no g2
            dsimp only at a1 a2 a3 b1 b2
            rw [hl, if_neg (by omega), if_neg (fun hh => by omega), if_neg (fun hh => by omega)]
          · obtain ⟨b1, b2, b3, rfl⟩ := need_ok g2
            obtain ⟨c1, c2⟩ := need_no h
            dsimp only at a1 a2 a3 b1 b2 b3 c1 c2
            rw [show n + 1 + 1 = n + 2 from rfl] at b1 b2 b3
            rw [hl, if_neg (by omega), if_neg (fun hh => by omega), if_neg (fun hh => by omega)]
      · injection h with _ h2
        rw [← h2, St.fail_at] at he
        dsimp only at he
        omega
/-- One step that a strict reader does not take. -/
theorem inner_no {s : ByteArray} {σ τ : St} (hn : σ.at_ < s.size) (h : St.inner s false σ = (false, τ)) :
    (cS true s σ.at_).1 = 0 ∧ (cS true s σ.at_).2 ≠ 0 ∧ (τ.at_ = s.size → (cS true s σ.at_).2 = 1) := by
  obtain ⟨n, f, p⟩ := σ
  dsimp only at hn ⊢
  unfold St.inner at h
  dsimp only at h
  unfold cS
  split at h
  · rename_i h92
    rw [if_pos h92]
    exact escape_no hn h92 h
  · rename_i h92
    rw [if_neg h92]
    split at h
    · rename_i h32
      injection h with _ h2
      have ha : τ.at_ = n := by rw [← h2, St.fail_at]
      rw [if_pos h32]; exact ⟨rfl, by dsimp only; omega, fun hh => by omega⟩
    · rename_i h32
      rw [if_neg h32]
      split at h
      · cases h
      · rename_i h128
        have h128' : ¬ bAt s n < 128 := fun hh => h128 (.inl hh)
        rw [if_neg h128']
        have hu : uw s n = 0 := by
          by_cases hu : uw s n = 0
          · exact hu
          · have R := (rune_uw s ⟨n, f, p⟩ hn (by dsimp only; omega)).1 hu
            rw [h] at R; cases R
        rw [if_pos hu]
        cases hf : fullB s n
        · rw [if_pos rfl]; exact ⟨rfl, by dsimp only; omega, fun _ => rfl⟩
        · rw [if_neg (by simp), if_pos rfl]
          exact ⟨rfl, by dsimp only; omega, fun hh => by rw [rune_cut hn h hh] at hf; cases hf⟩
/-- At the text's end. -/
theorem cO_end {s : ByteArray} {strict : Bool} {n : Nat} (h : s.size ≤ n) : ∀ g, cO strict s g n = (0, 1)
  | 0 => rfl
  | g + 1 => by unfold YtokhmhbjbclcoaaDoor.cO; rw [if_neg (by omega)]
/-- A string that a strict reader does not take. -/
theorem loop_no {s : ByteArray} : ∀ (g g' : Nat) (σ τ : St), s.size - σ.at_ ≤ g → s.size - σ.at_ ≤ g' → St.strLoop s false g σ = (false, τ) →
    (cO true s g' σ.at_).1 = 0 ∧ (cO true s g' σ.at_).2 ≠ 0 ∧ (τ.at_ = s.size → (cO true s g' σ.at_).2 = 1)
  | 0, g', σ, τ, hs, hg, h => by rw [cO_end (by omega)]; exact ⟨rfl, (by decide : (1 : Nat) ≠ 0), fun _ => rfl⟩
  | g + 1, 0, σ, τ, hs, hg, h => by rw [cO_end (by omega)]; exact ⟨rfl, (by decide : (1 : Nat) ≠ 0), fun _ => rfl⟩
  | g + 1, g' + 1, σ, τ, hs, hg, h => by
    unfold St.strLoop at h
    unfold YtokhmhbjbclcoaaDoor.cO
    split at h
    · rename_i hl
      rw [if_pos hl]
      split at h
      · cases h
      · rename_i h34
        rw [if_neg h34]
        rcases then_no h with h1 | ⟨τ2, h1, h2⟩
        · obtain ⟨a1, a2, a3⟩ := inner_no hl h1
          rw [if_pos a1]
          exact ⟨rfl, a2, a3⟩
        · obtain ⟨o, d, e1, e2, e3, e4⟩ := inner_run hl h1
          have H := loop_no g g' τ2 τ (by omega) (by omega) h2
          rw [cS_of_uS e1 e2, if_neg e2, ← e3]
          exact H
    · rename_i hl
      rw [if_neg hl]
      exact ⟨rfl, by dsimp only; omega, fun _ => rfl⟩
/-- The strict reader and the library's reading of a string at the beginning. -/
theorem shP_strict (s : ByteArray) : ((shP s true).1 = true → cq true s = ((shP s true).2.at_, 0)) ∧
    ((shP s true).1 = false → (cq true s).2 ≠ 0 ∧ ((shP s true).2.at_ = s.size → (cq true s).2 = 1)) := by
  obtain ⟨r, σ, H⟩ : ∃ r σ, St.quoted s false ⟨0, 0, false⟩ = (r, σ) := ⟨_, _, rfl⟩
  have hp : shP s true = (r, if r then { σ with at_ := σ.at_ + 1 } else σ) := by unfold shP; rw [show (!true) = false from rfl, H]
  rw [hp]
  dsimp only
  unfold cq
  unfold St.quoted at H
  refine ⟨fun hr => ?_, fun hr => ?_⟩
  · subst hr
    obtain ⟨τ, g1, g2⟩ := then_ok H
    obtain ⟨a1, a2, a3, rfl⟩ := need_ok g1
    dsimp only at a1 a2 a3 g2
    obtain ⟨X, r1, r2, r3⟩ := loop_run _ _ _ (by dsimp only; omega) g2
    dsimp only at r1
    rw [if_neg (by omega), if_pos (by omega), Run.cO r1 r3 r2 s.size (by omega)]
    rfl
  · subst hr
    rcases then_no H with g1 | ⟨τ, g1, g2⟩
    · obtain ⟨a1, a2⟩ := need_no g1
      dsimp only at a1 a2
      by_cases h0 : s.size = 0
      · rw [if_pos h0]; exact ⟨by dsimp only; omega, fun _ => rfl⟩
      · rw [if_neg h0, if_neg (by omega)]; exact ⟨by dsimp only; omega, fun hh => by simp at hh; omega⟩
    · obtain ⟨a1, a2, a3, rfl⟩ := need_ok g1
      dsimp only at a1 a2 a3 g2
      rw [if_neg (by omega), if_pos (by omega)]
      have hN := loop_no _ s.size ⟨0 + 1, 0, false⟩ σ (by dsimp only; omega) (by dsimp only; omega) g2
      exact ⟨hN.2.1, hN.2.2⟩
/-! The loose reader. -/
theorem hex3_no {s : ByteArray} {σ σ' : St} (h : St.hex3 s σ = (false, σ')) : ∃ k, k < 3 ∧ σ'.at_ = σ.at_ + k ∧ (∀ j, j < k → 0 ≤ hexV (bAt s (σ.at_ + j))) ∧ hexV (bAt s (σ.at_ + k)) < 0 := by
  have b0 := hexV_bd (bAt s σ.at_)
  rcases then_no h with h1 | ⟨τ, h1, h2⟩
  · obtain ⟨a, c⟩ := hexm_no h1
    exact ⟨0, by omega, a, fun j hj => by omega, by rw [Nat.add_zero]; omega⟩
  · obtain ⟨a1, _, rfl⟩ := hex_ok h1
    obtain ⟨k, k1, k2, k3, k4⟩ := hex2_no h2
    dsimp only at k2 k3 k4
    refine ⟨k + 1, by omega, by omega, fun j hj => ?_, by rwa [show σ.at_ + (k + 1) = σ.at_ + 1 + k by omega]⟩
    by_cases e0 : j = 0
    · subst e0; exact a1
    · have := k3 (j - 1) (by omega)
      rwa [show σ.at_ + 1 + (j - 1) = σ.at_ + j by omega] at this
theorem hex4_no {s : ByteArray} {σ σ' : St} (h : St.hex4 s σ = (false, σ')) : ∃ k, k < 4 ∧ σ'.at_ = σ.at_ + k ∧ (∀ j, j < k → 0 ≤ hexV (bAt s (σ.at_ + j))) ∧ hexV (bAt s (σ.at_ + k)) < 0 := by
  have b0 := hexV_bd (bAt s σ.at_)
  rcases then_no h with h1 | ⟨τ, h1, h2⟩
  · obtain ⟨a, c⟩ := hexm_no h1
    exact ⟨0, by omega, a, fun j hj => by omega, by rw [Nat.add_zero]; omega⟩
  · obtain ⟨a1, _, rfl⟩ := hex_ok h1
    obtain ⟨k, k1, k2, k3, k4⟩ := hex3_no h2
    dsimp only at k2 k3 k4
    refine ⟨k + 1, by omega, by omega, fun j hj => ?_, by rwa [show σ.at_ + (k + 1) = σ.at_ + 1 + k by omega]⟩
    by_cases e0 : j = 0
    · subst e0; exact a1
    · have := k3 (j - 1) (by omega)
      rwa [show σ.at_ + 1 + (j - 1) = σ.at_ + j by omega] at this
theorem hex4_ok {s : ByteArray} {σ σ' : St} (h : St.hex4 s σ = (true, σ')) : σ' = { σ with at_ := σ.at_ + 4 } ∧ hexAll s σ.at_ 4 = true ∧ σ.at_ + 4 ≤ s.size := by
  obtain ⟨τ1, h1, h⟩ := then_ok h
  obtain ⟨a1, _, rfl⟩ := hex_ok h1
  obtain ⟨τ2, h2, h⟩ := then_ok h
  obtain ⟨a2, _, rfl⟩ := hex_ok h2
  obtain ⟨τ3, h3, h⟩ := then_ok h
  obtain ⟨a3, _, rfl⟩ := hex_ok h3
  obtain ⟨a4, _, rfl⟩ := hex_ok h
  dsimp only at a1 a2 a3 a4
  have := hexV_in a4
  refine ⟨rfl, ?_, by omega⟩
  simp only [hexAll, Nat.add_zero, Bool.and_eq_true, decide_eq_true_eq, true_and]
  exact ⟨⟨⟨a1, a2⟩, a3⟩, a4⟩
/-- An escape by a loose reader. -/
theorem loose_escape {s : ByteArray} {n : Nat} {f : Int} {p r : Bool} {τ : St} (hn : n < s.size) (h92 : bAt s n = 92) (h : St.escape s true ⟨n + 1, f, p⟩ = (r, τ)) :
    (r = true → ∃ d, cE false s n = (d, 0) ∧ d ≠ 0 ∧ τ = ⟨n + d, f, p⟩ ∧ n + d ≤ s.size) ∧
    (r = false → (cE false s n).1 = 0 ∧ (cE false s n).2 ≠ 0 ∧ (τ.at_ = s.size → (cE false s n).2 = 1)) := by
  unfold St.escape at h
  dsimp only at h
  unfold cE
  split at h
  · rename_i he
    injection h with h1 h2
    subst h1 h2
    have hlt : n + 1 < s.size := by
      by_cases hl : n + 1 < s.size
      · exact hl
      · rw [bAt_ge hl] at he; omega
    refine ⟨fun _ => ⟨2, ?_, by omega, rfl, by omega⟩, fun hh => by cases hh⟩
    rw [if_neg (by omega), if_pos]
    unfold escC
    repeat' split
    all_goals omega
  · rename_i he
    have hne : ¬ 0 ≤ escC (bAt s (n + 1)) := by
      unfold escC
      repeat' split
      all_goals omega
    split at h
    · rename_i h117
      have hlt : ¬ s.size < n + 2 := by
        by_cases hl : n + 1 < s.size
        · omega
        · rw [bAt_ge hl] at h117; omega
      rw [if_neg hlt, if_neg hne, if_pos h117]
      obtain ⟨r1, τ1, h1⟩ : ∃ r τ, St.hex4 s ⟨n + 1 + 1, f, p⟩ = (r, τ) := ⟨_, _, rfl⟩
      have hu : St.unit s true false ⟨n + 1 + 1, f, p⟩ = (r1, false, τ1) := by unfold St.unit; rw [if_pos rfl, h1]
      rw [hu] at h
      dsimp only at h
      rw [Bool.and_false, if_neg (by simp)] at h
      injection h with h3 h4
      subst h3 h4
      refine ⟨fun hr => ?_, fun hr => ?_⟩
      · subst hr
        obtain ⟨rfl, a2, a3⟩ := hex4_ok h1
        dsimp only at a2 a3
        have a2 : hexAll s (n + 2) 4 = true := a2
        refine ⟨6, ?_, by omega, rfl, by omega⟩
        rw [if_neg (by omega), a2, if_neg (by simp)]; rfl
      · subst hr
        obtain ⟨k, k1, k2, k3, k4⟩ := hex4_no h1
        dsimp only at k2 k3 k4
        by_cases h6 : s.size < n + 6
        · rw [if_pos h6]
          refine ⟨rfl, by dsimp only; split <;> omega, fun ha => ?_⟩
          have := pref_unit (k := k) h92 h117 k3 (by omega)
          rw [show s.size - n = k + 2 by omega]
          dsimp only
          rw [if_pos this]
        · rw [if_neg h6]
          cases ha : hexAll s (n + 2) 4
          · rw [if_pos rfl]; exact ⟨rfl, by dsimp only; omega, fun hh => by omega⟩
          · have := hexAll4 ha k k1
            rw [show n + 2 + k = n + 1 + 1 + k from rfl] at this
            omega
    · rename_i h117
      injection h with h1 h2
      subst h1
      refine ⟨fun hh => (by cases hh), fun _ => ?_⟩
      have ha : τ.at_ = n + 1 := by rw [← h2, St.fail_at]
      by_cases hl : s.size < n + 2
      · rw [if_pos hl]; exact ⟨rfl, by dsimp only; omega, fun _ => rfl⟩
      · rw [if_neg hl, if_neg hne, if_neg h117]; exact ⟨rfl, by dsimp only; omega, fun hh => by omega⟩
/-- The loose reader and the library. -/
theorem loose_loop {s : ByteArray} (f : Int) (p : Bool) : ∀ (m n g g' : Nat), s.size - n ≤ m → s.size - n ≤ g → s.size - n ≤ g' → n ≤ s.size →
    ((St.strLoop s true g ⟨n, f, p⟩).1 = true → cO false s g' n = ((St.strLoop s true g ⟨n, f, p⟩).2.at_ + 1, 0)) ∧
    ((St.strLoop s true g ⟨n, f, p⟩).1 = false → (cO false s g' n).2 ≠ 0 ∧ ((St.strLoop s true g ⟨n, f, p⟩).2.at_ = s.size → (cO false s g' n).2 = 1))
  | 0, n, g, g', hm, hg, hg', hn => by
    rw [cO_end (by omega)]
    have : (St.strLoop s true g ⟨n, f, p⟩).1 = false := by
      cases g
      · rfl
      · unfold St.strLoop; dsimp only; rw [if_neg (by omega)]
    rw [this]
    exact ⟨fun h => (by cases h), fun _ => ⟨(by decide : (1 : Nat) ≠ 0), fun _ => rfl⟩⟩
  | m + 1, n, g, g', hm, hg, hg', hn => by
    by_cases hl : n < s.size
    case neg =>
      rw [cO_end (by omega)]
      have : (St.strLoop s true g ⟨n, f, p⟩).1 = false := by
        cases g
        · rfl
        · unfold St.strLoop; dsimp only; rw [if_neg (by omega)]
      rw [this]
      exact ⟨fun h => (by cases h), fun _ => ⟨(by decide : (1 : Nat) ≠ 0), fun _ => rfl⟩⟩
    obtain ⟨g2, rfl⟩ : ∃ g2, g' = g2 + 1 := ⟨g' - 1, by omega⟩
    obtain ⟨g1, rfl⟩ : ∃ g1, g = g1 + 1 := ⟨g - 1, by omega⟩
    by_cases h34 : bAt s n = 34
    · have e1 : St.strLoop s true (g1 + 1) ⟨n, f, p⟩ = (true, ⟨n, f, p⟩) := by unfold St.strLoop; dsimp only; rw [if_pos hl, if_pos h34]
      have e2 : cO false s (g2 + 1) n = (n + 1, 0) := by unfold YtokhmhbjbclcoaaDoor.cO; rw [if_pos hl, if_pos h34]
      rw [e1, e2]
      exact ⟨fun _ => rfl, fun h => by cases h⟩
    have hstep : ∀ d, cS false s n = (d, 0) → d ≠ 0 → cO false s (g2 + 1) n = cO false s g2 (n + d) := fun d hd h0 => by
      rw [YtokhmhbjbclcoaaDoor.cO, if_pos hl, if_neg h34, hd, if_neg h0]
    have hstop : ∀ c, cS false s n = (0, c) → cO false s (g2 + 1) n = (0, c) := fun c hd => by
      rw [YtokhmhbjbclcoaaDoor.cO, if_pos hl, if_neg h34, hd, if_pos rfl]
    have hone : ∀ r τ, St.inner s true ⟨n, f, p⟩ = (r, τ) → St.strLoop s true (g1 + 1) ⟨n, f, p⟩ = if r then St.strLoop s true g1 τ else (false, τ) := fun r τ hi => by
      rw [St.strLoop]; dsimp only; rw [if_pos hl, if_neg h34, hi]; rfl
    by_cases h92 : bAt s n = 92
    · obtain ⟨r, τ, hi⟩ : ∃ r τ, St.escape s true ⟨n + 1, f, p⟩ = (r, τ) := ⟨_, _, rfl⟩
      have hin : St.inner s true ⟨n, f, p⟩ = (r, τ) := by unfold St.inner; dsimp only; rw [if_pos h92, hi]
      have hc : cS false s n = cE false s n := by unfold cS; rw [if_pos h92]
      rw [hone r τ hin]
      obtain ⟨L1, L2⟩ := loose_escape hl h92 hi
      cases r
      · obtain ⟨a1, a2, a3⟩ := L2 rfl
        rw [hstop (cE false s n).2 (by rw [hc]; exact Prod.ext a1 rfl)]
        exact ⟨fun h => (by simp at h), fun _ => ⟨a2, a3⟩⟩
      · obtain ⟨d, a1, a2, rfl, a3⟩ := L1 rfl
        rw [hstep d (by rw [hc, a1]) a2, if_pos rfl]
        have hd2 : 2 ≤ d ∨ d = 1 := by omega
        exact loose_loop f p m (n + d) g1 g2 (by omega) (by omega) (by omega) (by omega)
    by_cases h32 : bAt s n < 32
    · have hin : St.inner s true ⟨n, f, p⟩ = (false, St.fail ⟨n, f, p⟩ 4) := by unfold St.inner; dsimp only; rw [if_neg h92, if_pos h32]
      rw [hone _ _ hin, hstop 2 (by unfold cS; rw [if_neg h92, if_pos h32])]
      refine ⟨fun h => (by simp at h), fun _ => ⟨(by decide : (2 : Nat) ≠ 0), fun hh => ?_⟩⟩
      rw [if_neg (by simp)] at hh
      rw [show (St.fail ⟨n, f, p⟩ 4).at_ = n from St.fail_at _ _] at hh
      omega
    by_cases h128 : bAt s n < 128
    · have hin : St.inner s true ⟨n, f, p⟩ = (true, ⟨n + 1, f, p⟩) := by unfold St.inner; dsimp only; rw [if_neg h92, if_neg h32, if_pos (.inl h128)]
      rw [hone _ _ hin, hstep 1 (by unfold cS; rw [if_neg h92, if_neg h32, if_pos h128]) (by omega), if_pos rfl]
      exact loose_loop f p m (n + 1) g1 g2 (by omega) (by omega) (by omega) (by omega)
    by_cases hu : uw s n = 0
    · cases hf : fullB s n
      · rw [hstop 1 (by unfold cS; rw [if_neg h92, if_neg h32, if_neg h128, if_pos hu, hf, if_pos rfl])]
        have hk := cut_high hl hf
        have hlo := loose_skip (s := s) f p (s.size - n) (g1 + 1 - (s.size - n)) n (fun j hj => ⟨by omega, hk j (by omega)⟩)
        rw [show g1 + 1 - (s.size - n) + (s.size - n) = g1 + 1 by omega, show n + (s.size - n) = s.size by omega] at hlo
        have : (St.strLoop s true (g1 + 1) ⟨n, f, p⟩).1 = false := by
          rw [hlo]
          cases g1 + 1 - (s.size - n)
          · rfl
          · unfold St.strLoop; dsimp only; rw [if_neg (by omega)]
        rw [this]
        exact ⟨fun h => (by cases h), fun _ => ⟨(by decide : (1 : Nat) ≠ 0), fun _ => rfl⟩⟩
      · have hin : St.inner s true ⟨n, f, p⟩ = (true, ⟨n + 1, f, p⟩) := by unfold St.inner; dsimp only; rw [if_neg h92, if_neg h32, if_pos (.inr rfl)]
        rw [hone _ _ hin, hstep 1 (by unfold cS; rw [if_neg h92, if_neg h32, if_neg h128, if_pos hu, hf, if_neg (by simp)]; rfl) (by omega), if_pos rfl]
        exact loose_loop f p m (n + 1) g1 g2 (by omega) (by omega) (by omega) (by omega)
    · have hf := uw_fit s n hu
      have hlo := loose_skip (s := s) f p (uw s n) (g1 + 1 - uw s n) n (uw_high hu h128)
      rw [show g1 + 1 - uw s n + uw s n = g1 + 1 by omega] at hlo
      rw [hlo, hstep (uw s n) (by unfold cS; rw [if_neg h92, if_neg h32, if_neg h128, if_neg hu]) hu]
      exact loose_loop f p m (n + uw s n) (g1 + 1 - uw s n) g2 (by omega) (by omega) (by omega) (by omega)
/-- The loose reader and the library's reading of a string at the beginning. -/
theorem shP_loose (s : ByteArray) : ((shP s false).1 = true → cq false s = ((shP s false).2.at_, 0)) ∧
    ((shP s false).1 = false → (cq false s).2 ≠ 0 ∧ ((shP s false).2.at_ = s.size → (cq false s).2 = 1)) := by
  unfold cq
  by_cases h0 : s.size = 0
  · have hp : shP s false = (false, St.fail ⟨0, 0, false⟩ 4) := by
      unfold shP St.quoted St.need; rw [if_neg (by dsimp only; omega)]; rfl
    rw [hp, if_pos h0]
    exact ⟨fun h => (by cases h), fun _ => ⟨(by decide : (1 : Nat) ≠ 0), fun _ => rfl⟩⟩
  rw [if_neg h0]
  by_cases h34 : bAt s 0 = 34
  · rw [if_pos h34]
    have hq : St.quoted s true ⟨0, 0, false⟩ = St.strLoop s true (s.size - 1) ⟨1, 0, false⟩ := by
      unfold St.quoted St.need; rw [if_pos (by dsimp only; omega)]; rfl
    have L := loose_loop (s := s) 0 false s.size 1 (s.size - 1) s.size (by omega) (by omega) (by omega) (by omega)
    have hp : shP s false = ((St.strLoop s true (s.size - 1) ⟨1, 0, false⟩).1, if (St.strLoop s true (s.size - 1) ⟨1, 0, false⟩).1 then { (St.strLoop s true (s.size - 1) ⟨1, 0, false⟩).2 with at_ := (St.strLoop s true (s.size - 1) ⟨1, 0, false⟩).2.at_ + 1 } else (St.strLoop s true (s.size - 1) ⟨1, 0, false⟩).2) := by
      unfold shP; rw [show (!false) = true from rfl, hq]
    rw [hp]
    generalize St.strLoop s true (s.size - 1) ⟨1, 0, false⟩ = R at *
    obtain ⟨r, σ⟩ := R
    dsimp only at L ⊢
    cases r
    · exact ⟨fun h => (by cases h), fun _ => L.2 rfl⟩
    · exact ⟨fun _ => L.1 rfl, fun h => (by cases h)⟩
  · rw [if_neg h34]
    have hp : shP s false = (false, St.fail ⟨0, 0, false⟩ 4) := by
      unfold shP St.quoted St.need; rw [if_neg (by dsimp only; omega)]; rfl
    rw [hp]
    refine ⟨fun h => (by cases h), fun _ => ⟨(by decide : (2 : Nat) ≠ 0), fun hh => ?_⟩⟩
    rw [show (St.fail ⟨0, 0, false⟩ 4).at_ = 0 from St.fail_at _ _] at hh
    omega
theorem shP_cq (s : ByteArray) (strict : Bool) : ((shP s strict).1 = true → cq strict s = ((shP s strict).2.at_, 0)) ∧
    ((shP s strict).1 = false → (cq strict s).2 ≠ 0 ∧ ((shP s strict).2.at_ = s.size → (cq strict s).2 = 1)) := by
  cases strict
  · exact shP_loose s
  · exact shP_strict s
end Go.Proofs.YtokhmhbjbclcoaaDoor
