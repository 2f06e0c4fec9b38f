/- Two strings need an escape together just if one of them does: the plain law. -/
import Derived.Test.YtbnnjjilkpdanaaDoorNe
import Derived.Test.YtbnnjjilkpdanaaDoorSr
namespace Go.Proofs.YtbnnjjilkpdanaaDoor
open Go.RowKit
set_option linter.unusedVariables false

theorem uLo_ge (c : Int) : 128 ≤ uLo c := by unfold uLo; repeat' split
                                             all_goals omega
/-- A character that stands in another text. -/
theorem same_char {s t : ByteArray} {k j : Nat} (hu : uw s k ≠ 0) (hj : j + uw s k ≤ t.size) (hb : ∀ i, i < uw s k → bAt t (j + i) = bAt s (k + i)) : uw t j = uw s k ∧ runeN t j = runeN s k := by
  have hk : k < s.size := by
    by_cases h : k < s.size
    · exact h
    · exfalso; apply hu; unfold uw; rw [if_neg h]
  have hf := uw_fit s k hu
  have h0 : bAt t j = bAt s k := by have := hb 0 (by omega); simpa using this
  have huw : uw t j = uw s k := by
    by_cases hc : bAt s k < 128
    · have h1 := (uw_one s k hk).1 hc
      have : j < t.size := by omega
      rw [h1]; exact (uw_one t j this).1 (by rw [h0]; exact hc)
    · have e : uw s k = if uLen (bAt s k) = 0 then 0 else if uwOk s k (uLen (bAt s k)) (uLo (bAt s k)) (uHi (bAt s k)) then uLen (bAt s k) else 0 := by
        unfold uw; rw [if_pos hk, if_neg hc]
      have e2 : uw t j = if uLen (bAt s k) = 0 then 0 else if uwOk t j (uLen (bAt s k)) (uLo (bAt s k)) (uHi (bAt s k)) then uLen (bAt s k) else 0 := by
        unfold uw; rw [if_pos (by omega), h0, if_neg hc]
      have hlo := uLo_ge (bAt s k)
      rcases uLen_cases (bAt s k) with hl | hl | hl | hl
      · exfalso; apply hu; rw [e, if_pos hl]
      · rw [hl] at e e2
        rw [if_neg (by omega)] at e e2
        split at e
        · rename_i ho
          have b1 := hb 1 (by omega)
          rw [uwOk_2' _ _ _ _ hlo] at ho
          rw [uwOk_2' _ _ _ _ hlo, if_pos] at e2
          · rw [e, e2]
          · rw [b1]; simp only [decide_eq_true_eq] at ho ⊢; omega
        · exact absurd e hu
      · rw [hl] at e e2
        rw [if_neg (by omega)] at e e2
        split at e
        · rename_i ho
          have b1 := hb 1 (by omega)
          have b2 := hb 2 (by omega)
          rw [uwOk_3' _ _ _ _ hlo] at ho
          rw [uwOk_3' _ _ _ _ hlo, if_pos] at e2
          · rw [e, e2]
          · rw [b1, b2]; simp only [Bool.and_eq_true, decide_eq_true_eq] at ho ⊢; omega
        · exact absurd e hu
      · rw [hl] at e e2
        rw [if_neg (by omega)] at e e2
        split at e
        · rename_i ho
          have b1 := hb 1 (by omega)
          have b2 := hb 2 (by omega)
          have b3 := hb 3 (by omega)
          rw [uwOk_4' _ _ _ _ hlo] at ho
          rw [uwOk_4' _ _ _ _ hlo, if_pos] at e2
          · rw [e, e2]
          · rw [b1, b2, b3]; simp only [Bool.and_eq_true, decide_eq_true_eq] at ho ⊢; omega
        · exact absurd e hu
  refine ⟨huw, ?_⟩
  have hbn : ∀ i, i < uw s k → bN t (j + i) = bN s (k + i) := fun i hi => by unfold bN; rw [hb i hi]
  have n0 : bN t j = bN s k := by unfold bN; rw [h0]
  unfold runeN
  rw [huw]
  by_cases h1 : uw s k = 1
  · rw [if_pos h1, if_pos h1, n0]
  · rw [if_neg h1, if_neg h1]
    by_cases h2 : uw s k = 2
    · rw [if_pos h2, if_pos h2, n0, hbn 1 (by omega)]
    · rw [if_neg h2, if_neg h2]
      by_cases h3 : uw s k = 3
      · rw [if_pos h3, if_pos h3, n0, hbn 1 (by omega), hbn 2 (by omega)]
      · rw [if_neg h3, if_neg h3]
        by_cases h4 : uw s k = 4
        · rw [if_pos h4, if_pos h4, n0, hbn 1 (by omega), hbn 2 (by omega), hbn 3 (by omega)]
        · rw [if_neg h4, if_neg h4]
theorem same_ne {s t : ByteArray} {k j : Nat} (hu : uw s k ≠ 0) (hj : j + uw s k ≤ t.size) (hb : ∀ i, i < uw s k → bAt t (j + i) = bAt s (k + i)) : neC t j = neC s k := by
  obtain ⟨h1, h2⟩ := same_char hu hj hb
  have h0 : bAt t j = bAt s k := by have := hb 0 (by omega); simpa using this
  unfold neC
  rw [h0, h2]
theorem bAt_left (a b : ByteArray) {i : Nat} (h : i < a.size) : bAt (a ++ b) i = bAt a i := by
  rw [bAt_lt (by rw [ByteArray.size_append]; omega), bAt_lt h, ByteArray.getElem_append_left h]
theorem bAt_right (a b : ByteArray) (i : Nat) (h : i < b.size) : bAt (a ++ b) (a.size + i) = bAt b i := by
  rw [bAt_lt (by rw [ByteArray.size_append]; omega), bAt_lt h, ByteArray.getElem_append_right (by omega)]
  simp

/-- From a place on within a text that stands in another one: as far as the text goes. -/
theorem ne_within {s t : ByteArray} {o : Nat} (ho : o + s.size ≤ t.size) (hb : ∀ i, i < s.size → bAt t (o + i) = bAt s i) :
    ∀ (g G k : Nat), s.size - k ≤ g → k ≤ s.size → t.size - (o + k) ≤ G → textF s (s.size - k) k = true →
      ∃ G', t.size - (o + s.size) ≤ G' ∧ neF t G (o + k) = (neF s g k || neF t G' (o + s.size))
  | g, G, k, hg, hks, hG, ht => by
    by_cases hk : k < s.size
    · obtain ⟨g', rfl⟩ : ∃ g', g = g' + 1 := ⟨g - 1, by omega⟩
      obtain ⟨G1, rfl⟩ : ∃ G1, G = G1 + 1 := ⟨G - 1, by omega⟩
      obtain ⟨hu, ht2⟩ := text_next ht hk
      have hf := uw_fit s k hu
      have hbb : ∀ i, i < uw s k → bAt t (o + k + i) = bAt s (k + i) := fun i hi => by rw [Nat.add_assoc]; exact hb (k + i) (by omega)
      obtain ⟨c1, c2⟩ := same_char hu (by omega : o + k + uw s k ≤ t.size) hbb
      have c3 := same_ne hu (by omega : o + k + uw s k ≤ t.size) hbb
      have st1 : stepN s k = uw s k := by unfold stepN; rw [if_neg hu]
      have st2 : stepN t (o + k) = uw s k := by unfold stepN; rw [c1, if_neg hu]
      obtain ⟨G', hG', e⟩ := ne_within ho hb g' G1 (k + uw s k) (by omega) hf (by omega) ht2
      refine ⟨G', hG', ?_⟩
      rw [neF, if_pos (by omega), neF, if_pos hk, c3, st1, st2, Nat.add_assoc, e, Bool.or_assoc]
    · have : k = s.size := by omega
      subst this
      refine ⟨G, hG, ?_⟩
      have : neF s g s.size = false := by cases g; rfl; rw [neF, if_neg hk]
      rw [this, Bool.false_or]
termination_by g _ _ => g

theorem ne_fuel (s : ByteArray) : ∀ (g G k : Nat), s.size - k ≤ g → s.size - k ≤ G → neF s g k = neF s G k
  | 0, 0, k, _, _ => rfl
  | 0, G + 1, k, h, _ => by rw [neF, neF, if_neg (by omega)]
  | g + 1, 0, k, _, h => by rw [neF, neF, if_neg (by omega)]
  | g + 1, G + 1, k, h1, h2 => by
    rw [neF, neF]
    by_cases hk : k < s.size
    · have := step_fits s k hk
      rw [if_pos hk, if_pos hk, ne_fuel s g G (k + stepN s k) (by omega) (by omega)]
    · rw [if_neg hk, if_neg hk]

theorem ne_join (a b : ByteArray) (ha : textF a a.size 0 = true) (hb : textF b b.size 0 = true) : neF (a ++ b) (a ++ b).size 0 = (neF a a.size 0 || neF b b.size 0) := by
  have hz : (a ++ b).size = a.size + b.size := ByteArray.size_append
  obtain ⟨G1, hG1, e1⟩ := ne_within (s := a) (t := a ++ b) (o := 0) (by omega) (fun i hi => by rw [Nat.zero_add]; exact bAt_left a b hi) a.size (a ++ b).size 0 (by omega) (by omega) (by omega) (by rw [Nat.sub_zero]; exact ha)
  obtain ⟨G2, hG2, e2⟩ := ne_within (s := b) (t := a ++ b) (o := a.size) (by omega) (fun i hi => bAt_right a b i hi) b.size G1 0 (by omega) (by omega) (by omega) (by rw [Nat.sub_zero]; exact hb)
  rw [Nat.add_zero] at e1 e2
  rw [Nat.zero_add] at e1
  rw [e1, e2]
  have : neF (a ++ b) G2 (a.size + b.size) = false := by cases G2; rfl; rw [neF, if_neg (by omega)]
  rw [this, Bool.or_false]

/-- Of a text without U+FFFD: a character needs an escape just if something else stands for it. -/
theorem ne_char (s : ByteArray) (k : Nat) (hk : k < s.size) (hu : uw s k ≠ 0) (hbr : brkAt s k = false) : neC s k = decide (qsC s k ≠ sub s k (k + uw s k)) := by
  unfold neC qsC
  by_cases hX : bAt s k < 128
  · rw [if_pos hX, if_pos hX, (uw_one s k hk).1 hX, sub_one]
    have h0 := bAt_nonneg s k
    generalize bAt s k = X at *
    rw [Bool.eq_iff_iff]
    simp only [decide_eq_true_eq, ne_eq]
    unfold escT qS1
    constructor
    · intro h
      split at h
      · rename_i hs
        split
        · simp [unitT]
        · rw [if_pos (by omega)]
          unfold escA
          repeat' split
          all_goals simp [unitT]
      · omega
    · intro h
      split
      · rfl
      · exfalso; apply h
        rw [if_neg (by omega), if_neg (by omega)]
  · rw [if_neg hX, if_neg hX]
    have hX1 := bAt_le s k
    have u1 : uw s k ≠ 1 := fun h => hX ((uw_one s k hk).2 h)
    have hul : uw s k = uLen (bAt s k) ∧ uLen (bAt s k) ≠ 0 ∧ uwOk s k (uLen (bAt s k)) (uLo (bAt s k)) (uHi (bAt s k)) = true := by
      have e : uw s k = if uLen (bAt s k) = 0 then 0 else if uwOk s k (uLen (bAt s k)) (uLo (bAt s k)) (uHi (bAt s k)) then uLen (bAt s k) else 0 := by
        unfold uw; rw [if_pos hk, if_neg hX]
      split at e
      · exact absurd e hu
      · rename_i h1
        split at e
        · rename_i h2; exact ⟨e, h1, h2⟩
        · exact absurd e hu
    obtain ⟨hl, hl0, hok⟩ := hul
    have hlo := uLo_ge (bAt s k)
    have hcs : ∀ m, sub s k (k + m) = (List.range m).map fun t => bAt s (k + t) := fun m => by unfold sub; rw [Nat.add_sub_cancel_left]
    have b0 := bN_eq s k
    rw [Bool.eq_iff_iff]
    simp only [decide_eq_true_eq, ne_eq, Bool.or_eq_true]
    unfold qSm
    rcases uLen_cases (bAt s k) with h | h | h | h
    · exact absurd h hl0
    · rw [h] at hl hok
      have hr : uLen (bAt s k) = 2 → 194 ≤ bAt s k ∧ bAt s k ≤ 223 := by unfold uLen; intro h; split at h; assumption; repeat' split at h
                                                                         all_goals omega
      have hr2 := hr h
      have hlen : (sub s k (k + 2)).length = 2 := by rw [sub_len]; omega
      have n1 : sub s k (k + 2) ≠ [226, 128, 168] := fun h => by rw [h] at hlen; cases hlen
      have n2 : sub s k (k + 2) ≠ [226, 128, 169] := fun h => by rw [h] at hlen; cases hlen
      rw [hl, if_neg n1, if_neg n2]
      have hrn : runeN s k = bN s k % 32 * 64 + bN s (k + 1) % 64 := by unfold runeN; rw [if_neg (by omega), if_pos hl]
      have : runeN s k < 2048 := by rw [hrn]; omega
      constructor
      · intro h; omega
      · intro h; exact absurd rfl h
    · rw [h] at hl hok
      have hr : uLen (bAt s k) = 3 → 224 ≤ bAt s k ∧ bAt s k ≤ 239 := by unfold uLen; intro h; split at h; omega; split at h; assumption; split at h
                                                                         all_goals omega
      have hr2 := hr h
      rw [uwOk_3' _ _ _ _ hlo] at hok
      simp only [Bool.and_eq_true, decide_eq_true_eq] at hok
      have hhi : uHi (bAt s k) ≤ 191 := by unfold uHi; repeat' split
                                           all_goals omega
      have b1 := bN_eq s (k + 1)
      have b2 := bN_eq s (k + 2)
      rw [hl]
      have hsub : sub s k (k + 3) = [bAt s k, bAt s (k + 1), bAt s (k + 2)] := by
        rw [sub_snoc s (by omega : k ≤ k + 2), sub_snoc s (by omega : k ≤ k + 1), sub_one]; rfl
      rw [hsub]
      have hrn : runeN s k = bN s k % 16 * 4096 + bN s (k + 1) % 64 * 64 + bN s (k + 2) % 64 := by unfold runeN; rw [if_neg (by omega), if_neg (by omega), if_pos hl]
      unfold brkAt at hbr
      have hbr' : ¬ (bAt s k = 239 ∧ bAt s (k + 1) = 191 ∧ bAt s (k + 2) = 189) := by
        intro hh; rw [hh.1, hh.2.1, hh.2.2] at hbr; simp at hbr
      rw [hrn]
      constructor
      · intro hh
        split
        · simp [unitT]
        · split
          · simp [unitT]
          · rename_i g1 g2
            exfalso
            simp only [List.cons.injEq, and_true] at g1 g2
            omega
      · intro hh
        split at hh
        · rename_i g1
          simp only [List.cons.injEq, and_true] at g1
          omega
        · split at hh
          · rename_i g1
            simp only [List.cons.injEq, and_true] at g1
            omega
          · exact absurd rfl hh
    · rw [h] at hl hok
      have hr : uLen (bAt s k) = 4 → 240 ≤ bAt s k ∧ bAt s k ≤ 244 := by unfold uLen; intro h; split at h; omega; split at h; omega; split at h; assumption; omega
      have hr2 := hr h
      rw [uwOk_4' _ _ _ _ hlo] at hok
      simp only [Bool.and_eq_true, decide_eq_true_eq] at hok
      have hlen : (sub s k (k + 4)).length = 4 := by rw [sub_len]; omega
      have n1 : sub s k (k + 4) ≠ [226, 128, 168] := fun h => by rw [h] at hlen; cases hlen
      have n2 : sub s k (k + 4) ≠ [226, 128, 169] := fun h => by rw [h] at hlen; cases hlen
      rw [hl, if_neg n1, if_neg n2]
      have b1 := bN_eq s (k + 1)
      have hrn : runeN s k = bN s k % 8 * 262144 + bN s (k + 1) % 64 * 4096 + bN s (k + 2) % 64 * 64 + bN s (k + 3) % 64 := by unfold runeN; rw [if_neg (by omega), if_neg (by omega), if_neg (by omega), if_pos hl]
      have hhi : uHi (bAt s k) ≤ 191 := by unfold uHi; repeat' split
                                           all_goals omega
      have hlo2 : bAt s k = 240 → uLo (bAt s k) = 144 := by intro e; unfold uLo; rw [if_neg (by omega), if_pos e]
      have : 65536 ≤ runeN s k := by
        rw [hrn]
        by_cases e : bAt s k = 240
        · have := hlo2 e; omega
        · omega
      constructor
      · intro h; omega
      · intro h; exact absurd rfl h

theorem sim_ne (s : ByteArray) : ∀ (g k : Nat), s.size - k ≤ g → k ≤ s.size → textF s (s.size - k) k = true → (∀ i, i + 3 ≤ s.size → brkAt s i = false) →
    (s.size - k ≤ (qsO s g k).length) ∧ neF s g k = decide (qsO s g k ≠ sub s k s.size)
  | 0, k, hg, hk, ht, hb => by
    have : k = s.size := by omega
    subst this
    rw [sub_self]
    exact ⟨by omega, rfl⟩
  | g + 1, k, hg, hks, ht, hb => by
    by_cases hk : k < s.size
    · obtain ⟨hu, ht2⟩ := text_next ht hk
      have hf := uw_fit s k hu
      obtain ⟨e1, e2⟩ := sim_ne s g (k + uw s k) (by omega) hf ht2 hb
      have hlen := qsC_len s k hk hu
      have hbr : brkAt s k = false := by
        by_cases h3 : k + 3 ≤ s.size
        · exact hb k h3
        · unfold brkAt
          by_cases h2 : k + 2 < s.size
          · omega
          · rw [bAt_ge h2]; simp
      have hne := ne_char s k hk hu hbr
      have st1 : stepN s k = uw s k := by unfold stepN; rw [if_neg hu]
      rw [qsO, if_pos hk, neF, if_pos hk, hne, st1, e2]
      refine ⟨by rw [List.length_append]; omega, ?_⟩
      have hsub := sub_app s (show k ≤ k + uw s k by omega) hf
      have hl1 : (sub s k (k + uw s k)).length = uw s k := by rw [sub_len]; omega
      have hl2 : (sub s (k + uw s k) s.size).length = s.size - (k + uw s k) := sub_len _ _ _
      rw [← hsub]
      rw [Bool.eq_iff_iff]
      simp only [Bool.or_eq_true, decide_eq_true_eq, ne_eq]
      constructor
      · intro h he
        have hl : (qsC s k).length = (sub s k (k + uw s k)).length := by
          have := congrArg List.length he
          simp only [List.length_append] at this
          omega
        obtain ⟨x1, x2⟩ := List.append_inj he hl
        rcases h with h | h
        · exact h x1
        · exact h x2
      · intro h
        by_cases hc : qsC s k = sub s k (k + uw s k)
        · right; intro h2; exact h (by rw [hc, h2])
        · exact .inl hc
    · have : k = s.size := by omega
      subst this
      rw [qsO, if_neg hk, neF, if_neg hk, sub_self]
      exact ⟨by omega, by simp⟩
theorem hb_all (s : ByteArray) : ∀ (g i : Nat), s.size - i ≤ g → hbF s g i = false → ∀ j, i ≤ j → j + 3 ≤ s.size → brkAt s j = false
  | 0, i, hg, h, j, hij, hj => by omega
  | g + 1, i, hg, h, j, hij, hj => by
    rw [hbF, if_pos (by omega)] at h
    rw [Bool.or_eq_false_iff] at h
    by_cases e : j = i
    · subst e; exact h.1
    · exact hb_all s g (i + 1) (by omega) h.2 j (by omega) hj
/-- A text without U+FFFD needs an escape just if it isn't simple. -/
theorem ne_sim (s : ByteArray) (ht : textF s s.size 0 = true) (hb : hbF s s.size 0 = false) : neF s s.size 0 = !simB s := by
  have h := (sim_ne s s.size 0 (by omega) (by omega) (by rw [Nat.sub_zero]; exact ht) (fun i hi => hb_all s s.size 0 (by omega) hb i (by omega) hi)).2
  rw [h, sub_all]
  unfold simB
  rw [Bool.eq_iff_iff]
  simp
end Go.Proofs.YtbnnjjilkpdanaaDoor
