/- How the model decodes a character, by its width: the plain mathematics. -/
import Derived.Test.YtokhmhbjbclcoaaUt
import Derived.Laws.RangeString
namespace Go.Proofs.Ytokhmhbjbclcoaa
set_option linter.unusedVariables false
set_option linter.unusedSimpArgs false
open Go.RowKit

def bN (s : ByteArray) (i : Nat) : Nat := (bAt s i).toNat
theorem bN_eq (s : ByteArray) (i : Nat) : (bN s i : Int) = bAt s i := by unfold bN; have := bAt_nonneg s i; omega
theorem bN_le (s : ByteArray) (i : Nat) : bN s i ≤ 255 := by have := bN_eq s i; have := bAt_le s i; omega
theorem get_bN (s : ByteArray) (i : Nat) : (s.get! i).toNat = bN s i := by
  unfold bN bAt
  by_cases h : i < s.size
  · rw [dif_pos h]
    have e : s.get! i = s[i] := by simp [ByteArray.get!, getElem!_pos, h]; rfl
    rw [e]; simp
  · rw [dif_neg h]
    have e : s.get! i = 0 := by
      show s.data[i]! = 0
      rw [getElem!_neg]; rfl
      exact h
    rw [e]; rfl

/-- The character of a width at a place. -/
def runeN (s : ByteArray) (i : Nat) : Nat :=
  if uw s i = 1 then bN s i
  else if uw s i = 2 then bN s i % 32 * 64 + bN s (i + 1) % 64
  else if uw s i = 3 then bN s i % 16 * 4096 + bN s (i + 1) % 64 * 64 + bN s (i + 2) % 64
  else if uw s i = 4 then bN s i % 8 * 262144 + bN s (i + 1) % 64 * 4096 + bN s (i + 2) % 64 * 64 + bN s (i + 3) % 64
  else 65533
def stepN (s : ByteArray) (i : Nat) : Nat := if uw s i = 0 then 1 else uw s i

theorem contB (s : ByteArray) (j : Nat) : (decide (j < s.size) && bN s j / 64 == 2) = cont (bAt s j) := by
  have h1 := bN_eq s j
  have h2 := bN_le s j
  unfold cont
  rw [Bool.eq_iff_iff]
  simp only [Bool.and_eq_true, decide_eq_true_eq, beq_iff_eq]
  constructor
  · rintro ⟨_, h⟩; omega
  · rintro ⟨h, h'⟩
    refine ⟨?_, by omega⟩
    by_cases hl : j < s.size
    · exact hl
    · rw [bAt_ge hl] at h; omega

theorem cont_in {s : ByteArray} {j : Nat} (h : cont (bAt s j) = true) : j < s.size := by
  by_cases hl : j < s.size
  · exact hl
  · rw [bAt_ge hl] at h; simp [cont] at h

/-- The width, by the bytes. -/
theorem uw_1 {s : ByteArray} {i : Nat} (h : i < s.size) (h1 : bN s i < 128) : uw s i = 1 := by
  unfold uw; rw [if_pos h, if_pos (by have := bN_eq s i; omega)]
theorem uwOk_2 (s : ByteArray) (i : Nat) : uwOk s i 2 128 191 = cont (bAt s (i + 1)) := by
  unfold uwOk
  rw [Bool.eq_iff_iff]
  constructor
  · intro h; simp [contN] at h; simp [cont]; omega
  · intro h; have := cont_in h; simp [cont] at h; simp [contN]; omega
theorem uwOk_3 (s : ByteArray) (i : Nat) (x y : Int) (hx : 128 ≤ x) (hy : y ≤ 191) : uwOk s i 3 x y = (decide (x ≤ bAt s (i + 1)) && decide (bAt s (i + 1) ≤ y) && cont (bAt s (i + 2))) := by
  unfold uwOk
  rw [Bool.eq_iff_iff]
  constructor
  · intro h; simp [contN] at h; simp; exact ⟨⟨h.1.1.2, h.1.2⟩, h.2⟩
  · intro h; simp at h; have := cont_in h.2; simp [contN]; exact ⟨⟨⟨by omega, h.1.1⟩, h.1.2⟩, h.2⟩
theorem uwOk_4 (s : ByteArray) (i : Nat) (x y : Int) (hx : 128 ≤ x) (hy : y ≤ 191) : uwOk s i 4 x y = (decide (x ≤ bAt s (i + 1)) && decide (bAt s (i + 1) ≤ y) && cont (bAt s (i + 2)) && cont (bAt s (i + 3))) := by
  unfold uwOk
  rw [Bool.eq_iff_iff]
  constructor
  · intro h; simp [contN] at h; simp; exact ⟨⟨⟨h.1.1.2, h.1.2⟩, h.2.1⟩, h.2.2⟩
  · intro h; simp at h; have := cont_in h.2; simp [contN]; exact ⟨⟨⟨by omega, h.1.1.1⟩, h.1.1.2⟩, h.1.2, h.2⟩

theorem decode_uw (s : ByteArray) (i : Nat) (h : i < s.size) : Utf8.decode s i = (runeN s i, stepN s i) := by
  have c1 := contB s (i + 1)
  have c2 := contB s (i + 2)
  have c3 := contB s (i + 3)
  have e0 := bN_eq s i
  have e1 := bN_eq s (i + 1)
  have e2 := bN_eq s (i + 2)
  have e3 := bN_eq s (i + 3)
  have l0 := bN_le s i
  unfold Utf8.decode
  simp only [get_bN, Nat.add_zero]
  simp only [c1, c2, c3]
  by_cases h1 : bN s i < 128
  · have hu := uw_1 h h1
    rw [if_pos h1]
    unfold runeN stepN
    rw [hu]; rfl
  rw [if_neg h1]
  have hn : ¬ bAt s i < 128 := by omega
  by_cases h2 : bN s i / 32 = 6
  · -- two bytes
    have hd : ((bN s i / 32 == 6) = true) := by simpa using h2
    have hf3 : (bN s i / 16 == 14) = false := by simp; omega
    have hf4 : (bN s i / 8 == 30) = false := by simp; omega
    by_cases hc : cont (bAt s (i + 1)) = true
    · have hc' := hc
      simp [cont] at hc'
      rw [if_pos (by rw [hd, hc]; rfl)]
      by_cases hge : 194 ≤ bN s i
      · have hu : uw s i = 2 := by
          have hl : uLen (bAt s i) = 2 := by unfold uLen; rw [if_pos (by omega)]
          have hlo : uLo (bAt s i) = 128 := by unfold uLo; rw [if_neg (by omega), if_neg (by omega)]
          have hhi : uHi (bAt s i) = 191 := by unfold uHi; rw [if_neg (by omega), if_neg (by omega)]
          unfold uw; rw [if_pos h, if_neg hn, hl, hlo, hhi, uwOk_2, hc]; rfl
        have hr : runeN s i = bN s i % 32 * 64 + bN s (i + 1) % 64 := by unfold runeN; rw [hu]; rfl
        have hs : stepN s i = 2 := by unfold stepN; rw [hu]; rfl
        rw [hr, hs]
        rw [if_pos (by omega)]
      · have hu : uw s i = 0 := by
          have hl : uLen (bAt s i) = 0 := by unfold uLen; rw [if_neg (by omega), if_neg (by omega), if_neg (by omega)]
          unfold uw; rw [if_pos h, if_neg hn, if_pos hl]
        have hr : runeN s i = 65533 := by unfold runeN; rw [hu]; rfl
        have hs : stepN s i = 1 := by unfold stepN; rw [hu]; rfl
        rw [hr, hs]
        rw [if_neg (by omega)]; rfl
    · have hcf : cont (bAt s (i + 1)) = false := by simpa using hc
      have hu : uw s i = 0 := by
        unfold uw; rw [if_pos h, if_neg hn]
        split
        · rfl
        · rename_i hl
          have hl2 : uLen (bAt s i) = 2 := by unfold uLen at hl ⊢; split; rfl; rename_i h3; rw [if_neg h3] at hl; rw [if_neg (by omega), if_neg (by omega)] at hl; exact absurd rfl hl
          have hlo : uLo (bAt s i) = 128 := by unfold uLo; rw [if_neg (by omega), if_neg (by omega)]
          have hhi : uHi (bAt s i) = 191 := by unfold uHi; rw [if_neg (by omega), if_neg (by omega)]
          rw [hl2, hlo, hhi, uwOk_2, hcf]; rfl
      have hr : runeN s i = 65533 := by unfold runeN; rw [hu]; rfl
      have hs : stepN s i = 1 := by unfold stepN; rw [hu]; rfl
      rw [hr, hs, hd, hcf, hf3, hf4]; rfl
  have hf2 : (bN s i / 32 == 6) = false := by simpa using h2
  by_cases h3 : bN s i / 16 = 14
  · have hd : ((bN s i / 16 == 14) = true) := by simpa using h3
    have hf4 : (bN s i / 8 == 30) = false := by simp; omega
    have hl : uLen (bAt s i) = 3 := by unfold uLen; rw [if_neg (by omega), if_pos (by omega)]
    have hlo : uLo (bAt s i) = if bN s i = 224 then 160 else 128 := by
      unfold uLo; by_cases e : bN s i = 224
      · rw [if_pos (by omega), if_pos e]
      · rw [if_neg (by omega), if_neg e, if_neg (by omega)]
    have hhi : uHi (bAt s i) = if bN s i = 237 then 159 else 191 := by
      unfold uHi; by_cases e : bN s i = 237
      · rw [if_pos (by omega), if_pos e]
      · rw [if_neg (by omega), if_neg e, if_neg (by omega)]
    have hok : uwOk s i 3 (uLo (bAt s i)) (uHi (bAt s i)) = (decide (uLo (bAt s i) ≤ bAt s (i + 1)) && decide (bAt s (i + 1) ≤ uHi (bAt s i)) && cont (bAt s (i + 2))) :=
      uwOk_3 _ _ _ _ (by rw [hlo]; split <;> omega) (by rw [hhi]; split <;> omega)
    by_cases hc : cont (bAt s (i + 1)) = true ∧ cont (bAt s (i + 2)) = true
    · obtain ⟨k1, k2⟩ := hc
      have k1' := k1
      have k2' := k2
      simp [cont] at k1' k2'
      rw [hf2, hd, k1, k2]
      simp only [Bool.false_and, Bool.true_and, Bool.and_true, if_true, Bool.false_eq_true, if_false]
      have hun : uw s i = if (decide (uLo (bAt s i) ≤ bAt s (i + 1)) && decide (bAt s (i + 1) ≤ uHi (bAt s i))) = true then 3 else 0 := by
        unfold uw; rw [if_pos h, if_neg hn, hl, if_neg (by omega), hok, k2, Bool.and_true]
      rw [hlo, hhi] at hun
      by_cases hv : (bN s i = 224 → 160 ≤ bN s (i + 1)) ∧ (bN s i = 237 → bN s (i + 1) ≤ 159)
      · have hu : uw s i = 3 := by
          rw [hun, if_pos]
          simp only [Bool.and_eq_true, decide_eq_true_eq]
          constructor
          · split <;> omega
          · split <;> omega
        have hr : runeN s i = bN s i % 16 * 4096 + bN s (i + 1) % 64 * 64 + bN s (i + 2) % 64 := by unfold runeN; rw [hu]; rfl
        have hs : stepN s i = 3 := by unfold stepN; rw [hu]; rfl
        rw [hr, hs, if_pos]
        unfold Utf8.valid
        simp
        omega
      · have hu : uw s i = 0 := by
          rw [hun, if_neg]
          simp only [Bool.and_eq_true, decide_eq_true_eq]
          intro hh
          apply hv
          constructor
          · intro e; rw [if_pos e] at hh; omega
          · intro e; rw [if_pos e] at hh; omega
        have hr : runeN s i = 65533 := by unfold runeN; rw [hu]; rfl
        have hs : stepN s i = 1 := by unfold stepN; rw [hu]; rfl
        rw [hr, hs, if_neg]
        · rfl
        · unfold Utf8.valid
          simp
          omega
    · have hu : uw s i = 0 := by
        unfold uw; rw [if_pos h, if_neg hn, hl, if_neg (by omega), hok, if_neg]
        intro hh
        simp only [Bool.and_eq_true, decide_eq_true_eq] at hh
        apply hc
        refine ⟨?_, hh.2⟩
        have h5 := hh.1
        rw [hlo, hhi] at h5
        simp [cont]
        constructor
        · have := h5.1; split at this <;> omega
        · have := h5.2; split at this <;> omega
      have hr : runeN s i = 65533 := by unfold runeN; rw [hu]; rfl
      have hs : stepN s i = 1 := by unfold stepN; rw [hu]; rfl
      have hcf : (cont (bAt s (i + 1)) && cont (bAt s (i + 2))) = false := by
        rw [Bool.eq_false_iff]; intro hh; rw [Bool.and_eq_true] at hh; exact hc hh
      rw [hr, hs, hf2, hd, hf4, Bool.true_and, hcf]; rfl
  have hf3 : (bN s i / 16 == 14) = false := by simpa using h3
  by_cases h4 : bN s i / 8 = 30
  · have hd : ((bN s i / 8 == 30) = true) := by simpa using h4
    by_cases h245 : bN s i ≤ 244
    · have hl : uLen (bAt s i) = 4 := by unfold uLen; rw [if_neg (by omega), if_neg (by omega), if_pos (by omega)]
      have hlo : uLo (bAt s i) = if bN s i = 240 then 144 else 128 := by
        unfold uLo; by_cases e : bN s i = 240
        · rw [if_neg (by omega), if_pos (by omega), if_pos e]
        · rw [if_neg (by omega), if_neg (by omega), if_neg e]
      have hhi : uHi (bAt s i) = if bN s i = 244 then 143 else 191 := by
        unfold uHi; by_cases e : bN s i = 244
        · rw [if_neg (by omega), if_pos (by omega), if_pos e]
        · rw [if_neg (by omega), if_neg (by omega), if_neg e]
      have hok : uwOk s i 4 (uLo (bAt s i)) (uHi (bAt s i)) = (decide (uLo (bAt s i) ≤ bAt s (i + 1)) && decide (bAt s (i + 1) ≤ uHi (bAt s i)) && cont (bAt s (i + 2)) && cont (bAt s (i + 3))) :=
        uwOk_4 _ _ _ _ (by rw [hlo]; split <;> omega) (by rw [hhi]; split <;> omega)
      by_cases hc : cont (bAt s (i + 1)) = true ∧ cont (bAt s (i + 2)) = true ∧ cont (bAt s (i + 3)) = true
      · obtain ⟨k1, k2, k3⟩ := hc
        have k1' := k1
        have k2' := k2
        have k3' := k3
        simp [cont] at k1' k2' k3'
        rw [hf2, hf3, hd, k1, k2, k3]
        simp only [Bool.false_and, Bool.true_and, Bool.and_true, if_true, Bool.false_eq_true, if_false]
        have hun : uw s i = if (decide (uLo (bAt s i) ≤ bAt s (i + 1)) && decide (bAt s (i + 1) ≤ uHi (bAt s i))) = true then 4 else 0 := by
          unfold uw; rw [if_pos h, if_neg hn, hl, if_neg (by omega), hok, k2, k3, Bool.and_true, Bool.and_true]
        rw [hlo, hhi] at hun
        by_cases hv : (bN s i = 240 → 144 ≤ bN s (i + 1)) ∧ (bN s i = 244 → bN s (i + 1) ≤ 143)
        · have hu : uw s i = 4 := by
            rw [hun, if_pos]
            simp only [Bool.and_eq_true, decide_eq_true_eq]
            constructor
            · split <;> omega
            · split <;> omega
          have hr : runeN s i = bN s i % 8 * 262144 + bN s (i + 1) % 64 * 4096 + bN s (i + 2) % 64 * 64 + bN s (i + 3) % 64 := by unfold runeN; rw [hu]; rfl
          have hs : stepN s i = 4 := by unfold stepN; rw [hu]; rfl
          rw [hr, hs, if_pos]
          unfold Utf8.valid
          simp
          omega
        · have hu : uw s i = 0 := by
            rw [hun, if_neg]
            simp only [Bool.and_eq_true, decide_eq_true_eq]
            intro hh
            apply hv
            constructor
            · intro e; rw [if_pos e] at hh; omega
            · intro e; rw [if_pos e] at hh; omega
          have hr : runeN s i = 65533 := by unfold runeN; rw [hu]; rfl
          have hs : stepN s i = 1 := by unfold stepN; rw [hu]; rfl
          rw [hr, hs, if_neg]
          · rfl
          · unfold Utf8.valid
            simp
            omega
      · have hu : uw s i = 0 := by
          unfold uw; rw [if_pos h, if_neg hn, hl, if_neg (by omega), hok, if_neg]
          intro hh
          simp only [Bool.and_eq_true, decide_eq_true_eq] at hh
          apply hc
          refine ⟨?_, hh.1.2, hh.2⟩
          have h5 := hh.1.1
          rw [hlo, hhi] at h5
          simp [cont]
          constructor
          · have := h5.1; split at this <;> omega
          · have := h5.2; split at this <;> omega
        have hr : runeN s i = 65533 := by unfold runeN; rw [hu]; rfl
        have hs : stepN s i = 1 := by unfold stepN; rw [hu]; rfl
        have hcf : (cont (bAt s (i + 1)) && cont (bAt s (i + 2)) && cont (bAt s (i + 3))) = false := by
          rw [Bool.eq_false_iff]; intro hh; simp only [Bool.and_eq_true] at hh; exact hc ⟨hh.1.1, hh.1.2, hh.2⟩
        rw [hr, hs, hf2, hf3, hd, Bool.true_and, hcf]; rfl
    · have hu : uw s i = 0 := by
        have hl : uLen (bAt s i) = 0 := by unfold uLen; rw [if_neg (by omega), if_neg (by omega), if_neg (by omega)]
        unfold uw; rw [if_pos h, if_neg hn, if_pos hl]
      have hr : runeN s i = 65533 := by unfold runeN; rw [hu]; rfl
      have hs : stepN s i = 1 := by unfold stepN; rw [hu]; rfl
      rw [hr, hs, hf2, hf3]
      simp only [Bool.false_and, Bool.false_eq_true, if_false]
      split
      · rw [if_neg]
        · rfl
        · unfold Utf8.valid
          simp
          omega
      · rfl
  · have hf4 : (bN s i / 8 == 30) = false := by simpa using h4
    have hu : uw s i = 0 := by
      have hl : uLen (bAt s i) = 0 := by unfold uLen; rw [if_neg (by omega), if_neg (by omega), if_neg (by omega)]
      unfold uw; rw [if_pos h, if_neg hn, if_pos hl]
    have hr : runeN s i = 65533 := by unfold runeN; rw [hu]; rfl
    have hs : stepN s i = 1 := by unfold stepN; rw [hu]; rfl
    rw [hr, hs, hf2, hf3, hf4]; rfl

theorem runeN_ge (s : ByteArray) (i : Nat) (h : i < s.size) (hb : ¬ bN s i < 128) : 128 ≤ runeN s i := by
  have e := congrArg Prod.fst (decode_uw s i h)
  dsimp only at e
  rw [← e]
  unfold Utf8.decode
  simp only [get_bN, Nat.add_zero]
  rw [if_neg hb]
  repeat' split
  all_goals first | (show 128 ≤ 65533; omega) | (rename_i hc; simp at hc; dsimp only; omega)
end Go.Proofs.Ytokhmhbjbclcoaa
