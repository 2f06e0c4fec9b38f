/- The width of a character by the reference: the reader's word and the walk of spec.Width. -/
import Derived.Test.YtokhmhbjbclcoaaDoorRd4
import Derived.Test.YtokhmhbjbclcoaaDoorUt
namespace Go.Proofs.YtokhmhbjbclcoaaDoor
set_option linter.unusedVariables false
set_option linter.unusedSimpArgs false
open Go.RowKit

theorem uwOk_3' (s : ByteArray) (i : Nat) (x y : Int) (h : 128 ≤ x) : uwOk s i 3 x y = (decide (i + 1 < s.size ∧ x ≤ bAt s (i + 1) ∧ bAt s (i + 1) ≤ y) && decide (i + 2 < s.size ∧ 128 ≤ bAt s (i + 2) ∧ bAt s (i + 2) ≤ 191)) := by
  unfold uwOk
  rw [show (3 : Nat) - 2 = 1 from rfl, contN, contN, cont]
  rw [Bool.eq_iff_iff]
  simp only [Bool.and_eq_true, decide_eq_true_eq, Bool.and_true]
  omega
theorem uwOk_2' (s : ByteArray) (i : Nat) (x y : Int) (h : 128 ≤ x) : uwOk s i 2 x y = decide (i + 1 < s.size ∧ x ≤ bAt s (i + 1) ∧ bAt s (i + 1) ≤ y) := by
  unfold uwOk
  rw [show (2 : Nat) - 2 = 0 from rfl, contN]
  rw [Bool.eq_iff_iff]
  simp only [Bool.and_eq_true, decide_eq_true_eq, Bool.and_true]
  omega
theorem uwOk_4' (s : ByteArray) (i : Nat) (x y : Int) (h : 128 ≤ x) : uwOk s i 4 x y = (decide (i + 1 < s.size ∧ x ≤ bAt s (i + 1) ∧ bAt s (i + 1) ≤ y) && (decide (i + 2 < s.size ∧ 128 ≤ bAt s (i + 2) ∧ bAt s (i + 2) ≤ 191) && decide (i + 3 < s.size ∧ 128 ≤ bAt s (i + 3) ∧ bAt s (i + 3) ≤ 191))) := by
  unfold uwOk
  rw [show (4 : Nat) - 2 = 2 from rfl, contN, contN, contN, cont, cont, show i + 3 = i + 2 + 1 from rfl]
  rw [Bool.eq_iff_iff]
  simp only [Bool.and_eq_true, decide_eq_true_eq, Bool.and_true]
  omega
/-- A byte that is needed. -/
theorem need_eq (s : ByteArray) (σ : St) (x y : Int) : St.need s σ x y = if decide (σ.at_ < s.size ∧ x ≤ bAt s σ.at_ ∧ bAt s σ.at_ ≤ y) then (true, { σ with at_ := σ.at_ + 1 }) else (false, σ.fail 4) := by
  unfold St.need
  by_cases h : σ.at_ < s.size ∧ x ≤ bAt s σ.at_ ∧ bAt s σ.at_ ≤ y
  · rw [if_pos h, if_pos (by simpa using h)]
  · rw [if_neg h, if_neg (by simpa using h)]

/-- The reader's rune goes by the width of the character. -/
theorem rune_uw (s : ByteArray) (σ : St) (hk : σ.at_ < s.size) (h128 : 128 ≤ bAt s σ.at_) :
    (uw s σ.at_ ≠ 0 → St.rune s σ = (true, { σ with at_ := σ.at_ + uw s σ.at_ })) ∧ (uw s σ.at_ = 0 → (St.rune s σ).1 = false) := by
  obtain ⟨i, f, o⟩ := σ
  dsimp only at hk h128 ⊢
  generalize hc : bAt s i = c at *
  have hu : uw s i = if uLen c = 0 then 0 else if uwOk s i (uLen c) (uLo c) (uHi c) then uLen c else 0 := by
    unfold uw; rw [if_pos hk, hc, if_neg (by omega)]
  unfold St.rune
  dsimp only
  rw [hc]
  by_cases h2 : 194 ≤ c ∧ c ≤ 223
  · have hl : uLen c = 2 := by unfold uLen; rw [if_pos h2]
    have hlo : uLo c = 128 := by unfold uLo; rw [if_neg (by omega), if_neg (by omega)]
    have hhi : uHi c = 191 := by unfold uHi; rw [if_neg (by omega), if_neg (by omega)]
    rw [hl, if_neg (by omega), hlo, hhi, uwOk_2' _ _ _ _ (by omega)] at hu
    rw [if_pos h2, need_eq]
    dsimp only
    cases hd : decide (i + 1 < s.size ∧ 128 ≤ bAt s (i + 1) ∧ bAt s (i + 1) ≤ 191)
    · rw [hd] at hu; simp at hu ⊢; omega
    · rw [hd] at hu; simp at hu ⊢; rw [hu]; simp
  · rw [if_neg h2]
    by_cases h3 : 224 ≤ c ∧ c ≤ 239
    · have hl : uLen c = 3 := by unfold uLen; rw [if_neg h2, if_pos h3]
      have hlo : uLo c = if c = 224 then 160 else 128 := by unfold uLo; split; rfl; rw [if_neg (by omega)]
      have hhi : uHi c = if c = 237 then 159 else 191 := by unfold uHi; split; rfl; rw [if_neg (by omega)]
      rw [hl, if_neg (by omega), hlo, hhi, uwOk_3' _ _ _ _ (by split <;> omega)] at hu
      rw [if_pos h3, need_eq]
      dsimp only
      generalize hX : (if c = 224 then (160 : Int) else 128) = X at *
      generalize hY : (if c = 237 then (159 : Int) else 191) = Y at *
      cases hd : decide (i + 1 < s.size ∧ X ≤ bAt s (i + 1) ∧ bAt s (i + 1) ≤ Y)
      · rw [hd] at hu; simp at hu; simp [St.andThen, hu]
      · rw [hd] at hu
        simp only [if_true, St.andThen]
        rw [need_eq]
        dsimp only
        cases hd2 : decide (i + 1 + 1 < s.size ∧ 128 ≤ bAt s (i + 1 + 1) ∧ bAt s (i + 1 + 1) ≤ 191)
        · rw [show i + 2 = i + 1 + 1 from rfl, hd2] at hu; simp at hu; simp [hu]
        · rw [show i + 2 = i + 1 + 1 from rfl, hd2] at hu; simp at hu; simp [hu]
    · rw [if_neg h3]
      by_cases h4 : 240 ≤ c ∧ c ≤ 244
      · have hl : uLen c = 4 := by unfold uLen; rw [if_neg h2, if_neg h3, if_pos h4]
        have hlo : uLo c = if c = 240 then 144 else 128 := by unfold uLo; rw [if_neg (by omega)]
        have hhi : uHi c = if c = 244 then 143 else 191 := by unfold uHi; rw [if_neg (by omega)]
        rw [hl, if_neg (by omega), hlo, hhi, uwOk_4' _ _ _ _ (by split <;> omega)] at hu
        rw [if_pos h4, need_eq]
        dsimp only
        generalize hX : (if c = 240 then (144 : Int) else 128) = X at *
        generalize hY : (if c = 244 then (143 : Int) else 191) = Y at *
        cases hd : decide (i + 1 < s.size ∧ X ≤ bAt s (i + 1) ∧ bAt s (i + 1) ≤ Y)
        · rw [hd] at hu; simp at hu; simp [St.andThen, hu]
        · rw [hd] at hu
          simp only [if_true, St.andThen]
          rw [need_eq]
          dsimp only
          cases hd2 : decide (i + 1 + 1 < s.size ∧ 128 ≤ bAt s (i + 1 + 1) ∧ bAt s (i + 1 + 1) ≤ 191)
          · rw [show i + 2 = i + 1 + 1 from rfl, hd2] at hu; simp at hu; simp [hu]
          · rw [show i + 2 = i + 1 + 1 from rfl, hd2] at hu
            simp only [if_true]
            rw [need_eq]
            dsimp only
            cases hd3 : decide (i + 1 + 1 + 1 < s.size ∧ 128 ≤ bAt s (i + 1 + 1 + 1) ∧ bAt s (i + 1 + 1 + 1) ≤ 191)
            · rw [show i + 3 = i + 1 + 1 + 1 from rfl, hd3] at hu; simp at hu; simp [hu]
            · rw [show i + 3 = i + 1 + 1 + 1 from rfl, hd3] at hu; simp at hu; simp [hu]
      · rw [if_neg h4]
        have hl : uLen c = 0 := by unfold uLen; rw [if_neg h2, if_neg h3, if_neg h4]
        rw [hl, if_pos rfl] at hu
        exact ⟨fun h => absurd hu h, fun _ => rfl⟩

theorem newRat (w : World) (s : ByteArray) (i : Nat) (tw lo : Bool) (T : TypeId) :
    IsR (w.alloc (.cells #[.string s, .int .i64 i, .bool tw, .bool lo, .int .i64 0, .bool false] T)) w.heap.size s tw lo ⟨i, 0, false⟩ := ⟨T, heap_alloc_new w _⟩
set_option maxRecDepth 100000 in
theorem width_any (s : ByteArray) (i : Nat) (w : World) (hs : s.size ≤ maxLen) (hi : i < s.size) :
    Calls Tryd.prog 30 #[.string s, .int .i64 i] w fun e w' => e = .returned (.int .i64 (uw s i)) ∧ Below w.heap.size w w' := by
  have hs' := hs
  unfold maxLen at hs'
  have hb := bAt_lt hi
  by_cases h128 : bAt s i < 128
  · have HU : Hid (uw s i = 1) := Lib.hid (by unfold uw; rw [if_pos hi, if_pos h128])
    rw [HU.out]
    rw [hb] at h128
    clear hb
    go_enter Tryd.func30, Tryd.ntmps30
    go_wp2
    go_ret
    exact ⟨rfl, Below.refl _ _⟩
  · have R := rune_uw s ⟨i, 0, false⟩ hi (by dsimp only; omega)
    dsimp only at R
    rw [hb] at h128
    have h0 := newRat w s i false false 49
    by_cases hu : uw s i = 0
    · obtain ⟨σ', H⟩ : ∃ σ', Hid (St.rune s ⟨i, 0, false⟩ = (false, σ')) := ⟨(St.rune s ⟨i, 0, false⟩).2, Lib.hid (Prod.ext (R.2 hu) rfl)⟩
      have hr := rune_is w.heap.size s false false _ _ _ _ H h0 hs (by dsimp only; omega)
      rw [hu]
      clear hb R hu
      go_enter Tryd.func30, Tryd.ntmps30
      go_wp2_with (go_at_call 45; refine hr.mono ?_; rintro e w1 ⟨rfl, hR1, hM1⟩)
      go_ret
      exact ⟨rfl, ((Below.refl _ _).alloc (Nat.le_refl _) _).trans (hM1.below (Nat.le_refl _) (by simp))⟩
    · have hf := uw_fit s i hu
      have H := Lib.hid (R.1 hu)
      have hr := rune_is w.heap.size s false false _ _ _ _ H h0 hs (by dsimp only; omega)
      obtain ⟨n, hn⟩ : ∃ n, uw s i = n := ⟨_, rfl⟩
      rw [hn] at hr hf ⊢
      have hsub : (((i + n : Nat) : Int)) - (i : Int) = (n : Int) := by omega
      clear hb R hu hn H
      go_enter Tryd.func30, Tryd.ntmps30
      go_wp2_with (go_at_call 45; refine hr.mono ?_; rintro e w1 ⟨rfl, hR1, hM1⟩; obtain ⟨c0, c1, c2, c3, c4, c5, f1, f4, f5⟩ := hR1.cells; dsimp only at c1)
      go_ret
      exact ⟨ret_int (by omega), ((Below.refl _ _).alloc (Nat.le_refl _) _).trans (hM1.below (Nat.le_refl _) (by simp))⟩
end Go.Proofs.YtokhmhbjbclcoaaDoor
