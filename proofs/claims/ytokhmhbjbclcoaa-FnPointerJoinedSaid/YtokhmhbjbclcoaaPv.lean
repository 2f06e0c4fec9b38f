/- Whether a text is a pointer: the library's own check, and the law FnPointerValid. -/
import Derived.Test.YtokhmhbjbclcoaaDc
import Derived.Test.YtokhmhbjbclcoaaPt
namespace Go.Proofs.Ytokhmhbjbclcoaa
set_option linter.unusedVariables false
set_option linter.unusedSimpArgs false
open Go.RowKit

def badT (s : ByteArray) (i : Nat) : Bool := decide (bAt s i = 126) && !(decide (i + 1 < s.size) && (decide (bAt s (i + 1) = 48) || decide (bAt s (i + 1) = 49)))
/-- The check, character by character. -/
def ivF (s : ByteArray) : Nat → Nat → Bool
  | 0, _ => true
  | n + 1, i => if i < s.size then (if badT s i = true then false else if uw s i = 0 then false else ivF s n (i + uw s i)) else true

theorem iv_bad {p : ByteArray} {k g : Nat} {R : Bool} (A : Aside (ivF p g k = R)) (hk : k < p.size) (hg : p.size - k ≤ g) (h : badT p k = true) : R = false := by
  obtain ⟨g', rfl⟩ : ∃ g', g = g' + 1 := ⟨g - 1, by omega⟩
  have A' : ivF p (g' + 1) k = R := A
  rw [ivF, if_pos hk, if_pos h] at A'; exact A'.symm
theorem iv_no {p : ByteArray} {k g : Nat} {R : Bool} (A : Aside (ivF p g k = R)) (hk : k < p.size) (hg : p.size - k ≤ g) (h : badT p k = false) (hu : uw p k = 0) : R = false := by
  obtain ⟨g', rfl⟩ : ∃ g', g = g' + 1 := ⟨g - 1, by omega⟩
  have A' : ivF p (g' + 1) k = R := A
  rw [ivF, if_pos hk, if_neg (by rw [h]; simp), if_pos hu] at A'; exact A'.symm
theorem iv_go {p : ByteArray} {k g : Nat} {R : Bool} (A : Aside (ivF p g k = R)) (hk : k < p.size) (hg : p.size - k ≤ g) (h : badT p k = false) (hu : uw p k ≠ 0) :
    k + uw p k ≤ p.size ∧ p.size - (k + uw p k) ≤ g - 1 ∧ g - 1 < g ∧ Aside (ivF p (g - 1) (k + uw p k) = R) := by
  obtain ⟨g', rfl⟩ : ∃ g', g = g' + 1 := ⟨g - 1, by omega⟩
  have A' : ivF p (g' + 1) k = R := A
  rw [ivF, if_pos hk, if_neg (by rw [h]; simp), if_neg hu] at A'
  exact ⟨uw_fit p k hu, by omega, by omega, A'⟩
theorem iv_end {p : ByteArray} {k g : Nat} {R : Bool} (A : Aside (ivF p g k = R)) (hk : ¬ k < p.size) : R = true := by
  have A' : ivF p g k = R := A
  cases g with
  | zero => exact A'.symm
  | succ g => rw [ivF, if_neg hk] at A'; exact A'.symm

theorem tilde_skip (s : ByteArray) : ∀ (m n i : Nat), (∀ j, i ≤ j → j < i + m → bAt s j ≠ 126) → tildeOk s (m + n) i = tildeOk s n (i + m)
  | 0, n, i, _ => by rw [Nat.zero_add, Nat.add_zero]
  | m + 1, n, i, h => by
    rw [show m + 1 + n = (m + n) + 1 by omega, tildeOk, if_neg (fun hh => h i (Nat.le_refl _) (by omega) hh.1), tilde_skip s m n (i + 1) (fun j h1 h2 => h j (by omega) (by omega))]
    congr 1; omega

theorem iv_eq (s : ByteArray) : ∀ (g k : Nat), k ≤ s.size → s.size - k ≤ g → (textF s g k && tildeOk s (s.size - k) k) = ivF s g k
  | 0, k, h1, h2 => by
    have : k = s.size := by omega
    subst this
    rw [Nat.sub_self]; simp [textF, tildeOk, ivF]
  | g + 1, k, h1, h2 => by
    rw [textF, ivF]
    by_cases hk : k < s.size
    · rw [if_pos hk, if_pos hk]
      by_cases hu : uw s k = 0
      · rw [if_pos hu, if_pos hu, Bool.false_and]; split <;> rfl
      · rw [if_neg hu, if_neg hu]
        have hf := uw_fit s k hu
        have hbt : (badT s k = true) ↔ (bAt s k = 126 ∧ ¬ (k + 1 < s.size ∧ (bAt s (k + 1) = 48 ∨ bAt s (k + 1) = 49))) := by
          unfold badT; simp only [Bool.and_eq_true, decide_eq_true_eq, Bool.not_eq_true', Bool.and_eq_false_iff, decide_eq_false_iff_not, Bool.or_eq_false_iff]
          constructor
          · rintro ⟨a, b⟩; exact ⟨a, fun hh => by rcases b with b | b; exact b hh.1; exact hh.2.elim b.1 b.2⟩
          · rintro ⟨a, b⟩
            refine ⟨a, ?_⟩
            by_cases c : k + 1 < s.size
            · right; exact ⟨fun e => b ⟨c, .inl e⟩, fun e => b ⟨c, .inr e⟩⟩
            · exact .inl c
        have ht : tildeOk s (s.size - k) k = if badT s k = true then false else tildeOk s (s.size - (k + uw s k)) (k + uw s k) := by
          rw [show s.size - k = (s.size - k - 1) + 1 by omega, tildeOk]
          by_cases hb : badT s k = true
          · rw [if_pos (hbt.1 hb), if_pos hb]
          · rw [if_neg (fun hh => hb (hbt.2 hh)), if_neg hb]
            have := tilde_skip s (uw s k - 1) (s.size - (k + uw s k)) (k + 1) (fun j h3 h4 => by
              have := uw_inner s k hu j (by omega) (by omega); omega)
            rw [show uw s k - 1 + (s.size - (k + uw s k)) = s.size - k - 1 by omega, show k + 1 + (uw s k - 1) = k + uw s k by omega] at this
            exact this
        rw [ht]
        by_cases hb : badT s k = true
        · rw [if_pos hb, if_pos hb, Bool.and_false]
        · rw [if_neg hb, if_neg hb]
          exact iv_eq s g (k + uw s k) hf (by omega)
    · rw [if_neg hk, if_neg hk, show s.size - k = 0 by omega]; rfl

theorem run_next_any {P : Program} (w : World) (s : ByteArray) (pos : Nat) (h : pos < s.size) (ty : TypeId) :
    (Instr.next (.pointer (some ⟨w.heap.size, 0, none⟩)) true ty).run P (w.iter s pos) =
      .ok (.tuple #[.bool true, .int .i64 pos, .int .i32 (runeN s pos)]) (w.iter s (pos + stepN s pos)) := by
  simp only [Instr.next, getObj, setObj, Sem.run_bind, Sem.run, World.iter_heap, Result.andThen, h, if_true, decode_uw s pos h, World.iter_set]
  simp [goInt, Sem.run, World.iter_heap, World.iter_set]

/-- The three bytes of U+FFFD. -/
def brk : ByteArray := ⟨#[239, 191, 189]⟩
theorem list3 (t : ByteArray) (h : 3 ≤ t.size) : (t.extract 0 3).toList = [t[0], t[1], t[2]] := by
  rw [ByteArray.toList_eq]
  apply List.ext_getElem
  · simp; omega
  · intro i h1 h2
    have h3 : i < 3 := by simpa using h2
    match i, h3 with
    | 0, _ => simp; rfl
    | 1, _ => simp; rfl
    | 2, _ => simp; rfl
theorem brk_iff (p : ByteArray) (k : Nat) (hk : k ≤ p.size) : preB brk (p.extract k p.size) = (decide (bAt p k = 239) && decide (bAt p (k + 1) = 191) && decide (bAt p (k + 2) = 189)) := by
  have e0 := bAt_from p k 0
  have e1 := bAt_from p k 1
  have e2 := bAt_from p k 2
  rw [Nat.add_zero] at e0
  have hsz := size_from p k
  rw [← e0, ← e1, ← e2]
  generalize p.extract k p.size = t at *
  unfold preB
  have hb : brk.size = 3 := rfl
  have hbl : brk.toList = [239, 191, 189] := by rw [ByteArray.toList_eq]; rfl
  rw [hb, hbl]
  rw [Bool.eq_iff_iff]
  by_cases h3 : 3 ≤ t.size
  · rw [list3 t h3, bAt_lt (show 0 < t.size by omega), bAt_lt (show 1 < t.size by omega), bAt_lt (show 2 < t.size by omega)]
    simp only [h3, decide_true, Bool.true_and, beq_iff_eq, List.cons.injEq, and_true, Bool.and_eq_true, decide_eq_true_eq]
    have inj : ∀ (a : UInt8) (n : Nat) (b : UInt8), b.toNat = n → (a = b ↔ (a.toNat : Int) = n) := by
      rintro a n b rfl
      constructor
      · rintro rfl; rfl
      · intro h; exact UInt8.toNat_inj.1 (by omega)
    rw [inj t[0] 239 239 rfl, inj t[1] 191 191 rfl, inj t[2] 189 189 rfl]
    constructor
    · rintro ⟨a, b, c⟩; exact ⟨⟨a, b⟩, c⟩
    · rintro ⟨⟨a, b⟩, c⟩; exact ⟨a, b, c⟩
  · simp only [h3, decide_false, Bool.false_and, Bool.false_eq_true, false_iff, Bool.and_eq_true, decide_eq_true_eq]
    rintro ⟨⟨_, _⟩, h⟩
    rw [bAt_ge (by omega)] at h
    omega

theorem uw_vals (s : ByteArray) (i : Nat) : uw s i = 0 ∨ uw s i = 1 ∨ uw s i = uLen (bAt s i) := by
  generalize hx : uw s i = x
  unfold uw at hx
  split at hx
  · split at hx
    · exact .inr (.inl hx.symm)
    · split at hx
      · exact .inl hx.symm
      · split at hx
        · exact .inr (.inr hx.symm)
        · exact .inl hx.symm
  · exact .inl hx.symm

/-- U+FFFD stands in a text where its bytes do. -/
theorem brk_uw (p : ByteArray) (k : Nat) (hk : k < p.size) (hr : runeN p k = 65533) : (uw p k = 0 → preB brk (p.extract k p.size) = false) ∧ (uw p k ≠ 0 → preB brk (p.extract k p.size) = true) := by
  rw [brk_iff p k (Nat.le_of_lt hk)]
  have b0 := bN_eq p k
  have b1 := bN_eq p (k + 1)
  have b2 := bN_eq p (k + 2)
  have b3 := bN_eq p (k + 3)
  constructor
  · intro hu
    rw [Bool.eq_false_iff]
    intro h
    simp only [Bool.and_eq_true, decide_eq_true_eq] at h
    obtain ⟨⟨h0, h1⟩, h2⟩ := h
    have hl : uLen (bAt p k) = 3 := by unfold uLen; rw [if_neg (by omega), if_pos (by omega)]
    have hlo : uLo (bAt p k) = 128 := by unfold uLo; rw [if_neg (by omega), if_neg (by omega)]
    have hhi : uHi (bAt p k) = 191 := by unfold uHi; rw [if_neg (by omega), if_neg (by omega)]
    unfold uw at hu
    rw [if_pos hk, if_neg (by omega), hl, if_neg (by omega), hlo, hhi, uwOk_3 _ _ _ _ (by omega) (by omega), h1, h2] at hu
    simp [cont] at hu
  · intro hu
    have hcs : uw p k = 1 ∨ uw p k = 2 ∨ uw p k = 3 ∨ uw p k = 4 := by
      have hx : uw p k = 0 ∨ uw p k = 1 ∨ uw p k = uLen (bAt p k) := by
        exact uw_vals p k
      have := uLen_cases (bAt p k)
      omega
    have l0 := bN_le p k
    have l1 := bN_le p (k + 1)
    have l2 := bN_le p (k + 2)
    have l3 := bN_le p (k + 3)
    rcases hcs with h | h | h | h
    · unfold runeN at hr; rw [if_pos h] at hr; omega
    · unfold runeN at hr; rw [if_neg (by omega), if_pos h] at hr; omega
    · unfold runeN at hr; rw [if_neg (by omega), if_neg (by omega), if_pos h] at hr
      have hi1 := uw_inner p k hu (k + 1) (by omega) (by omega)
      have hi2 := uw_inner p k hu (k + 2) (by omega) (by omega)
      have hc : 224 ≤ bAt p k ∧ bAt p k ≤ 239 ∧ cont (bAt p (k + 1)) = true ∧ cont (bAt p (k + 2)) = true := by
        unfold uw at h
        rw [if_pos hk] at h
        split at h
        · omega
        · split at h
          · omega
          · split at h
            · rename_i ho
              have hl3 : uLen (bAt p k) = 3 := h
              rw [hl3] at ho
              have hlo : 128 ≤ uLo (bAt p k) := by unfold uLo; repeat' split
                                                   all_goals omega
              have hhi : uHi (bAt p k) ≤ 191 := by unfold uHi; repeat' split
                                                   all_goals omega
              rw [uwOk_3 _ _ _ _ hlo hhi] at ho
              simp only [Bool.and_eq_true, decide_eq_true_eq] at ho
              have hr2 : 224 ≤ bAt p k ∧ bAt p k ≤ 239 := by
                unfold uLen at hl3
                split at hl3
                · omega
                · split at hl3
                  · assumption
                  · split at hl3 <;> omega
              refine ⟨hr2.1, hr2.2, ?_, ho.2⟩
              simp [cont]; omega
            · omega
      obtain ⟨g1, g2, g3, g4⟩ := hc
      simp [cont] at g3 g4
      simp only [Bool.and_eq_true, decide_eq_true_eq]
      omega
    · unfold runeN at hr; rw [if_neg (by omega), if_neg (by omega), if_neg (by omega), if_pos h] at hr
      have hc : 240 ≤ bAt p k := by
        unfold uw at h
        rw [if_pos hk] at h
        split at h
        · omega
        · split at h
          · omega
          · split at h
            · have hl4 : uLen (bAt p k) = 4 := h
              unfold uLen at hl4
              split at hl4
              · omega
              · split at hl4
                · omega
                · split at hl4 <;> omega
            · omega
      have hin := uw_inner p k hu (k + 1) (by omega) (by omega)
      have hl4 : bAt p k = 240 → 144 ≤ bAt p (k + 1) := by
        intro e
        unfold uw at h
        have hl : uLen (bAt p k) = 4 := by unfold uLen; rw [if_neg (by omega), if_neg (by omega), if_pos (by omega)]
        rw [if_pos hk, if_neg (by omega), hl, if_neg (by omega)] at h
        split at h
        · rename_i ho
          have hlo : uLo (bAt p k) = 144 := by unfold uLo; rw [if_neg (by omega), if_pos e]
          unfold uwOk at ho
          simp only [Bool.and_eq_true, decide_eq_true_eq] at ho
          omega
        · omega
      have hmax : bAt p k ≤ 244 ∧ bAt p (k + 1) ≤ 191 := by
        unfold uw at h
        rw [if_pos hk] at h
        split at h
        · omega
        · split at h
          · omega
          · split at h
            · rename_i ho
              have hl4 : uLen (bAt p k) = 4 := h
              have hhi : uHi (bAt p k) ≤ 191 := by unfold uHi; repeat' split
                                                   all_goals omega
              unfold uwOk at ho
              simp only [Bool.and_eq_true, decide_eq_true_eq] at ho
              refine ⟨?_, by omega⟩
              unfold uLen at hl4
              split at hl4
              · omega
              · split at hl4
                · omega
                · split at hl4 <;> omega
            · omega
      exfalso
      omega

theorem hasBrk (t : ByteArray) (r : Bool) (w : World) (ht : t.size ≤ maxLen) (H : Hid (preB brk t = r)) :
    Calls Try.prog 18 #[.string t, .string ⟨#[239, 191, 189]⟩] w fun e w' => e = .returned (.bool r) ∧ w' = w := by
  have ht' := ht
  unfold maxLen at ht'
  have hb : brk.size = 3 := rfl
  have hbl : brk.toList = [239, 191, 189] := by rw [ByteArray.toList_eq]; rfl
  have H1 := H.out
  unfold preB at H1
  rw [hb, hbl] at H1
  by_cases h3 : 3 ≤ t.size
  · have H2 : ((t.extract 0 3).toList == [239, 191, 189]) = r := by simpa [h3] using H1
    have h3' : (3 : Int) ≤ (t.size : Int) := by omega
    cases r
    all_goals
      clear H1 hb hbl H
      go_enter Try.func18, Try.ntmps18
      go_wp2
      all_goals go_ret
      exact ⟨rfl, rfl⟩
  · have h3' : (t.size : Int) < 3 := by omega
    have hr : r = false := by rw [← H1]; simp [h3]
    subst hr
    clear H1 hb hbl H
    go_enter Try.func18, Try.ntmps18
    go_wp2
    all_goals go_ret
    exact ⟨rfl, rfl⟩
end Go.Proofs.Ytokhmhbjbclcoaa
