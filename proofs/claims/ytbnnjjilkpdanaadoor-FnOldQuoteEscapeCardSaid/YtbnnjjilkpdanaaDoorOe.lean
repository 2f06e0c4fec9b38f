/- Escaping for HTML what has been quoted: the plain law. -/
import Derived.Test.YtbnnjjilkpdanaaDoorOq
import Derived.Test.YtbnnjjilkpdanaaDoorUq
namespace Go.Proofs.YtbnnjjilkpdanaaDoor
open Go.RowKit
set_option linter.unusedVariables false

/-- The parts of a character. -/
theorem rune_parts' {s : ByteArray} {k : Nat} (hu : uw s k ≠ 0) :
    (uw s k = 1 ∧ bAt s k < 128 ∧ (runeN s k : Int) = bAt s k) ∨
    (uw s k = 2 ∧ 194 ≤ bAt s k ∧ bAt s k ≤ 223 ∧ 128 ≤ bAt s (k + 1) ∧ bAt s (k + 1) ≤ 191 ∧ (runeN s k : Int) = (bAt s k - 192) * 64 + (bAt s (k + 1) - 128)) ∨
    (uw s k = 3 ∧ 224 ≤ bAt s k ∧ bAt s k ≤ 239 ∧ 128 ≤ bAt s (k + 1) ∧ bAt s (k + 1) ≤ 191 ∧ (bAt s k = 224 → 160 ≤ bAt s (k + 1)) ∧ (bAt s k = 237 → bAt s (k + 1) ≤ 159) ∧ 128 ≤ bAt s (k + 2) ∧ bAt s (k + 2) ≤ 191 ∧
      (runeN s k : Int) = (bAt s k - 224) * 4096 + (bAt s (k + 1) - 128) * 64 + (bAt s (k + 2) - 128)) ∨
    (uw s k = 4 ∧ 240 ≤ bAt s k ∧ bAt s k ≤ 244 ∧ 128 ≤ bAt s (k + 1) ∧ bAt s (k + 1) ≤ 191 ∧ (bAt s k = 240 → 144 ≤ bAt s (k + 1)) ∧ (bAt s k = 244 → bAt s (k + 1) ≤ 143) ∧ 128 ≤ bAt s (k + 2) ∧ bAt s (k + 2) ≤ 191 ∧ 128 ≤ bAt s (k + 3) ∧ bAt s (k + 3) ≤ 191 ∧
      (runeN s k : Int) = (bAt s k - 240) * 262144 + (bAt s (k + 1) - 128) * 4096 + (bAt s (k + 2) - 128) * 64 + (bAt s (k + 3) - 128)) := by
  have hk : k < s.size := by
    by_cases h : k < s.size
    · exact h
    · exact absurd (by unfold uw; rw [if_neg h]) hu
  have n0 := bN_eq s k
  have n1 := bN_eq s (k + 1)
  have n2 := bN_eq s (k + 2)
  have n3 := bN_eq s (k + 3)
  by_cases h1 : bAt s k < 128
  · have e : uw s k = 1 := uw_1 hk (by omega)
    exact Or.inl ⟨e, h1, by unfold runeN; rw [if_pos e]; exact n0⟩
  · refine Or.inr ?_
    obtain ⟨e1, e2, e3⟩ : uw s k = uLen (bAt s k) ∧ uwOk s k (uLen (bAt s k)) (uLo (bAt s k)) (uHi (bAt s k)) = true ∧ uLen (bAt s k) ≠ 0 := by
      unfold uw at hu ⊢
      rw [if_pos hk, if_neg h1] at hu ⊢
      by_cases h0 : uLen (bAt s k) = 0
      · rw [if_pos h0] at hu; exact absurd rfl hu
      · rw [if_neg h0] at hu ⊢
        by_cases ho : uwOk s k (uLen (bAt s k)) (uLo (bAt s k)) (uHi (bAt s k)) = true
        · rw [if_pos ho]; exact ⟨rfl, ho, h0⟩
        · rw [if_neg ho] at hu; exact absurd rfl hu
    have hlo : 128 ≤ uLo (bAt s k) ∧ (bAt s k = 224 → uLo (bAt s k) = 160) ∧ (bAt s k = 240 → uLo (bAt s k) = 144) := by
      unfold uLo; split
      · omega
      · split <;> omega
    have hhi : uHi (bAt s k) ≤ 191 ∧ (bAt s k = 237 → uHi (bAt s k) = 159) ∧ (bAt s k = 244 → uHi (bAt s k) = 143) := by
      unfold uHi; split
      · omega
      · split <;> omega
    have hl : (uLen (bAt s k) = 2 → 194 ≤ bAt s k ∧ bAt s k ≤ 223) ∧ (uLen (bAt s k) = 3 → 224 ≤ bAt s k ∧ bAt s k ≤ 239) ∧ (uLen (bAt s k) = 4 → 240 ≤ bAt s k ∧ bAt s k ≤ 244) := by
      unfold uLen; split
      · omega
      · split
        · omega
        · split <;> omega
    rcases uLen_cases (bAt s k) with h | h | h | h
    · exact absurd h e3
    · rw [h] at e1 e2
      have hb := hl.1 h
      unfold uwOk at e2
      simp [contN] at e2
      have hr : runeN s k = bN s k % 32 * 64 + bN s (k + 1) % 64 := by unfold runeN; rw [if_neg (by omega), if_pos e1]
      rw [hr, e1]
      left; omega
    · rw [h] at e1 e2
      have hb := hl.2.1 h
      unfold uwOk at e2
      simp [contN, cont] at e2
      have hr : runeN s k = bN s k % 16 * 4096 + bN s (k + 1) % 64 * 64 + bN s (k + 2) % 64 := by unfold runeN; rw [if_neg (by omega), if_neg (by omega), if_pos e1]
      rw [hr, e1]
      right; left; omega
    · rw [h] at e1 e2
      have hb := hl.2.2 h
      unfold uwOk at e2
      simp [contN, cont, show k + 2 + 1 = k + 3 from rfl] at e2
      have hr : runeN s k = bN s k % 8 * 262144 + bN s (k + 1) % 64 * 4096 + bN s (k + 2) % 64 * 64 + bN s (k + 3) % 64 := by unfold runeN; rw [if_neg (by omega), if_neg (by omega), if_neg (by omega), if_pos e1]
      rw [hr, e1]
      right; right; omega
/-- What is escaped of a row of bytes, n of which have been dealt with already. -/
def heS : Nat → List Int → List Int
  | _, [] => []
  | n + 1, _ :: t => heS n t
  | 0, a :: t =>
    if a = 60 ∨ a = 62 ∨ a = 38 then [92, 117, 48, 48, hxD (a / 16), hxD (a % 16)] ++ heS 0 t
    else if a = 226 ∧ t[0]? = some 128 ∧ (t[1]? = some 168 ∨ t[1]? = some 169) then [92, 117, 50, 48, 50, hxD (t.getD 1 0 % 16)] ++ heS 2 t
    else a :: heS 0 t
def heL (l : List Int) : List Int := heS 0 l
theorem heL_plain {a : Int} (t : List Int) (h : ¬ (a = 60 ∨ a = 62 ∨ a = 38)) (h2 : a ≠ 226) : heL (a :: t) = a :: heL t := by
  unfold heL
  rw [heS, if_neg h, if_neg (fun e => h2 e.1)]
theorem heL_app {l : List Int} (hl : ∀ x ∈ l, ¬ (x = 60 ∨ x = 62 ∨ x = 38) ∧ x ≠ 226) (t : List Int) : heL (l ++ t) = l ++ heL t := by
  induction l with
  | nil => rfl
  | cons a l ih =>
    have ha := hl a (.head _)
    rw [List.cons_append, heL_plain _ ha.1 ha.2, ih (fun x hx => hl x (.tail _ hx))]
    rfl
theorem heL_hit {a : Int} (t : List Int) (h : a = 60 ∨ a = 62 ∨ a = 38) : heL (a :: t) = [92, 117, 48, 48, hxD (a / 16), hxD (a % 16)] ++ heL t := by
  unfold heL
  rw [heS, if_pos h]
theorem heL_three {b c : Int} (t : List Int) (hb : 128 ≤ b ∧ b ≤ 191) (hc : 128 ≤ c ∧ c ≤ 191) (h : ¬ (b = 128 ∧ (c = 168 ∨ c = 169))) : heL (226 :: b :: c :: t) = 226 :: b :: c :: heL t := by
  have e : heL (226 :: b :: c :: t) = 226 :: heL (b :: c :: t) := by
    unfold heL
    rw [heS, if_neg (by decide), if_neg (fun e => h ⟨Option.some.inj e.2.1, by rcases e.2.2 with e2 | e2 <;> have := Option.some.inj e2 <;> omega⟩)]
  rw [e, heL_plain _ (by omega) (by omega), heL_plain _ (by omega) (by omega)]
theorem hxD_small {n : Int} (h0 : 0 ≤ n) (h1 : n < 16) : 48 ≤ hxD n ∧ hxD n ≤ 102 ∧ ¬ (57 < hxD n ∧ hxD n < 97) := by unfold hxD; split <;> omega
/-- The escape of a character stays as it is. -/
theorem he_escO {c : Int} (h0 : 0 ≤ c) (h1 : c < 128) (t : List Int) : heL (escO c ++ t) = escO c ++ heL t := by
  refine heL_app (fun x hx => ?_) t
  have a1 := hxD_small (n := c / 16) (by omega) (by omega)
  have a2 := hxD_small (n := c % 16) (by omega) (by omega)
  unfold escO at hx
  repeat' split at hx
  all_goals simp at hx; omega
/-- What is put for a character with the marks of HTML is what is put without them, escaped. -/
theorem he_chunk (s : ByteArray) (k : Nat) (hk : k < s.size) (t : List Int) : heL (oC false s k ++ t) = oC true s k ++ heL t := by
  have h0 := bAt_nonneg s k
  unfold oC
  by_cases h128 : bAt s k < 128
  · rw [if_pos h128, if_pos h128]
    by_cases hs : safeO false (bAt s k) = true
    · rw [if_pos hs]
      by_cases hh : bAt s k = 60 ∨ bAt s k = 62 ∨ bAt s k = 38
      · have hn : ¬ safeO true (bAt s k) = true := by unfold safeO; simp; omega
        rw [if_neg hn]
        show heL (bAt s k :: t) = _
        rw [heL_hit t hh]
        have : escO (bAt s k) = [92, 117, 48, 48, hxD (bAt s k / 16), hxD (bAt s k % 16)] := by
          unfold escO
          rw [if_neg (by omega), if_neg (by omega), if_neg (by omega), if_neg (by omega), if_neg (by omega), if_neg (by omega)]
        rw [this]
      · have hn : safeO true (bAt s k) = true := by unfold safeO at hs ⊢; simp at hs ⊢; omega
        rw [if_pos hn]
        exact heL_plain t hh (by omega)
    · have hn : ¬ safeO true (bAt s k) = true := by unfold safeO at hs ⊢; simp at hs ⊢; omega
      rw [if_neg hs, if_neg hn]
      exact he_escO h0 h128 t
  · rw [if_neg h128, if_neg h128]
    by_cases hu : uw s k = 0
    · rw [if_pos hu]
      exact heL_app (by intro x hx; simp at hx; omega) t
    · rw [if_neg hu]
      by_cases e1 : runeN s k = 8232
      · rw [if_pos e1]; exact heL_app (by intro x hx; simp at hx; omega) t
      · rw [if_neg e1]
        by_cases e2 : runeN s k = 8233
        · rw [if_pos e2]; exact heL_app (by intro x hx; simp at hx; omega) t
        · rw [if_neg e2]
          rcases rune_parts' hu with ⟨e, h⟩ | ⟨e, h⟩ | ⟨e, h⟩ | ⟨e, h⟩
          · omega
          · have hs : sub s k (k + 2) = [bAt s k, bAt s (k + 1)] := by simp [sub, List.range_succ]
            rw [e, hs]
            exact heL_app (by intro x hx; simp at hx; omega) t
          · have hs : sub s k (k + 3) = [bAt s k, bAt s (k + 1), bAt s (k + 2)] := by simp [sub, List.range_succ]
            rw [e, hs]
            by_cases h226 : bAt s k = 226
            · rw [h226]
              exact heL_three t (by omega) (by omega) (by omega)
            · exact heL_app (by intro x hx; simp at hx; omega) t
          · have hs : sub s k (k + 4) = [bAt s k, bAt s (k + 1), bAt s (k + 2), bAt s (k + 3)] := by simp [sub, List.range_succ]
            rw [e, hs]
            exact heL_app (by intro x hx; simp at hx; omega) t
theorem he_all (s : ByteArray) : ∀ (g k : Nat) (t : List Int), heL (oO false s g k ++ t) = oO true s g k ++ heL t
  | 0, _, _ => rfl
  | g + 1, k, t => by
    rw [oO, oO]
    by_cases hk : k < s.size
    · rw [if_pos hk, if_pos hk, List.append_assoc, he_chunk s k hk, he_all s g _ t, List.append_assoc]
    · rw [if_neg hk, if_neg hk]; rfl
/-- Quoting for HTML is quoting, escaped. -/
theorem he_quote (s : ByteArray) : heL ([34] ++ oO false s s.size 0 ++ [34]) = [34] ++ oO true s s.size 0 ++ [34] := by
  rw [List.append_assoc, heL_app (l := [34]) (by intro x hx; simp at hx; omega), he_all, List.append_assoc]
  rfl
end Go.Proofs.YtbnnjjilkpdanaaDoor
