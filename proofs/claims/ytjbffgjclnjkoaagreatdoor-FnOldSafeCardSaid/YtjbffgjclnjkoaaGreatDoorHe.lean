/- Escaping for HTML: the plain mathematics, and what holds in the loop of appendHTMLEscape. Lines of Oe and Oh. -/
import Derived.Test.YtjbffgjclnjkoaaGreatDoorBx
import Derived.Test.YtjbffgjclnjkoaaGreatDoorSb
import Derived.Test.YtjbffgjclnjkoaaGreatDoorCb
import Derived.Deep.LoopGhost
import Derived.Deep.DeepCutAuto
import Derived.Deep.Light
namespace Go.Proofs.YtjbffgjclnjkoaaGreatDoor
set_option linter.unusedVariables false
set_option linter.unusedSimpArgs false
open Go.RowKit

/-- What is escaped of a row of bytes, n of which have been dealt with already. -/
def heS : Nat → List Int → List Int
  | _, [] => []
  | n + 1, _ :: t => heS n t
  | 0, a :: t =>
    if a = 60 ∨ a = 62 ∨ a = 38 then [92, 117, 48, 48, hxD (a / 16), hxD (a % 16)] ++ heS 0 t
    else if a = 226 ∧ t[0]? = some 128 ∧ (t[1]? = some 168 ∨ t[1]? = some 169) then [92, 117, 50, 48, 50, hxD (t.getD 1 0 % 16)] ++ heS 2 t
    else a :: heS 0 t
def heL (l : List Int) : List Int := heS 0 l
theorem heL_plain {a : Int} (t : List Int) (h : ¬ (a = 60 ∨ a = 62 ∨ a = 38)) (h2 : a ≠ 226) : heL (a :: t) = a :: heL t := by
  unfold heL
  rw [heS, if_neg h, if_neg (fun e => h2 e.1)]
theorem heL_app {l : List Int} (hl : ∀ x ∈ l, ¬ (x = 60 ∨ x = 62 ∨ x = 38) ∧ x ≠ 226) (t : List Int) : heL (l ++ t) = l ++ heL t := by
  induction l with
  | nil => rfl
  | cons a l ih =>
    have ha := hl a (.head _)
    rw [List.cons_append, heL_plain _ ha.1 ha.2, ih (fun x hx => hl x (.tail _ hx))]
    rfl
theorem heL_hit {a : Int} (t : List Int) (h : a = 60 ∨ a = 62 ∨ a = 38) : heL (a :: t) = [92, 117, 48, 48, hxD (a / 16), hxD (a % 16)] ++ heL t := by
  unfold heL
  rw [heS, if_pos h]
theorem heL_three {b c : Int} (t : List Int) (hb : 128 ≤ b ∧ b ≤ 191) (hc : 128 ≤ c ∧ c ≤ 191) (h : ¬ (b = 128 ∧ (c = 168 ∨ c = 169))) : heL (226 :: b :: c :: t) = 226 :: b :: c :: heL t := by
  have e : heL (226 :: b :: c :: t) = 226 :: heL (b :: c :: t) := by
    unfold heL
    rw [heS, if_neg (by decide), if_neg (fun e => h ⟨Option.some.inj e.2.1, by rcases e.2.2 with e2 | e2 <;> have := Option.some.inj e2 <;> omega⟩)]
  rw [e, heL_plain _ (by omega) (by omega), heL_plain _ (by omega) (by omega)]
theorem hxD_small {n : Int} (h0 : 0 ≤ n) (h1 : n < 16) : 48 ≤ hxD n ∧ hxD n ≤ 102 ∧ ¬ (57 < hxD n ∧ hxD n < 97) := by unfold hxD; split <;> omega
theorem sub_cons (s : ByteArray) {k n : Nat} (h : k < n) : sub s k n = bAt s k :: sub s (k + 1) n := by
  rw [← sub_app s (j := k) (m := k + 1) (k := n) (by omega) (by omega), sub_one]; rfl
theorem sub_get (s : ByteArray) (k n i : Nat) : (sub s k n)[i]? = if i < n - k then some (bAt s (k + i)) else none := by
  unfold sub
  rw [List.getElem?_map]
  by_cases h : i < n - k
  · rw [if_pos h, List.getElem?_range h]; rfl
  · rw [if_neg h, List.getElem?_eq_none (by simp; omega)]; rfl
theorem heL_len : ∀ (l : List Int) (n : Nat), (heS n l).length ≤ 6 * l.length
  | [], n => by simp [heS]
  | a :: t, n + 1 => by rw [heS]; have := heL_len t n; simp; omega
  | a :: t, 0 => by
    rw [heS]
    have h0 := heL_len t 0
    have h2 := heL_len t 2
    repeat' split
    all_goals simp; omega
/-- What holds at the head of each round. -/
structure HRel (B : Nat) (v : Value) (w : World) (s : ByteArray) (N : Nat) (T : List Int) (g j k : Nat) (v' : Value) (l' : List Int) (wr : World) : Prop where
  js : j ≤ s.size
  ks : k ≤ s.size
  jk : j ≤ k + 2
  pend : ∀ i, k ≤ i → i < j → 128 ≤ bAt s i ∧ bAt s i < 200
  bs : Bs wr B v' l'
  ap : Ap v w v' wr
  len : l'.length + (k - j) ≤ N + 6 * k + 6 * (j - k)
  fuel : s.size - k ≤ g
  out : Aside (l' ++ sub s j k ++ heS (j - k) (sub s k s.size) = T)
/-- Do the three bytes of a line's separator stand here? -/
def sepB (s : ByteArray) (k : Nat) : Bool := decide (bAt s k = 226 ∧ k + 2 < s.size ∧ bAt s (k + 1) = 128 ∧ (bAt s (k + 2) = 168 ∨ bAt s (k + 2) = 169))
theorem HRel.pass {B v w s N T g j k v' l' wr} (q : HRel B v w s N T g j k v' l' wr) (hk : k < s.size) (hj : k < j) : g - 1 < g ∧ HRel B v w s N T (g - 1) j (k + 1) v' l' wr := by
  have hf := q.fuel
  refine ⟨by omega, ⟨q.js, by omega, by have := q.jk; omega, fun i h1 h2 => q.pend i (by omega) h2, q.bs, q.ap, by have := q.len; omega, by omega, ?_⟩⟩
  have A : l' ++ sub s j k ++ heS (j - k) (sub s k s.size) = T := q.out
  rw [sub_cons s hk, show j - k = (j - (k + 1)) + 1 by omega, heS] at A
  have e1 : sub s j k = [] := by simp [sub, show k - j = 0 by omega]
  have e2 : sub s j (k + 1) = [] := by simp [sub, show k + 1 - j = 0 by omega]
  show l' ++ sub s j (k + 1) ++ heS (j - (k + 1)) (sub s (k + 1) s.size) = T
  rw [← A, e1, e2]
theorem HRel.keep {B v w s N T g j k v' l' wr} (q : HRel B v w s N T g j k v' l' wr) (hk : k < s.size) (hj : j ≤ k) (h1 : ¬ (bAt s k = 60 ∨ bAt s k = 62 ∨ bAt s k = 38)) (h2 : sepB s k = false) :
    g - 1 < g ∧ HRel B v w s N T (g - 1) j (k + 1) v' l' wr := by
  have hf := q.fuel
  refine ⟨by omega, ⟨q.js, by omega, by omega, fun i h3 h4 => by omega, q.bs, q.ap, by have := q.len; omega, by omega, ?_⟩⟩
  have A : l' ++ sub s j k ++ heS (j - k) (sub s k s.size) = T := q.out
  have hn : ¬ (bAt s k = 226 ∧ (sub s (k + 1) s.size)[0]? = some 128 ∧ ((sub s (k + 1) s.size)[1]? = some 168 ∨ (sub s (k + 1) s.size)[1]? = some 169)) := by
    intro e
    unfold sepB at h2
    rw [decide_eq_false_iff_not] at h2
    apply h2
    rw [sub_get, sub_get] at e
    obtain ⟨e1, e2, e3⟩ := e
    by_cases hz : 1 < s.size - (k + 1)
    · rw [if_pos (by omega)] at e2
      rw [if_pos hz] at e3
      have := Option.some.inj e2
      refine ⟨e1, by omega, this, ?_⟩
      rcases e3 with e3 | e3
      · exact Or.inl (Option.some.inj e3)
      · exact Or.inr (Option.some.inj e3)
    · rw [if_neg hz] at e3
      rcases e3 with e3 | e3 <;> cases e3
  rw [sub_cons s hk, show j - k = 0 by omega, heS, if_neg h1, if_neg hn] at A
  show l' ++ sub s j (k + 1) ++ heS (j - (k + 1)) (sub s (k + 1) s.size) = T
  rw [← A, show j - (k + 1) = 0 by omega, sub_snoc s hj]
  simp
theorem HRel.hit {B v w s N T g j k v' l' wr} (q : HRel B v w s N T g j k v' l' wr) (hk : k < s.size) (hj : j ≤ k) (h1 : bAt s k = 60 ∨ bAt s k = 62 ∨ bAt s k = 38) {v'' : Value} {wr' : World}
    (hb : Bs wr' B v'' (l' ++ sub s j k ++ [92, 117, 48, 48, hxD (bAt s k / 16), hxD (bAt s k % 16)])) (ha : Ap v' wr v'' wr') :
    g - 1 < g ∧ HRel B v w s N T (g - 1) (k + 1) (k + 1) v'' (l' ++ sub s j k ++ [92, 117, 48, 48, hxD (bAt s k / 16), hxD (bAt s k % 16)]) wr' := by
  have hf := q.fuel
  refine ⟨by omega, ⟨by omega, by omega, by omega, fun i h3 h4 => by omega, hb, q.ap.trans ha, by have := q.len; simp [sub_len]; omega, by omega, ?_⟩⟩
  have A : l' ++ sub s j k ++ heS (j - k) (sub s k s.size) = T := q.out
  rw [sub_cons s hk, show j - k = 0 by omega, heS, if_pos h1] at A
  show _ ++ sub s (k + 1) (k + 1) ++ heS (k + 1 - (k + 1)) (sub s (k + 1) s.size) = T
  rw [← A, sub_self, Nat.sub_self]
  simp
theorem HRel.sep {B v w s N T g j k v' l' wr} (q : HRel B v w s N T g j k v' l' wr) (hk : k < s.size) (hj : j ≤ k) (h2 : sepB s k = true) {v'' : Value} {wr' : World}
    (hb : Bs wr' B v'' (l' ++ sub s j k ++ [92, 117, 50, 48, 50, hxD (bAt s (k + 2) % 16)])) (ha : Ap v' wr v'' wr') :
    g - 1 < g ∧ HRel B v w s N T (g - 1) (k + 3) (k + 1) v'' (l' ++ sub s j k ++ [92, 117, 50, 48, 50, hxD (bAt s (k + 2) % 16)]) wr' := by
  have hf := q.fuel
  unfold sepB at h2
  rw [decide_eq_true_eq] at h2
  obtain ⟨e1, e2, e3, e4⟩ := h2
  refine ⟨by omega, ⟨by omega, by omega, by omega, fun i h3 h4 => ?_, hb, q.ap.trans ha, by have := q.len; simp [sub_len]; omega, by omega, ?_⟩⟩
  · have : i = k + 1 ∨ i = k + 2 := by omega
    rcases this with rfl | rfl <;> omega
  · have A : l' ++ sub s j k ++ heS (j - k) (sub s k s.size) = T := q.out
    have hy : bAt s k = 226 ∧ (sub s (k + 1) s.size)[0]? = some 128 ∧ ((sub s (k + 1) s.size)[1]? = some 168 ∨ (sub s (k + 1) s.size)[1]? = some 169) := by
      rw [sub_get, sub_get, if_pos (by omega), if_pos (by omega)]
      refine ⟨e1, by rw [Nat.add_zero, e3], ?_⟩
      rcases e4 with e4 | e4
      · left; show some (bAt s (k + 2)) = _; rw [e4]
      · right; show some (bAt s (k + 2)) = _; rw [e4]
    have hg : (sub s (k + 1) s.size).getD 1 0 = bAt s (k + 2) := by
      rw [List.getD_eq_getElem?_getD, sub_get, if_pos (by omega)]; rfl
    rw [sub_cons s hk, show j - k = 0 by omega, heS, if_neg (by omega), if_pos hy, hg] at A
    show _ ++ sub s (k + 3) (k + 1) ++ heS (k + 3 - (k + 1)) (sub s (k + 1) s.size) = T
    have e0 : sub s (k + 3) (k + 1) = [] := by simp [sub, show k + 1 - (k + 3) = 0 by omega]
    rw [← A, e0, show k + 3 - (k + 1) = 2 by omega]
    simp
theorem andnot1 : ∀ n : Nat, n < 256 → ((bits .andNot .u8 (n : Int) 1 == 168) = decide (n = 168 ∨ n = 169)) := by decide +kernel
end Go.Proofs.YtjbffgjclnjkoaaGreatDoor
