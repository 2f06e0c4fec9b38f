/- Searching and replacing parts of a text: the walks; the plain mathematics of a token's escapes. -/
import Derived.Test.YtokhmhbjbclcoaaPp
namespace Go.Proofs.Ytokhmhbjbclcoaa
set_option linter.unusedVariables false
set_option linter.unusedSimpArgs false
open Go.RowKit

/-- The place of a part in a text from a place on, less than 0 if it is not there. -/
def idxF (s u : ByteArray) : Nat → Nat → Int
  | 0, _ => -1
  | g + 1, i => if i + u.size ≤ s.size then (if ((s.extract i (i + u.size)).toList == u.toList) = true then (i : Int) else idxF s u g (i + 1)) else -1

set_option maxRecDepth 100000 in
set_option maxHeartbeats 4000000 in
theorem zzIndex_any (s u : ByteArray) (w : World) (hs : s.size ≤ 10000000000) (hu : u.size ≤ 10000000000) :
    Calls Try.prog 28 #[.string s, .string u] w fun e w' => e = .returned (.int .i64 (idxF s u (s.size + 1) 0)) ∧ w' = w := by
  obtain ⟨R, HR⟩ : ∃ R, Hid (idxF s u (s.size + 1) 0 = R) := ⟨_, Lib.hid rfl⟩
  rw [HR.out]
  have A0 : Aside (idxF s u (s.size + 1) 0 = R) := HR.out
  obtain ⟨m, hm⟩ : ∃ m, u.size = m := ⟨_, rfl⟩
  rw [hm] at hu
  go_enter Try.func28, Try.ntmps28
  go_wp2
  go_loopg [5] (s.size + 1) (fun g i wr => ∃ k : Nat, i = .int .i64 k ∧ k ≤ s.size + 1 ∧ s.size + 1 - k ≤ g ∧ wr = w ∧ Aside (idxF s u g k = R))
  case atStart => exact ⟨0, rfl, by omega, by omega, rfl, A0⟩
  case round =>
    clear A0
    obtain ⟨k, rfl, hks, hg, rfl, A⟩ := hrel
    have A' : idxF s u gk k = R := A
    have hw1 : IntKind.i64.wrap ((k : Int) + (m : Int)) = (k : Int) + (m : Int) := by rw [IntKind.wrap_i64]; omega
    have hw2 : IntKind.i64.wrap ((k : Int) + 1) = (k : Int) + 1 := by rw [IntKind.wrap_i64]; omega
    by_cases hk : k + m ≤ s.size
    · obtain ⟨G, rfl⟩ : ∃ G, gk = G + 1 := ⟨gk - 1, by omega⟩
      rw [idxF, hm, if_pos hk] at A'
      have hk1 : (k : Int) + (m : Int) ≤ (s.size : Int) := by omega
      have hk2 : (k : Int) ≤ (k : Int) + (m : Int) := by omega
      have hk3 : ((k : Int) + (m : Int)).toNat = k + m := by omega
      have hk4 : (0 : Int) ≤ (k : Int) + (m : Int) := by omega
      obtain ⟨b, hb⟩ : ∃ b, ((s.extract k (k + m)).toList == u.toList) = b := ⟨_, rfl⟩
      cases b
      · rw [hb, if_neg (by simp)] at A'
        have A2 : Aside (idxF s u G (k + 1) = R) := A'
        clear A A' hs hu
        go_wp2
        go_roundg G
        case measure => go_light; omega
        case rel =>
          go_light
          exact ⟨k + 1, by go_num, by omega, by omega, rfl, A2⟩
      · rw [hb, if_pos rfl] at A'
        subst A'
        clear A hs hu
        go_wp2
        all_goals go_ret
        exact ⟨rfl, rfl⟩
    · have hR : R = -1 := by
        rw [← A']
        cases gk with
        | zero => rfl
        | succ G => rw [idxF, hm, if_neg hk]
      subst hR
      have hk1 : ¬ (k : Int) + (m : Int) ≤ (s.size : Int) := by omega
      clear A A' hs hu
      go_wp2
      all_goals go_ret
      exact ⟨rfl, rfl⟩

/-- Each pair of a tilde and c becomes d. -/
def repP (c d : Int) : List Int → List Int
  | [] => []
  | [x] => [x]
  | x :: y :: t => if x = 126 ∧ y = c then d :: repP c d t else x :: repP c d (y :: t)
theorem repP_cons {c d x : Int} {t : List Int} (h : x ≠ 126) : repP c d (x :: t) = x :: repP c d t := by
  cases t with
  | nil => rfl
  | cons y t => rw [repP, if_neg (fun e => h e.1)]
theorem repP_hit (c d : Int) (t : List Int) : repP c d (126 :: c :: t) = d :: repP c d t := by rw [repP, if_pos ⟨rfl, rfl⟩]
theorem repP_miss {c d y : Int} {t : List Int} (h : y ≠ c) : repP c d (126 :: y :: t) = 126 :: repP c d (y :: t) := by rw [repP, if_neg (fun e => h e.2)]
def esc1 (c : Int) : List Int := if c = 126 then [126, 48] else [c]
theorem rep_one : ∀ t : List Int, repP 49 47 (t.flatMap escP) = t.flatMap esc1
  | [] => rfl
  | x :: t => by
    rw [List.flatMap_cons, List.flatMap_cons]
    unfold escP esc1
    by_cases h : x = 126
    · rw [if_pos h, if_pos h]
      show repP 49 47 (126 :: 48 :: t.flatMap escP) = 126 :: 48 :: t.flatMap esc1
      rw [repP_miss (by decide), repP_cons (by decide), rep_one t]
    · rw [if_neg h, if_neg h]
      by_cases h2 : x = 47
      · rw [if_pos h2, h2]
        show repP 49 47 (126 :: 49 :: t.flatMap escP) = 47 :: t.flatMap esc1
        rw [repP_hit, rep_one t]
      · rw [if_neg h2]
        show repP 49 47 (x :: t.flatMap escP) = x :: t.flatMap esc1
        rw [repP_cons h, rep_one t]
theorem rep_two : ∀ t : List Int, repP 48 126 (t.flatMap esc1) = t
  | [] => rfl
  | x :: t => by
    rw [List.flatMap_cons]
    unfold esc1
    by_cases h : x = 126
    · rw [if_pos h, h]
      show repP 48 126 (126 :: 48 :: t.flatMap esc1) = 126 :: t
      rw [repP_hit, rep_two t]
    · rw [if_neg h]
      show repP 48 126 (x :: t.flatMap esc1) = x :: t
      rw [repP_cons h, rep_two t]
/-- Escapes are taken back. -/
theorem rep_esc (t : List Int) : repP 48 126 (repP 49 47 (t.flatMap escP)) = t := by rw [rep_one, rep_two]
theorem repP_none (c d : Int) : ∀ l : List Int, (∀ x ∈ l, x ≠ 126) → repP c d l = l
  | [], _ => rfl
  | x :: t, h => by rw [repP_cons (h x (.head _)), repP_none c d t (fun y hy => h y (.tail _ hy))]
theorem repP_len (c d : Int) : ∀ l : List Int, (repP c d l).length ≤ l.length
  | [] => Nat.le_refl _
  | [x] => Nat.le_refl _
  | x :: y :: t => by
    rw [repP]
    split
    · have := repP_len c d t; simp; omega
    · have := repP_len c d (y :: t); simp at this ⊢; omega
theorem repP_by {c d : Int} (hd : 0 ≤ d ∧ d < 256) : ∀ l : List Int, By8 l → By8 (repP c d l)
  | [], h => h
  | [x], h => h
  | x :: y :: t, h => by
    rw [repP]
    split
    · intro z hz
      rcases List.mem_cons.1 hz with e | e
      · subst e; exact hd
      · exact repP_by hd t (fun u hu => h u (.tail _ (.tail _ hu))) z e
    · intro z hz
      rcases List.mem_cons.1 hz with e | e
      · subst e; exact h z (.head _)
      · exact repP_by hd (y :: t) (fun u hu => h u (.tail _ hu)) z e
/-- The first pair of a row stands at the place i. -/
theorem repP_at (c d : Int) : ∀ (i : Nat) (l : List Int), (∀ j, j < i → ¬ (l[j]? = some 126 ∧ l[j + 1]? = some c)) → (l[i]? = some 126 ∧ l[i + 1]? = some c) → repP c d l = l.take i ++ d :: repP c d (l.drop (i + 2))
  | i, [], _, h => by simp at h
  | i, [x], _, h => by simp at h
  | 0, x :: y :: t, _, h => by
    simp at h
    rw [h.1, h.2, repP_hit]; rfl
  | i + 1, x :: y :: t, h0, h => by
    have hn := h0 0 (by omega)
    simp at hn
    rw [repP, if_neg (fun e => hn e.1 e.2)]
    have e1 : ∀ j, j < i → ¬ ((y :: t)[j]? = some 126 ∧ (y :: t)[j + 1]? = some c) := fun j hj hp => h0 (j + 1) (by omega) (by rw [List.getElem?_cons_succ, List.getElem?_cons_succ]; exact hp)
    have e2 : (y :: t)[i]? = some 126 ∧ (y :: t)[i + 1]? = some c := by rw [List.getElem?_cons_succ, List.getElem?_cons_succ] at h; exact h
    rw [repP_at c d i (y :: t) e1 e2]
    rfl
theorem repP_no (c d : Int) : ∀ (l : List Int), (∀ j : Nat, ¬ (l[j]? = some 126 ∧ l[j + 1]? = some c)) → repP c d l = l
  | [], _ => rfl
  | [x], _ => rfl
  | x :: y :: t, h => by
    have hn := h 0
    simp at hn
    rw [repP, if_neg (fun e => hn e.1 e.2), repP_no c d (y :: t) (fun j hp => h (j + 1) (by rw [List.getElem?_cons_succ, List.getElem?_cons_succ]; exact hp))]
end Go.Proofs.Ytokhmhbjbclcoaa
