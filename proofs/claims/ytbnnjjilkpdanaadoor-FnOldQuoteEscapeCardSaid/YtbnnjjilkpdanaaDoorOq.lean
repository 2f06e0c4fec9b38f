/- Quoting by encoding/json: the plain mathematics. -/
import Derived.Test.YtbnnjjilkpdanaaDoorOg
import Derived.Test.YtbnnjjilkpdanaaDoorDs
import Derived.Test.YtbnnjjilkpdanaaDoorBx
import Derived.Test.YtbnnjjilkpdanaaDoorSb
namespace Go.Proofs.YtbnnjjilkpdanaaDoor
open Go.RowKit
set_option linter.unusedVariables false

def escO (c : Int) : List Int :=
  if c = 92 ∨ c = 34 then [92, c] else if c = 8 then [92, 98] else if c = 12 then [92, 102] else if c = 10 then [92, 110] else if c = 13 then [92, 114] else if c = 9 then [92, 116]
  else [92, 117, 48, 48, hxD (c / 16), hxD (c % 16)]
/-- What is put for the character at a place. -/
def oC (html : Bool) (s : ByteArray) (k : Nat) : List Int :=
  if bAt s k < 128 then (if safeO html (bAt s k) = true then [bAt s k] else escO (bAt s k))
  else if uw s k = 0 then [92, 117, 102, 102, 102, 100]
  else if runeN s k = 8232 then [92, 117, 50, 48, 50, 56]
  else if runeN s k = 8233 then [92, 117, 50, 48, 50, 57]
  else sub s k (k + uw s k)
def oO (html : Bool) (s : ByteArray) : Nat → Nat → List Int
  | 0, _ => []
  | g + 1, k => if k < s.size then oC html s k ++ oO html s g (k + stepN s k) else []
theorem step_fit' (s : ByteArray) (i : Nat) (h : i < s.size) : i + stepN s i ≤ s.size ∧ 1 ≤ stepN s i := by
  have := uw_fit s i
  unfold stepN
  split
  · omega
  · rename_i hu; have := this hu; omega
theorem step_of {s : ByteArray} {k : Nat} (h : uw s k ≠ 0) : stepN s k = uw s k := by unfold stepN; rw [if_neg h]
theorem uw_le4 (s : ByteArray) (k : Nat) : uw s k ≤ 4 := by
  unfold uw
  split
  · split
    · omega
    · split
      · omega
      · split
        · exact uLen_le _
        · omega
  · omega
theorem oC_len (html : Bool) (s : ByteArray) (k : Nat) : (oC html s k).length ≤ 6 := by
  have h4 := uw_le4 s k
  unfold oC escO
  repeat' split
  all_goals simp [sub_len] <;> omega
theorem oO_nil {html : Bool} {s : ByteArray} {g k : Nat} (h : ¬ k < s.size) : oO html s g k = [] := by
  cases g with
  | zero => rfl
  | succ g => rw [oO, if_neg h]

/-- What holds at the head of each round. -/
structure ORel (B : Nat) (v : Value) (w : World) (html : Bool) (s : ByteArray) (N : Nat) (T : List Int) (g j k : Nat) (v' : Value) (l' : List Int) (wr : World) : Prop where
  jk : j ≤ k
  ks : k ≤ s.size
  bs : Bs wr B v' l'
  ap : Ap v w v' wr
  len : l'.length + (k - j) ≤ N + 6 * k
  fuel : s.size - k ≤ g
  out : Aside (l' ++ sub s j k ++ oO html s g k = T)
theorem ORel.keep {B v w html s N T g j k v' l' wr} (q : ORel B v w html s N T g j k v' l' wr) (hk : k < s.size) {d : Nat} (hd : stepN s k = d) (hc : oC html s k = sub s k (k + d)) {wr' : World} (hb : Below wr.heap.size wr wr') :
    g - 1 < g ∧ ORel B v w html s N T (g - 1) j (k + d) v' l' wr' := by
  subst hd
  have hf := q.fuel
  obtain ⟨g', rfl⟩ : ∃ g', g = g' + 1 := ⟨g - 1, by omega⟩
  have hst := step_fit' s k hk
  have hqc := oC_len html s k
  rw [hc, sub_len] at hqc
  refine ⟨by omega, ⟨by have := q.jk; omega, by omega, q.bs.below hb, q.ap.trans (Ap.of_below _ hb), by have := q.len; have := q.jk; omega, by omega, ?_⟩⟩
  have A : l' ++ sub s j k ++ oO html s (g' + 1) k = T := q.out
  rw [oO, if_pos hk, hc] at A
  show l' ++ sub s j (k + stepN s k) ++ oO html s (g' + 1 - 1) (k + stepN s k) = T
  rw [Nat.add_sub_cancel, ← A, ← sub_app s q.jk (by omega : k ≤ k + stepN s k)]
  simp [List.append_assoc]
theorem ORel.put {B v w html s N T g j k v' l' wr} (q : ORel B v w html s N T g j k v' l' wr) (hk : k < s.size) {d : Nat} (hd : stepN s k = d) {c : List Int} (hc : oC html s k = c) {v'' : Value} {wr' : World} (hb : Bs wr' B v'' (l' ++ sub s j k ++ c)) (ha : Ap v' wr v'' wr') :
    g - 1 < g ∧ ORel B v w html s N T (g - 1) (k + d) (k + d) v'' (l' ++ sub s j k ++ c) wr' := by
  subst hd hc
  have hf := q.fuel
  obtain ⟨g', rfl⟩ : ∃ g', g = g' + 1 := ⟨g - 1, by omega⟩
  have hst := step_fit' s k hk
  have hqc := oC_len html s k
  refine ⟨by omega, ⟨Nat.le_refl _, by omega, hb, q.ap.trans ha, ?_, by omega, ?_⟩⟩
  · have := q.len; have := q.jk
    simp only [List.length_append, sub_len]
    omega
  · have A : l' ++ sub s j k ++ oO html s (g' + 1) k = T := q.out
    rw [oO, if_pos hk] at A
    show l' ++ sub s j k ++ oC html s k ++ sub s (k + stepN s k) (k + stepN s k) ++ oO html s (g' + 1 - 1) (k + stepN s k) = T
    rw [Nat.add_sub_cancel, ← A, sub_self]
    simp [List.append_assoc]
end Go.Proofs.YtbnnjjilkpdanaaDoor
