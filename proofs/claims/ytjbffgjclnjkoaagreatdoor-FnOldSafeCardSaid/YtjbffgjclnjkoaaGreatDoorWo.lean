/- A drawing region in which two operations are ready at once. -/
import Derived.Test.YtjbffgjclnjkoaaGreatDoorBw
import Derived.Outline
namespace Go.Proofs.YtjbffgjclnjkoaaGreatDoor
set_option linter.unusedVariables false
set_option linter.unusedSimpArgs false
open Go.RowKit

/-- What is left of a region comes in one order only, by numbers. -/
def seqI (md : Region.Mode) (ops : Array Oper) : List Nat → Array Bool → Bool
  | [], listed => (Region.ready md ops listed).isEmpty
  | i :: is, listed => decide (Region.ready md ops listed = [i]) && seqI md ops is (listed.setIfInBounds i true)
theorem wpAny_idx {P : Program} {md : Region.Mode} {ops : Array Oper} {Q : Exit → Act → World → Prop} : ∀ (is : List Nat) (l : List Oper) (listed : Array Bool) (a : Act) (w : World), (is.map fun i => ops[i]?) = l.map some →
    seqI md ops is listed = true → wpList P ops Q l a w → wpAny P md ops Q is.length listed a w
  | [], [], _, _, _, _, hB, h => ⟨by simpa [seqI] using hB, h⟩
  | [], _ :: _, _, _, _, he, _, _ => by cases he
  | _ :: _, [], _, _, _, he, _, _ => by cases he
  | i :: is, o :: l, listed, a, w, he, hB, h => by
    obtain ⟨h0, he'⟩ := List.cons.inj he
    simp only [seqI, Bool.and_eq_true, decide_eq_true_eq] at hB
    refine ⟨fun h1 => (by rw [hB.1] at h1; cases h1), fun j hj => ?_⟩
    rw [hB.1] at hj
    have hji : j = i := by simpa using hj
    subst hji
    have hw : wpOp P ops Q j (wpList P ops Q l) a w := by unfold wpOp; simp only [h0]; exact h
    exact wpOp_mono (fun a' w' h' => wpAny_idx is l _ a' w' he' hB.2 h') hw
theorem wpAny_some {P : Program} {md : Region.Mode} {ops : List Oper} {Q : Exit → Act → World → Prop} (is : List Nat) {listed : Array Bool} {a : Act} {w : World} (hlt : (is.all fun i => decide (i < ops.length)) = true)
    (hB : seqI md ops.toArray is listed = true) (h : wpList P ops.toArray Q (is.filterMap fun i => ops[i]?) a w) : wpAny P md ops.toArray Q is.length listed a w := by
  refine wpAny_idx is _ listed a w ?_ hB h
  clear h hB
  induction is with
  | nil => rfl
  | cons i is ih =>
    simp only [List.all_cons, Bool.and_eq_true, decide_eq_true_eq] at hlt
    have e : ops[i]? = some ops[i] := List.getElem?_eq_getElem hlt.1
    rw [List.map_cons, List.filterMap_cons, e, ih hlt.2]
    simp [e]
theorem wpOp_val {P : Program} {ops : Array Oper} {Q : Exit → Act → World → Prop} {i : Nat} {o : Oper} {v : Value} {a : Act} {w w' : World} {K : Act → World → Prop} (hi : ops[i]? = some o) (hw : Region.wanted o (yielded ops a.tmps) = true)
    (hr : (execOp a.eval o).run P w = .ok (.value v) w') (h : K (a.put o.dst v) w') : wpOp P ops Q i K a w := by
  unfold wpOp
  simp only [hi, hw, if_true, Oper.wp, hr, Oper.upon]
  exact .inl h
/-- An operation that is taken, and behind it what is left, in the order of a list. -/
theorem wpOp_pick {P : Program} {md : Region.Mode} {ops : List Oper} {Q : Exit → Act → World → Prop} (i : Nat) (is : List Nat) {o : Oper} {listed : Array Bool} {a : Act} {w : World} (hi : ops.toArray[i]? = some o) (hlt : (is.all fun i => decide (i < ops.length)) = true)
    (hB : seqI md ops.toArray is listed = true) (h : wpList P ops.toArray Q (o :: is.filterMap fun i => ops[i]?) a w) : wpOp P ops.toArray Q i (fun a' w' => wpAny P md ops.toArray Q is.length listed a' w') a w := by
  refine wpOp_mono (fun a' w' h' => wpAny_some is hlt hB h') ?_
  show wpOp P ops.toArray Q i (wpList P ops.toArray Q (is.filterMap fun i => ops[i]?)) a w
  unfold wpOp
  simp only [hi]
  exact h
end Go.Proofs.YtjbffgjclnjkoaaGreatDoor
