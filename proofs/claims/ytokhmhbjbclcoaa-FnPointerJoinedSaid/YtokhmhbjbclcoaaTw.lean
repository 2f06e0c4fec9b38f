/- The tokens of a pointer by the reference: the walk. -/
import Derived.Test.YtokhmhbjbclcoaaTk
import Derived.Test.YtokhmhbjbclcoaaCb
import Derived.WalkLawsBesides
import Derived.WalkSpells
import Derived.OwnWalk
import Derived.Laws.OwnMore
import Derived.Deep.AppendLies
import Derived.Deep.LoopGhost
import Derived.Deep.Light
import Derived.Outline
namespace Go.Proofs.Ytokhmhbjbclcoaa
set_option linter.unusedVariables false
set_option linter.unusedSimpArgs false
open Go.RowKit

theorem Try.infoStr : (Try.prog.info? 9).map (fun i => (i.zero, i.size, i.bytes)) = some (some (.string ⟨#[]⟩), 1, 16) := by kernel_rfl
/-- The texts of tokens, in a row. -/
def tv (acc : List (List Int)) : List Value := acc.map fun t => Value.string (txt t)
theorem tv_len (acc : List (List Int)) : (tv acc).length = acc.length := by simp [tv]
def Tks (w : World) (B : Nat) (v : Value) (acc : List (List Int)) : Prop := w.ownsRow B 9 1 v acc.length (tv acc)
theorem tv_add {acc : List (List Int)} (h : acc ≠ []) (x : List Int) : (tv acc).set (acc.length - 1) (.string (txt (acc.getLast?.getD [] ++ x))) = tv (addLast acc x) := by
  obtain ⟨a, b, rfl⟩ : ∃ a b, acc = a ++ [b] := ⟨acc.dropLast, acc.getLast h, (List.dropLast_concat_getLast h).symm⟩
  unfold addLast tv
  simp
/-- What stands in the last cell. -/
theorem tks_last {w : World} {B : Nat} {v : Value} {acc : List (List Int)} (h : Tks w B v acc) (hne : acc ≠ []) :
    ∃ g cap m, v = .slice (some ⟨g, 0, none⟩) (m + 1) cap ∧ acc.length = m + 1 ∧ B ≤ g ∧ cap ≤ maxLen ∧ m + 1 ≤ cap ∧ w.cell? ⟨g, m, none⟩ = some (.string (txt (acc.getLast?.getD []))) ∧ w.frozen? ⟨g, m, none⟩ = false ∧
      (∀ x, Tks (w.setCell ⟨g, m, none⟩ (.string (txt (acc.getLast?.getD [] ++ x)))) B v (addLast acc x)) := by
  have hl : 0 < acc.length := List.length_pos_iff.2 hne
  obtain ⟨m, hm⟩ : ∃ m, acc.length = m + 1 := ⟨acc.length - 1, by omega⟩
  obtain ⟨hlen, h2⟩ := id h
  rcases h2 with ⟨_, h0⟩ | ⟨g, cap, cur, rfl, hB, hg, hn, hcm, hcs, htk⟩
  · omega
  · refine ⟨g, cap, m, by rw [hm], hm, hB, hcm, by omega, ?_, ?_, ?_⟩
    · have hc := World.ownsRow.cellAt h m (by omega)
      rw [hc]
      unfold tv
      rw [List.getElem?_map, List.getLast?_eq_getElem?, hm]
      rw [Nat.add_sub_cancel, List.getElem?_eq_getElem (by omega)]
      rfl
    · exact World.ownsRow.frozenAt h m
    · intro x
      have hst := World.ownsRow.stored h m (.string (txt (acc.getLast?.getD [] ++ x)))
      have e := tv_add hne x
      rw [hm, Nat.add_sub_cancel] at e
      unfold Tks
      rw [num_add x hne, ← e]
      exact hst.1

theorem own_below {w wr w1 : World} {B size n : Nat} {e : TypeId} {v : Value} {xs : List Value} (hB : B ≤ w.heap.size) (hb : Below B w wr) (h : wr.ownsRow B e size v n xs) (hg : wr.grownBy w1 v.ownBlock) : Below B w w1 := by
  refine ⟨hg.os.trans hb.os, hg.tape.trans hb.tape, hg.output.trans hb.output, Nat.le_trans hb.size hg.size, fun k hk => ?_⟩
  have hz := hb.size
  refine (hg.block k (by omega) ?_).trans (hb.block k hk)
  rcases h.2 with ⟨rfl, _⟩ | ⟨g, cap, cur, rfl, hBg, _⟩
  · intro e; cases e
  · intro e; have := Option.some.inj e; simp at this; omega
/-- What is left of a region comes in one order only, by numbers. -/
def seqI (md : Region.Mode) (ops : Array Oper) : List Nat → Array Bool → Bool
  | [], listed => (Region.ready md ops listed).isEmpty
  | i :: is, listed => decide (Region.ready md ops listed = [i]) && seqI md ops is (listed.setIfInBounds i true)
theorem wpAny_idx {P : Program} {md : Region.Mode} {ops : Array Oper} {Q : Exit → Act → World → Prop} : ∀ (is : List Nat) (l : List Oper) (listed : Array Bool) (a : Act) (w : World), (is.map fun i => ops[i]?) = l.map some →
    seqI md ops is listed = true → wpList P ops Q l a w → wpAny P md ops Q is.length listed a w
  | [], [], _, _, _, _, hB, h => ⟨by simpa [seqI] using hB, h⟩
  | [], _ :: _, _, _, _, he, _, _ => by cases he
  | _ :: _, [], _, _, _, he, _, _ => by cases he
  | i :: is, o :: l, listed, a, w, he, hB, h => by
    obtain ⟨h0, he'⟩ := List.cons.inj he
    simp only [seqI, Bool.and_eq_true, decide_eq_true_eq] at hB
    refine ⟨fun h1 => (by rw [hB.1] at h1; cases h1), fun j hj => ?_⟩
    rw [hB.1] at hj
    have hji : j = i := by simpa using hj
    subst hji
    have hw : wpOp P ops Q j (wpList P ops Q l) a w := by unfold wpOp; simp only [h0]; exact h
    exact wpOp_mono (fun a' w' h' => wpAny_idx is l _ a' w' he' hB.2 h') hw

theorem wpAny_some {P : Program} {md : Region.Mode} {ops : List Oper} {Q : Exit → Act → World → Prop} (is : List Nat) {listed : Array Bool} {a : Act} {w : World} (hlt : (is.all fun i => decide (i < ops.length)) = true)
    (hB : seqI md ops.toArray is listed = true) (h : wpList P ops.toArray Q (is.filterMap fun i => ops[i]?) a w) : wpAny P md ops.toArray Q is.length listed a w := by
  refine wpAny_idx is _ listed a w ?_ hB h
  clear h hB
  induction is with
  | nil => rfl
  | cons i is ih =>
    simp only [List.all_cons, Bool.and_eq_true, decide_eq_true_eq] at hlt
    have e : ops[i]? = some ops[i] := List.getElem?_eq_getElem hlt.1
    rw [List.map_cons, List.filterMap_cons, e, ih hlt.2]
    simp [e]

theorem txt_conv (l : List Int) (hl : ∀ x ∈ l, 0 ≤ x ∧ x < 256) (w : World) (T : TypeId) (cap : Nat) :
    (convert 43 9 (.slice (some ⟨w.heap.size, 0, none⟩) l.length cap)).run Try.prog (w.alloc (.cells (l.map (Value.int .u8)).toArray T)) = .ok (.string (txt l)) (w.alloc (.cells (l.map (Value.int .u8)).toArray T)) := by
  have hB : Lib.Bytes (w.alloc (.cells (l.map (Value.int .u8)).toArray T)) w.heap.size 0 (txt l) := by
    intro i hi
    rw [txt_size] at hi
    have hg : (txt l)[i]'(by rw [txt_size]; exact hi) = UInt8.ofNat (l[i]).toNat := by
      show (txt l).data[i]'_ = _
      unfold txt; simp
    have := hl l[i] (List.getElem_mem hi)
    have e : ((UInt8.ofNat (l[i]).toNat).toNat : Int) = l[i] := by
      rw [UInt8.toNat_ofNat']; omega
    rw [hg, e, Nat.zero_add]
    have hh := heap_alloc_new w (.cells (l.map (Value.int .u8)).toArray T)
    simp only [World.cell?, hh]
    simp [hi]
  have h := Lib.run_convert_whole (P := Try.prog) _ 43 5 9 Try.underlying43 Try.underlying5 Try.underlying9 w.heap.size 0 (txt l) hB cap
  rw [txt_size] at h
  exact h
theorem txt_app (a b : List Int) (ha : By8 a) (hb : By8 b) : txt a ++ txt b = txt (a ++ b) := by
  apply bl_inj
  rw [bl_append, bl_txt ha, bl_txt hb, bl_txt (ha.app hb)]
theorem wpOp_val {P : Program} {ops : Array Oper} {Q : Exit → Act → World → Prop} {i : Nat} {o : Oper} {v : Value} {a : Act} {w w' : World} {K : Act → World → Prop} (hi : ops[i]? = some o) (hw : Region.wanted o (yielded ops a.tmps) = true)
    (hr : (execOp a.eval o).run P w = .ok (.value v) w') (h : K (a.put o.dst v) w') : wpOp P ops Q i K a w := by
  unfold wpOp
  simp only [hi, hw, if_true, Oper.wp, hr, Oper.upon]
  exact .inl h
theorem tks_at {w : World} {B g cap m : Nat} {acc : List (List Int)} (h : Tks w B (.slice (some ⟨g, 0, none⟩) (m + 1) cap) acc) (hne : acc ≠ []) :
    w.cell? ⟨g, m, none⟩ = some (.string (txt (acc.getLast?.getD []))) ∧ w.frozen? ⟨g, m, none⟩ = false ∧
      (∀ x, Tks (w.setCell ⟨g, m, none⟩ (.string (txt (acc.getLast?.getD [] ++ x)))) B (.slice (some ⟨g, 0, none⟩) (m + 1) cap) (addLast acc x)) := by
  obtain ⟨g', cap', m', e, h1, h2, h3, h4, h5, h6, h7⟩ := tks_last h hne
  simp only [Value.slice.injEq, Option.some.injEq, Addr.mk.injEq, and_true] at e
  obtain ⟨rfl, e2, rfl⟩ := e
  obtain rfl : m = m' := by omega
  exact ⟨h5, h6, h7⟩

end Go.Proofs.Ytokhmhbjbclcoaa
