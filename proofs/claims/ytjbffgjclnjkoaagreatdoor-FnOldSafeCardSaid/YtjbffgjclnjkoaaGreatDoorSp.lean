/- The scanner's stack: what is pushed, popped, and put on its top. -/
import Derived.Test.YtjbffgjclnjkoaaGreatDoorSm
namespace Go.Proofs.YtjbffgjclnjkoaaGreatDoor
set_option linter.unusedVariables false
set_option linter.unusedSimpArgs false
open Go.RowKit Go.Shelf

theorem Tryz.infoInt : (Tryz.prog.info? 3).map (fun i => (i.zero, i.size, i.bytes)) = some (some (.int .i64 0), 1, 8) := by kernel_rfl
theorem stv_cons (k : Int) (l : List Int) : stv (k :: l) = stv l ++ [.int .i64 k] := by simp [stv]
/-- A new row for the stack. -/
theorem IsS.newRow {w w1 : World} {b B : Nat} {σ : Sc} {v v' : Value} {l : List Int} (h : IsS w b B σ v) (hb : w1.heap[b]? = w.heap[b]?)
    (he : ∀ (p : Nat) (s : ByteArray) (n : Int), w.heap[p]? = some (Obj.cells #[.string s, .int .i64 n] 107 (0, 0)) → w1.heap[p]? = w.heap[p]?)
    (hr : w1.ownsRow B 3 1 v' l.length (stv l)) : IsS (w1.setCell ⟨b, 2, none⟩ v') b B { σ with stk := l } v' := by
  obtain ⟨e, n, h1, h2⟩ := h.cell
  have h1' := hb.trans h1
  have hne : v'.ownBlock ≠ some b := fun e' => by
    rcases hr.2 with ⟨rfl, _⟩ | ⟨g, cap, cur, rfl, _, hg, _⟩
    · cases e'
    · obtain rfl : g = b := by simpa [Value.ownBlock] using e'
      rw [h1'] at hg
      injection hg with hg
      injection hg with _ h3
      revert h3; decide
  refine ⟨h.hB, ⟨e, n, ?_, h2.keep fun p s n' hp => ?_⟩, row_set hr hne 2 v'⟩
  · exact heap_setCell_same h1' v'
  · exact (Below.heap_setCell _ _ _ _ (by simpa using (h.err_ne hp).1)).trans (he p s n' hp)
theorem IsS.push {w w1 : World} {b B g cap : Nat} {σ : Sc} {v : Value} {k : Int} {o : Obj} (h : IsS w b B σ v) (hw : B ≤ w.heap.size) (hg : (w.alloc o).grownBy w1 v.ownBlock)
    (hr : w1.ownsRow B 3 1 (.slice (some ⟨g, 0, none⟩) (σ.stk.length + 1) cap) (σ.stk.length + 1) (stv σ.stk ++ [.int .i64 k])) (hl : v.ownBlock = some g ∨ g = (w.alloc o).heap.size) :
    IsS (w1.setCell ⟨b, 2, none⟩ (.slice (some ⟨g, 0, none⟩) (σ.stk.length + 1) cap)) b B (σ.pushed k) (.slice (some ⟨g, 0, none⟩) (σ.stk.length + 1) cap) ∧
    Stp b v w (.slice (some ⟨g, 0, none⟩) (σ.stk.length + 1) cap) (w1.setCell ⟨b, 2, none⟩ (.slice (some ⟨g, 0, none⟩) (σ.stk.length + 1) cap)) := by
  have old : ∀ k, k < w.heap.size → v.ownBlock ≠ some k → w1.heap[k]? = w.heap[k]? := fun k hk hne => (hg.block k (by simp; omega) (fun e => hne e.symm)).trans (Below.heap_alloc _ _ _ hk)
  refine ⟨h.newRow (l := k :: σ.stk) (old b h.lt h.own_ne) (fun p s n hp => old p (lt_of_block hp) (h.err_ne hp).2) (by rw [stv_cons]; exact hr), ?_⟩
  have hz := hg.size
  simp at hz
  refine ⟨hg.os, hg.tape, hg.output, by simp [World.setCell]; omega, fun k hk hne hv => (Below.heap_setCell _ _ _ _ (by simpa using hne)).trans (old k hk hv), fun k hk hv e => ?_⟩
  obtain rfl : g = k := by simpa [Value.ownBlock] using e
  rcases hl with hl | hl
  · exact hv hl
  · simp at hl; omega
theorem own_cut {w : World} {B g n m cap : Nat} {xs : List Value} (h : w.ownsRow B 3 1 (.slice (some ⟨g, 0, none⟩) n cap) n xs) (hm : m ≤ n) : w.ownsRow B 3 1 (.slice (some ⟨g, 0, none⟩) m cap) m (xs.take m) := by
  have hl := h.1
  rcases h.2 with ⟨e, _⟩ | ⟨g', cap', cur, e, hB, hg, h1, h2, h3, h4⟩
  · cases e
  · simp only [Value.slice.injEq, Option.some.injEq, Addr.mk.injEq, and_true, true_and] at e
    obtain ⟨rfl, rfl⟩ := e
    refine ⟨by rw [List.length_take]; omega, .inr ⟨g, cap, cur, rfl, hB, hg, by omega, h2, h3, ?_⟩⟩
    rw [← h4, List.take_take]
    congr 1
    omega
theorem stv_take (k : Int) (l : List Int) : (stv (k :: l)).take l.length = stv l := by rw [stv_cons, ← stv_len l, List.take_left]
/-- The slice of a stack that is not empty. -/
theorem IsS.form {w : World} {b B : Nat} {σ : Sc} {v : Value} {k : Int} {r : List Int} (h : IsS w b B σ v) (hs : σ.stk = k :: r) : ∃ g cap, v = .slice (some ⟨g, 0, none⟩) (r.length + 1) cap ∧ r.length + 1 ≤ cap ∧ cap ≤ maxLen := by
  have hr := h.row
  rw [hs] at hr
  rcases hr.2 with ⟨_, h0⟩ | ⟨g, cap, cur, e, hB, hg, h1, h2, _⟩
  · simp at h0
  · exact ⟨g, cap, e, h1, h2⟩
/-- A byte that puts another thing on the stack's top. -/
theorem IsS.setHead {w : World} {b B g cap : Nat} {σ : Sc} {k : Int} {r : List Int} (h : IsS w b B σ (.slice (some ⟨g, 0, none⟩) (r.length + 1) cap)) (hs : σ.stk = k :: r) (x : Int) :
    w.cell? ⟨g, r.length, none⟩ = some (.int .i64 k) ∧ w.frozen? ⟨g, r.length, none⟩ = false ∧
    IsS (w.setCell ⟨g, r.length, none⟩ (.int .i64 x)) b B { σ with stk := x :: r } (.slice (some ⟨g, 0, none⟩) (r.length + 1) cap) ∧
    Stp b (.slice (some ⟨g, 0, none⟩) (r.length + 1) cap) w (.slice (some ⟨g, 0, none⟩) (r.length + 1) cap) (w.setCell ⟨g, r.length, none⟩ (.int .i64 x)) := by
  have hr := h.row
  rw [hs] at hr
  have hr' : w.ownsRow B 3 1 (.slice (some ⟨g, 0, none⟩) (r.length + 1) cap) (r.length + 1) (stv (k :: r)) := hr
  have hgb : g ≠ b := fun e => h.own_ne (by simp [Value.ownBlock, e])
  have hst := (World.ownsRow.stored hr' r.length (.int .i64 x)).1
  have e1 : (stv (k :: r)).set r.length (.int .i64 x) = stv (x :: r) := by
    rw [stv_cons, stv_cons, List.set_append_right _ _ (by rw [stv_len]; exact Nat.le_refl _), stv_len]
    simp
  have e2 : (stv (k :: r))[r.length]? = some (.int .i64 k) := by
    rw [stv_cons, List.getElem?_append_right (by rw [stv_len]; exact Nat.le_refl _), stv_len]
    simp
  rw [e1] at hst
  obtain ⟨e, n, h1, h2⟩ := h.cell
  refine ⟨?_, World.ownsRow.frozenAt hr' r.length, ⟨h.hB, ⟨e, n, ?_, h2.keep fun p s n' hp => ?_⟩, hst⟩, ?_⟩
  · rw [World.ownsRow.cellAt hr' r.length (by omega), e2]
  · exact (Below.heap_setCell _ _ _ _ (by simpa using fun e => hgb e.symm)).trans h1
  · exact Below.heap_setCell _ _ _ _ (by simpa using fun e => (h.err_ne hp).2 (by simp [Value.ownBlock, e]))
  · exact ⟨rfl, rfl, rfl, by simp [World.setCell], fun k hk _ hv => Below.heap_setCell _ _ _ _ (by simpa [Value.ownBlock] using fun e => hv (by simp [Value.ownBlock, e])), fun _ _ h => h⟩

set_option maxRecDepth 100000 in
set_option maxHeartbeats 1000000 in
theorem push_any (b B : Nat) (σ : Sc) (v : Value) (c k x : Int) (w : World) (h : IsS w b B σ v) (hw : B ≤ w.heap.size) (hl : σ.stk.length < 10000) :
    Calls Tryz.prog 99 #[.pointer (some ⟨b, 0, none⟩), .int .u8 c, .int .i64 k, .int .i64 x] w fun e w' => e = .returned (.int .i64 x) ∧ ∃ v', IsS w' b B (σ.pushed k) v' ∧ Stp b v w v' w' := by
  obtain ⟨j0, ji, jz0, jz1, jz2⟩ := info_parts Tryz.infoInt
  obtain ⟨e, n, _, _, _, c2, _, _, f0⟩ := h.cells
  have hrow := h.row
  have hlI : ((σ.stk.length : Nat) : Int) + 1 ≤ 10000 := by omega
  go_enter Tryz.func99, Tryz.ntmps99
  go_upto_region 2 with (at_builtin; refine wpList_append_lies _ rfl (.tmp 13) (.tmp 15) 96 (by rfl) B 3 j0 (.int .i64 0) 1 8 Tryz.underlying96 ji jz0 jz1 jz2 rfl (by decide) _ σ.stk.length (stv σ.stk) rfl (World.ownsRow.alloc hrow _) ⟨w.heap.size, 0, none⟩ 1 1 [.int .i64 k] rfl rfl (cell_one_new _ _ _) (by intro u hu; simp at hu; subst hu; rfl) (by decide) (by unfold maxLen; omega) (by omega) (by simp; omega) _ rfl ?_; intro g cap w1 hown hgr hgl _; obtain ⟨hS, hP⟩ := h.push hw hgr hown hgl; have hb1 : w1.heap[b]? = w.heap[b]? := (hgr.block b (by have := h.lt; simp; omega) (fun e => h.own_ne e.symm)).trans (Below.heap_alloc _ _ _ h.lt); have c21 : w1.cell? ⟨b, 2, none⟩ = some v := (World.cell?_of_block hb1).trans c2; have f21 : w1.frozen? ⟨b, 2, none⟩ = false := (by unfold World.frozen?; rw [hb1]; exact f0 2))
  obtain ⟨e3, n3, _, _, _, c23, _, _, f3⟩ := hS.cells
  have f32 := f3 2
  clear hrow hown hgr hgl f0 f3 hb1 c21 f21 c2 h
  generalize w1.setCell ⟨b, 2, none⟩ (.slice (some ⟨g, 0, none⟩) (σ.stk.length + 1) cap) = w2 at hS hP c23 f32 ⊢
  go_wp2_with fail
  all_goals go_ret
  exact ⟨rfl, _, hS, hP⟩
end Go.Proofs.YtjbffgjclnjkoaaGreatDoor
