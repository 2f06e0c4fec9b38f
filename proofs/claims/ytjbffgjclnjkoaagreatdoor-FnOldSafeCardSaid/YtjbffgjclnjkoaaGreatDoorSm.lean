/- The scanner in memory: what holds of it, what a step leaves; its small functions. -/
import Derived.Test.YtjbffgjclnjkoaaGreatDoorSa
import Derived.Test.YtjbffgjclnjkoaaGreatDoorCb
import Derived.OwnWalk
import Derived.WalkKit
import Derived.WalkLawsBesides
import Derived.WalkSpells
import Derived.Laws.OwnMore
import Derived.Deep.AppendLies
import Derived.Deep.LoopGhost
import Derived.Shelf.Abstract
import Derived.Deep.DeepCutAuto
import Derived.Deep.CutBlock
import Derived.BigQuiet
import Derived.Deep.QuietTactic
namespace Go.Proofs.YtjbffgjclnjkoaaGreatDoor
set_option linter.unusedVariables false
set_option linter.unusedSimpArgs false
open Go.RowKit Go.Shelf

/-- The function of a state. -/
def fnQ : Sq → Nat
  | .bv => 89 | .bvE => 100 | .bsE => 98 | .bs => 114 | .ev => 113 | .et => 129
  | .str => 101 | .esc => 115 | .u0 => 131 | .u1 => 137 | .u2 => 140 | .u3 => 141
  | .neg => 102 | .s1 => 107 | .s0 => 103 | .dot => 116 | .dot0 => 132 | .ee => 117 | .esg => 133 | .e0 => 138
  | .t1 => 104 | .t2 => 118 | .t3 => 134 | .f1 => 105 | .f2 => 119 | .f3 => 135 | .f4 => 139 | .n1 => 106 | .n2 => 120 | .n3 => 136
  | .er => 121
def fv (q : Sq) : Value := .func (.func (fnQ q)) #[] #[]
/-- The error so far: none just if nothing was wrong. -/
def ErS (w : World) (B : Nat) (bad : Bool) (e : Value) : Prop :=
  (bad = false → e = .nilIface) ∧ (bad = true → ∃ (p : Nat) (s : ByteArray) (n : Int), e = .iface 103 (.pointer (some ⟨p, 0, none⟩)) ∧ B ≤ p ∧ w.heap[p]? = some (.cells #[.string s, .int .i64 n] 107 (0, 0)))
/-- The stack, as it lies in its row. -/
def stv (l : List Int) : List Value := l.reverse.map (.int .i64)
theorem stv_len (l : List Int) : (stv l).length = l.length := by simp [stv]
/-- The scanner lies in block b, its stack is the slice v; both were laid from block B on. -/
structure IsS (w : World) (b B : Nat) (σ : Sc) (v : Value) : Prop where
  hB : B ≤ b
  cell : ∃ e n, w.heap[b]? = some (.cells #[fv σ.q, .bool σ.top, v, e, .int .i64 n] 124 (0, 0)) ∧ ErS w B σ.bad e
  row : w.ownsRow B 3 1 v σ.stk.length (stv σ.stk)
/-- What a step leaves as it was. -/
structure Stp (b : Nat) (v : Value) (w : World) (v' : Value) (w' : World) : Prop where
  os : w'.os = w.os
  tape : w'.tape = w.tape
  output : w'.output = w.output
  size : w.heap.size ≤ w'.heap.size
  block : ∀ k, k < w.heap.size → k ≠ b → v.ownBlock ≠ some k → w'.heap[k]? = w.heap[k]?
  own : ∀ k, k < w.heap.size → v.ownBlock ≠ some k → v'.ownBlock ≠ some k
theorem Stp.refl (b : Nat) (v : Value) (w : World) : Stp b v w v w := ⟨rfl, rfl, rfl, Nat.le_refl _, fun _ _ _ _ => rfl, fun _ _ h => h⟩
theorem Stp.trans {b : Nat} {v v1 v2 : Value} {w w1 w2 : World} (h : Stp b v w v1 w1) (k : Stp b v1 w1 v2 w2) : Stp b v w v2 w2 :=
  ⟨k.os.trans h.os, k.tape.trans h.tape, k.output.trans h.output, Nat.le_trans h.size k.size, fun i hi hne hv => (k.block i (Nat.lt_of_lt_of_le hi h.size) hne (h.own i hi hv)).trans (h.block i hi hne hv), fun i hi hv => k.own i (Nat.lt_of_lt_of_le hi h.size) (h.own i hi hv)⟩
theorem Stp.set (b : Nat) (v : Value) (w : World) (o : Nat) (x : Value) : Stp b v w v (w.setCell ⟨b, o, none⟩ x) :=
  ⟨rfl, rfl, rfl, by simp [World.setCell], fun k _ hne _ => Below.heap_setCell _ _ _ _ (by simpa using hne), fun _ _ h => h⟩
theorem Stp.alloc (b : Nat) (v : Value) (w : World) (o : Obj) : Stp b v w v (w.alloc o) :=
  ⟨rfl, rfl, rfl, by simp, fun k hk _ _ => Below.heap_alloc _ _ _ hk, fun _ _ h => h⟩
theorem Stp.drew (b : Nat) (v : Value) (w : World) (n : Nat) : Stp b v w v (w.drewN n) := ⟨rfl, rfl, rfl, Nat.le_refl _, fun _ _ _ _ => rfl, fun _ _ h => h⟩
theorem IsS.own_lt {w : World} {b B : Nat} {σ : Sc} {v : Value} (h : IsS w b B σ v) {g : Nat} (hg : v.ownBlock = some g) : B ≤ g ∧ g < w.heap.size ∧ ∃ cur, w.heap[g]? = some (.cells cur 3 (0, 0)) := by
  rcases h.row.2 with ⟨rfl, _⟩ | ⟨g', cap, cur, rfl, hB, hg', _⟩
  · cases hg
  · obtain rfl : g' = g := by simpa [Value.ownBlock] using hg
    exact ⟨hB, lt_of_block hg', cur, hg'⟩
theorem IsS.lt {w : World} {b B : Nat} {σ : Sc} {v : Value} (h : IsS w b B σ v) : b < w.heap.size := by obtain ⟨e, n, hh, _⟩ := h.cell; exact lt_of_block hh
theorem IsS.own_ne {w : World} {b B : Nat} {σ : Sc} {v : Value} (h : IsS w b B σ v) : v.ownBlock ≠ some b := fun e => by
  obtain ⟨_, _, cur, h1⟩ := h.own_lt e
  obtain ⟨e', n, h2, _⟩ := h.cell
  rw [h1] at h2
  injection h2 with h2
  injection h2 with _ h3
  revert h3; decide
theorem Stp.below {b B : Nat} {σ : Sc} {v v' : Value} {w w' : World} (h : Stp b v w v' w') (hs : IsS w b B σ v) (hw : B ≤ w.heap.size) : Below B w w' :=
  ⟨h.os, h.tape, h.output, h.size, fun k hk => h.block k (by omega) (by have := hs.hB; omega) (fun e => by have := (hs.own_lt e).1; omega)⟩
/-- It stays where nothing of it is touched. -/
theorem IsS.same {w w' : World} {b B : Nat} {σ : Sc} {v : Value} (h : IsS w b B σ v) (hb : ∀ k, k < w.heap.size → (k = b ∨ B ≤ k) → w'.heap[k]? = w.heap[k]?) : IsS w' b B σ v := by
  obtain ⟨e, n, h1, h2, h3⟩ := h.cell
  refine ⟨h.hB, ⟨e, n, (hb b h.lt (.inl rfl)).trans h1, h2, fun hbad => ?_⟩, ?_⟩
  · obtain ⟨p, s, n', a1, a2, a3⟩ := h3 hbad
    exact ⟨p, s, n', a1, a2, (hb p (lt_of_block a3) (.inr a2)).trans a3⟩
  · obtain ⟨r1, r2⟩ := h.row
    refine ⟨r1, ?_⟩
    rcases r2 with r2 | ⟨g, cap, cur, hv, hBg, hg, k1⟩
    · exact .inl r2
    · exact .inr ⟨g, cap, cur, hv, hBg, (hb g (lt_of_block hg) (.inr hBg)).trans hg, k1⟩
theorem IsS.below {w w' : World} {b B : Nat} {σ : Sc} {v : Value} (h : IsS w b B σ v) (hb : Below w.heap.size w w') : IsS w' b B σ v := h.same fun k hk _ => hb.block k hk
theorem ErS.keep {w w' : World} {B : Nat} {bad : Bool} {e : Value} (h : ErS w B bad e) (hb : ∀ (p : Nat) (s : ByteArray) (n : Int), w.heap[p]? = some (Obj.cells #[.string s, .int .i64 n] 107 (0, 0)) → w'.heap[p]? = w.heap[p]?) : ErS w' B bad e :=
  ⟨h.1, fun hbad => by obtain ⟨p, s, n, a1, a2, a3⟩ := h.2 hbad; exact ⟨p, s, n, a1, a2, (hb p s n a3).trans a3⟩⟩
theorem IsS.err_ne {w : World} {b B : Nat} {σ : Sc} {v : Value} (h : IsS w b B σ v) {p : Nat} {s : ByteArray} {n : Int} (hp : w.heap[p]? = some (.cells #[.string s, .int .i64 n] 107 (0, 0))) : p ≠ b ∧ v.ownBlock ≠ some p := by
  refine ⟨fun e => ?_, fun e => ?_⟩
  · subst e
    obtain ⟨e', n', h2, _⟩ := h.cell
    rw [hp] at h2
    injection h2 with h2
    injection h2 with _ h3
    revert h3; decide
  · obtain ⟨_, _, cur, h1⟩ := h.own_lt e
    rw [hp] at h1
    injection h1 with h1
    injection h1 with _ h3
    revert h3; decide
theorem row_set {w : World} {b B n : Nat} {v : Value} {xs : List Value} (h : w.ownsRow B 3 1 v n xs) (hne : v.ownBlock ≠ some b) (o : Nat) (x : Value) : (w.setCell ⟨b, o, none⟩ x).ownsRow B 3 1 v n xs := by
  refine World.ownsRow.kept h (grownBy_setCell w b o x) ?_
  rcases h.2 with ⟨rfl, _⟩ | ⟨g, cap, cur, rfl, _⟩
  · exact .inl rfl
  · exact .inr hne
/-- A store to the scanner itself. -/
theorem IsS.set {w : World} {b B : Nat} {σ : Sc} {v : Value} (h : IsS w b B σ v) (o : Nat) (x : Value) (σ' : Sc) (hs : σ'.stk = σ.stk)
    (hc : ∀ e n, ErS w B σ.bad e → ∃ e' n', (#[fv σ.q, .bool σ.top, v, e, .int .i64 n] : Array Value).setIfInBounds o x = #[fv σ'.q, .bool σ'.top, v, e', .int .i64 n'] ∧ ErS w B σ'.bad e') :
    IsS (w.setCell ⟨b, o, none⟩ x) b B σ' v := by
  obtain ⟨e, n, h1, h2⟩ := h.cell
  obtain ⟨e', n', a1, a2⟩ := hc e n h2
  refine ⟨h.hB, ⟨e', n', ?_, a2.keep fun p s m hp => Below.heap_setCell _ _ _ _ (by simpa using (h.err_ne hp).1)⟩, ?_⟩
  · rw [← a1]
    exact heap_setCell_same h1 x
  · rw [hs]
    exact row_set h.row h.own_ne o x
theorem IsS.setQ {w : World} {b B : Nat} {σ : Sc} {v : Value} (h : IsS w b B σ v) (q : Sq) : IsS (w.setCell ⟨b, 0, none⟩ (fv q)) b B { σ with q := q } v :=
  h.set 0 _ _ rfl fun e n he => ⟨e, n, rfl, he⟩
theorem IsS.setTop {w : World} {b B : Nat} {σ : Sc} {v : Value} (h : IsS w b B σ v) (t : Bool) : IsS (w.setCell ⟨b, 1, none⟩ (.bool t)) b B { σ with top := t } v :=
  h.set 1 _ _ rfl fun e n he => ⟨e, n, rfl, he⟩
theorem IsS.setN {w : World} {b B : Nat} {σ : Sc} {v : Value} (h : IsS w b B σ v) (m : Int) : IsS (w.setCell ⟨b, 4, none⟩ (.int .i64 m)) b B σ v :=
  h.set 4 _ _ rfl fun e n he => ⟨e, m, rfl, he⟩
theorem IsS.setErr {w : World} {b B : Nat} {σ : Sc} {v e' : Value} (h : IsS w b B σ v) (bad : Bool) (he' : ErS w B bad e') : IsS (w.setCell ⟨b, 3, none⟩ e') b B { σ with bad := bad } v :=
  h.set 3 _ _ rfl fun e n he => ⟨e', n, rfl, he'⟩
theorem IsS.cells {w : World} {b B : Nat} {σ : Sc} {v : Value} (h : IsS w b B σ v) : ∃ e n, ErS w B σ.bad e ∧ w.cell? ⟨b, 0, none⟩ = some (fv σ.q) ∧ w.cell? ⟨b, 1, none⟩ = some (.bool σ.top) ∧ w.cell? ⟨b, 2, none⟩ = some v ∧ w.cell? ⟨b, 3, none⟩ = some e ∧ w.cell? ⟨b, 4, none⟩ = some (.int .i64 n) ∧ ∀ o, w.frozen? ⟨b, o, none⟩ = false := by
  obtain ⟨e, n, h1, h2⟩ := h.cell
  refine ⟨e, n, h2, ?_, ?_, ?_, ?_, ?_, fun o => by simp [World.frozen?, h1]⟩
  all_goals simp [World.cell?, h1]

/-- A state is stored. -/
theorem IsS.store {w : World} {b B : Nat} {σ : Sc} {v : Value} (h : IsS w b B σ v) (f : Nat) : (Go.store ⟨b, 0, none⟩ (.func (.func f) #[] #[])).run Tryz.prog w = .ok () (w.setCell ⟨b, 0, none⟩ (.func (.func f) #[] #[])) := by
  obtain ⟨e, n, _, c0, _, _, _, _, f0⟩ := h.cells
  rw [run_store Tryz.prog w _ _ _ rfl, c0]
  simp only [f0 0]
  rfl
theorem isW_any (c : Int) (w : World) : Calls Tryz.prog 97 #[.int .u8 c] w fun e w' => e = .returned (.bool (isW c)) ∧ w' = w := by
  have hcl : c ≤ 32 ∨ 32 < c := by omega
  rcases hcl with h | h
  · have e : isW c = ((c == 32 || c == 9) || c == 13 || c == 10) := by unfold isW; rfl
    rw [e]
    go_enter Tryz.func97, Tryz.ntmps97
    go_wp2
    all_goals go_ret
    all_goals refine ⟨congrArg (fun b => Ending.returned (.bool b)) ?_, rfl⟩
    all_goals first | rfl | (simp [*]; done) | (rw [Bool.eq_iff_iff]; simp [*]; try omega)
  · have e : isW c = false := by unfold isW; simp; omega
    rw [e]
    go_enter Tryz.func97, Tryz.ntmps97
    go_wp2
    all_goals go_ret
    all_goals exact ⟨rfl, rfl⟩
set_option maxRecDepth 100000 in
set_option maxHeartbeats 1000000 in
theorem error_any (b B : Nat) (σ : Sc) (v : Value) (c : Int) (ctx : ByteArray) (hx : ctx.size ≤ 1000) (w : World) (h : IsS w b B σ v) (hw : B ≤ w.heap.size) :
    Calls Tryz.prog 108 #[.pointer (some ⟨b, 0, none⟩), .int .u8 c, .string ctx] w fun e w' => e = .returned (.int .i64 11) ∧ IsS w' b B { σ with q := .er, bad := true } v ∧ Stp b v w v w' := by
  have h1 := h.setQ .er
  have s1 := Stp.set b v w 0 (fv .er)
  obtain ⟨w1, hw1⟩ : ∃ w1, w.setCell ⟨b, 0, none⟩ (.func (.func 121) #[] #[]) = w1 := ⟨_, rfl⟩
  have hw1' : w.setCell ⟨b, 0, none⟩ (fv .er) = w1 := hw1
  rw [hw1'] at h1 s1
  obtain ⟨e0, n0, _, c0, _, _, _, _, f0⟩ := h.cells
  have hst := h.store 121
  obtain ⟨e1, n1, _, _, _, _, c13, c14, f1⟩ := h1.cells
  have hsum : (18 : Int) + (ctx.size : Int) ≤ 9223372036854775807 := by omega
  clear hx f0
  have hba : ∀ o : Obj, (w1.alloc o).heap[b]? = w1.heap[b]? := fun o => Below.heap_alloc w1 o b h1.lt
  have c13a : ∀ o : Obj, (w1.alloc o).cell? ⟨b, 3, none⟩ = some e1 := fun o => (World.cell?_of_block (hba o)).trans c13
  have f13a : ∀ o : Obj, (w1.alloc o).frozen? ⟨b, 3, none⟩ = false := fun o => by unfold World.frozen?; rw [hba o]; exact f1 3
  clear f1 hba
  have hE : ∀ s : ByteArray, IsS ((w1.alloc (.cells #[.string s, .int .i64 n1] 107)).setCell ⟨b, 3, none⟩ (.iface 103 (.pointer (some ⟨w1.heap.size, 0, none⟩)))) b B { σ with q := .er, bad := true } v := fun s =>
    (h1.below ((Below.refl _ _).alloc (Nat.le_refl _) _)).setErr true ⟨fun h => (by cases h), fun _ => ⟨_, s, n1, rfl, Nat.le_trans hw s1.size, heap_alloc_new w1 _⟩⟩
  have sE : ∀ s : ByteArray, Stp b v w v ((w1.alloc (.cells #[.string s, .int .i64 n1] 107)).setCell ⟨b, 3, none⟩ (.iface 103 (.pointer (some ⟨w1.heap.size, 0, none⟩)))) := fun s => (s1.trans (Stp.alloc b v w1 _)).trans (Stp.set b v _ _ _)
  clear hw1' h h1 s1
  go_enter Tryz.func108, Tryz.ntmps108
  go_upto_region 2 with fail
  go_wp2_with fail
  all_goals go_ret
  exact ⟨rfl, hE _, sE _⟩
end Go.Proofs.YtjbffgjclnjkoaaGreatDoor
