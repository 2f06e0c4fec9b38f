/- A node that is being filled: its block, the rows behind it, and what stays. -/
import Derived.Test.YtjbffgjclnjkoaaGreatDoorWk
import Derived.Test.YtjbffgjclnjkoaaGreatDoorWo
import Derived.OwnWalk
import Derived.Laws.OwnMore
import Derived.OrdersHeld
namespace Go.Proofs.YtjbffgjclnjkoaaGreatDoor
set_option linter.unusedVariables false
set_option linter.unusedSimpArgs false
open Go.RowKit

theorem own_ne {w : World} {B s1 s2 n1 n2 : Nat} {e1 e2 : TypeId} {v1 v2 : Value} {x1 x2 : List Value} (h1 : w.ownsRow B e1 s1 v1 n1 x1) (h2 : w.ownsRow B e2 s2 v2 n2 x2) (he : e1 ≠ e2) :
    v1.ownBlock = none ∨ v1.ownBlock ≠ v2.ownBlock := by
  rcases h1.2 with ⟨rfl, _⟩ | ⟨g, cap, cur, rfl, _, hg, _⟩
  · exact .inl rfl
  · refine .inr fun e => ?_
    rcases h2.2 with ⟨rfl, _⟩ | ⟨g2, _, _, rfl, _, hg2, _⟩
    · cases e
    · obtain rfl : g = g2 := by simpa [Value.ownBlock] using e
      rw [hg] at hg2
      injection hg2 with a
      injection a with _ b
      exact he b
theorem strNode : (9 : TypeId) ≠ 25 := by decide

/-- 'w' is as w0 below B, but for the reader's block and the node's. -/
structure FrB (B b n : Nat) (w w' : World) : Prop where
  os : w'.os = w.os
  tape : w'.tape = w.tape
  output : w'.output = w.output
  size : w.heap.size ≤ w'.heap.size
  block : ∀ g, g < B → g ≠ b → g ≠ n → w'.heap[g]? = w.heap[g]?
theorem FrB.refl (B b n : Nat) (w : World) : FrB B b n w w := ⟨rfl, rfl, rfl, Nat.le_refl _, fun _ _ _ _ => rfl⟩
theorem FrB.grown {B b n : Nat} {u v w : World} (h : FrB B b n u v) (row : Option Nat) (hg : v.grownBy w row) (hr : ∀ k, row = some k → k = b ∨ k = n ∨ B ≤ k) (hB : B ≤ v.heap.size) : FrB B b n u w :=
  ⟨hg.os.trans h.os, hg.tape.trans h.tape, hg.output.trans h.output, Nat.le_trans h.size hg.size, fun g hgB hb hn => (hg.block g (by omega) (fun e => by have := hr g e.symm; omega)).trans (h.block g hgB hb hn)⟩
theorem FrB.mv {B b n : Nat} {u v w : World} (h : FrB B b n u v) (hm : Mv b v w) (hB : B ≤ v.heap.size) : FrB B b n u w := h.grown (some b) hm (fun k e => .inl (by injection e with e; exact e.symm)) hB

/-- A node and its rows; 'nm0', 'kd0' are what its fields hold, 'nm', 'kd' what has been made. -/
structure KB (b n B : Nat) (s : ByteArray) (tw lo : Bool) (σ : St) (w0 : World) (k : Int) (t : ByteArray) (nm0 kd0 nm kd : Value) (m1 m2 : Nat) (xs ys : List Value) (w : World) : Prop where
  r : IsR w b s tw lo σ
  node : NodeB w n k t nm0 kd0
  o1 : w.ownsRow B 9 1 nm m1 xs
  o2 : w.ownsRow B 25 4 kd m2 ys
  fr : FrB B b n w0 w
  hb : b < B
  hn : n < B
  ne : n ≠ b
  hB : B ≤ w.heap.size
namespace KB
variable {b n B : Nat} {s : ByteArray} {tw lo : Bool} {σ : St} {w0 : World} {k : Int} {t : ByteArray} {nm0 kd0 nm kd : Value} {m1 m2 : Nat} {xs ys : List Value} {w : World}
theorem row_ge {e : TypeId} {sz : Nat} {v : Value} {m : Nat} {zs : List Value} (h : w.ownsRow B e sz v m zs) : ∀ g, v.ownBlock = some g → B ≤ g := fun g hg => (h.lt g hg).1
theorem grown (h : KB b n B s tw lo σ w0 k t nm0 kd0 nm kd m1 m2 xs ys w) {w' : World} {row : Option Nat} (hg : w.grownBy w' row) (hr : ∀ g, row = some g → B ≤ g) :
    IsR w' b s tw lo σ ∧ NodeB w' n k t nm0 kd0 ∧ FrB B b n w0 w' ∧ B ≤ w'.heap.size :=
  ⟨h.r.other (hg.block b (by have := h.hB; have := h.hb; omega) fun e => by have := hr b e.symm; have := h.hb; omega),
    (by obtain ⟨T, hT⟩ := h.node; exact ⟨T, (hg.block n (by have := h.hB; have := h.hn; omega) fun e => by have := hr n e.symm; have := h.hn; omega).trans hT⟩),
    h.fr.grown row hg (fun g e => .inr (.inr (hr g e))) h.hB, Nat.le_trans h.hB hg.size⟩
theorem mv (h : KB b n B s tw lo σ w0 k t nm0 kd0 nm kd m1 m2 xs ys w) {w' : World} {σ' : St} (hR : IsR w' b s tw lo σ') (hM : Mv b w w') : KB b n B s tw lo σ' w0 k t nm0 kd0 nm kd m1 m2 xs ys w' := by
  have hne : ∀ {e : TypeId} {sz : Nat} {v : Value} {m : Nat} {zs : List Value}, w.ownsRow B e sz v m zs → v.ownBlock = none ∨ v.ownBlock ≠ some b := fun {e sz v m zs} ho => by
    cases hv : v.ownBlock
    · exact .inl rfl
    · rename_i g
      exact .inr fun e => by injection e with e; have := (ho.lt g hv).1; have := h.hb; omega
  exact ⟨hR, h.node.mv hM h.ne, h.o1.kept hM (hne h.o1), h.o2.kept hM (hne h.o2), h.fr.mv hM h.hB, h.hb, h.hn, h.ne, Nat.le_trans h.hB hM.size⟩
theorem alloc (h : KB b n B s tw lo σ w0 k t nm0 kd0 nm kd m1 m2 xs ys w) (o : Obj) : KB b n B s tw lo σ w0 k t nm0 kd0 nm kd m1 m2 xs ys (w.alloc o) := by
  obtain ⟨a1, a2, a3, a4⟩ := h.grown (World.grownBy_alloc w o none) (fun g e => by cases e)
  exact ⟨a1, a2, h.o1.alloc o, h.o2.alloc o, a3, h.hb, h.hn, h.ne, a4⟩
theorem drew (h : KB b n B s tw lo σ w0 k t nm0 kd0 nm kd m1 m2 xs ys w) : KB b n B s tw lo σ w0 k t nm0 kd0 nm kd m1 m2 xs ys w.drew :=
  ⟨h.r, h.node, h.o1, h.o2, ⟨h.fr.os, h.fr.tape, h.fr.output, h.fr.size, h.fr.block⟩, h.hb, h.hn, h.ne, h.hB⟩
theorem appK (h : KB b n B s tw lo σ w0 k t nm0 kd0 nm kd m1 m2 xs ys w) {w' : World} {kd' : Value} {m2' : Nat} {ys' : List Value} (ho : w'.ownsRow B 25 4 kd' m2' ys') (hg : w.grownBy w' kd.ownBlock) :
    KB b n B s tw lo σ w0 k t nm0 kd0 nm kd' m1 m2' xs ys' w' := by
  obtain ⟨a1, a2, a3, a4⟩ := h.grown hg (row_ge h.o2)
  exact ⟨a1, a2, h.o1.kept hg (own_ne h.o1 h.o2 strNode), ho, a3, h.hb, h.hn, h.ne, a4⟩
theorem appN (h : KB b n B s tw lo σ w0 k t nm0 kd0 nm kd m1 m2 xs ys w) {w' : World} {nm' : Value} {m1' : Nat} {xs' : List Value} (ho : w'.ownsRow B 9 1 nm' m1' xs') (hg : w.grownBy w' nm.ownBlock) :
    KB b n B s tw lo σ w0 k t nm0 kd0 nm' kd m1' m2 xs' ys w' := by
  obtain ⟨a1, a2, a3, a4⟩ := h.grown hg (row_ge h.o1)
  exact ⟨a1, a2, ho, h.o2.kept hg (own_ne h.o2 h.o1 strNode.symm), a3, h.hb, h.hn, h.ne, a4⟩
theorem row {g cap : Nat} (h : KB b n B s tw lo σ w0 k t nm0 kd0 nm (.slice (some ⟨g, 0, none⟩) m2 cap) m1 m2 xs ys w) (j : Nat) (u : Value) :
    KB b n B s tw lo σ w0 k t nm0 kd0 nm (.slice (some ⟨g, 0, none⟩) m2 cap) m1 m2 xs (ys.set j u) (w.setCell ⟨g, j, none⟩ u) :=
  h.appK (World.ownsRow.stored h.o2 j u).1 (World.ownsRow.stored h.o2 j u).2
theorem node_set (h : KB b n B s tw lo σ w0 k t nm0 kd0 nm kd m1 m2 xs ys w) (j : Nat) (u : Value) {k' : Int} {t' : ByteArray} {nm' kd' : Value} (hN : NodeB (w.setCell ⟨n, j, none⟩ u) n k' t' nm' kd') :
    KB b n B s tw lo σ w0 k' t' nm' kd' nm kd m1 m2 xs ys (w.setCell ⟨n, j, none⟩ u) := by
  have hg : w.grownBy (w.setCell ⟨n, j, none⟩ u) (some n) := grownBy_setCell _ _ _ _
  have hne : ∀ {e : TypeId} {sz : Nat} {v : Value} {m : Nat} {zs : List Value}, w.ownsRow B e sz v m zs → v.ownBlock = none ∨ v.ownBlock ≠ some n := fun {e sz v m zs} ho => by
    cases hv : v.ownBlock
    · exact .inl rfl
    · rename_i g
      exact .inr fun e => by injection e with e; have := (ho.lt g hv).1; have := h.hn; omega
  exact ⟨h.r.other (Below.heap_setCell _ _ _ _ (by simpa using fun e => h.ne e.symm)), hN, h.o1.kept hg (hne h.o1), h.o2.kept hg (hne h.o2), h.fr.grown (some n) hg (fun g e => .inr (.inl (by injection e with e; exact e.symm))) h.hB, h.hb, h.hn, h.ne, Nat.le_trans h.hB hg.size⟩
theorem kids (h : KB b n B s tw lo σ w0 k t nm0 kd0 nm kd m1 m2 xs ys w) (u : Value) : KB b n B s tw lo σ w0 k t nm0 u nm kd m1 m2 xs ys (w.setCell ⟨n, 3, none⟩ u) :=
  h.node_set 3 u (by obtain ⟨T, hT⟩ := h.node; exact ⟨T, by rw [heap_setCell hT]; rfl⟩)
theorem names (h : KB b n B s tw lo σ w0 k t nm0 kd0 nm kd m1 m2 xs ys w) (u : Value) : KB b n B s tw lo σ w0 k t u kd0 nm kd m1 m2 xs ys (w.setCell ⟨n, 2, none⟩ u) :=
  h.node_set 2 u (by obtain ⟨T, hT⟩ := h.node; exact ⟨T, by rw [heap_setCell hT]; rfl⟩)
end KB
/-- A node that holds its own rows, of at most M entries each. -/
structure RB (Nq : Value → Prop) (b n B M : Nat) (s : ByteArray) (tw lo : Bool) (σ : St) (w0 w : World) : Prop where
  out : ∃ k t nm kd m1 m2 xs ys, KB b n B s tw lo σ w0 k t nm kd nm kd m1 m2 xs ys w ∧ m1 ≤ M ∧ m2 ≤ M ∧ ∀ x ∈ xs, Nq x
theorem RB.mv {Nq : Value → Prop} {b n B M M' : Nat} {s : ByteArray} {tw lo : Bool} {σ σ' : St} {w0 w w' : World} (h : RB Nq b n B M s tw lo σ w0 w) (hR : IsR w' b s tw lo σ') (hM : Mv b w w') (hm : M ≤ M') : RB Nq b n B M' s tw lo σ' w0 w' := by
  obtain ⟨k, t, nm, kd, m1, m2, xs, ys, h, l1, l2, l3⟩ := h
  exact ⟨k, t, nm, kd, m1, m2, xs, ys, h.mv hR hM, by omega, by omega, l3⟩
theorem RB.r {Nq : Value → Prop} {b n B M : Nat} {s : ByteArray} {tw lo : Bool} {σ : St} {w0 w : World} (h : RB Nq b n B M s tw lo σ w0 w) : IsR w b s tw lo σ := by
  obtain ⟨k, t, nm, kd, m1, m2, xs, ys, h, l1, l2, l3⟩ := h; exact h.r
theorem RB.alloc {Nq : Value → Prop} {b n B M : Nat} {s : ByteArray} {tw lo : Bool} {σ : St} {w0 w : World} (h : RB Nq b n B M s tw lo σ w0 w) (o : Obj) : RB Nq b n B M s tw lo σ w0 (w.alloc o) := by
  obtain ⟨k, t, nm, kd, m1, m2, xs, ys, h, l1, l2, l3⟩ := h
  exact ⟨k, t, nm, kd, m1, m2, xs, ys, h.alloc o, l1, l2, l3⟩
end Go.Proofs.YtjbffgjclnjkoaaGreatDoor
