/- A node of the reference as it lies in memory: its kind, its text, its names, its kids; what stays of it. -/
import Derived.Test.YtjbffgjclnjkoaaGreatDoorWb
import Derived.Deep.AppendLies
namespace Go.Proofs.YtjbffgjclnjkoaaGreatDoor
set_option linter.unusedVariables false
set_option linter.unusedSimpArgs false
open Go.RowKit

/-- A value of the reference. -/
inductive Nd | mk (kind : Int) (text : ByteArray) (names : List ByteArray) (kids : List Nd)
def nmv (ns : List ByteArray) : List Value := ns.map .string
/-- The parts of a node that lies in memory: its rows' blocks are of those that P takes. -/
structure NdF (w : World) (P : Nat → Prop) (k : Int) (t : ByteArray) (ns : List ByteArray) (n : Nat) (vs : List Value) (nm kd : Value) (ys : List Value) : Prop where
  vs : vs = [.int .u8 k, .string t, nm, kd]
  o1 : w.ownsRow 0 9 1 nm ns.length (nmv ns)
  p1 : ∀ g, nm.ownBlock = some g → P g
  o2 : w.ownsRow 0 25 4 kd n ys
  p2 : ∀ g, kd.ownBlock = some g → P g
mutual
def NdM (w : World) (P : Nat → Prop) : Nd → List Value → Prop
  | .mk k t ns ks, vs => ∃ nm kd ys, NdF w P k t ns ks.length vs nm kd ys ∧ KdM w P ks ys
def KdM (w : World) (P : Nat → Prop) : List Nd → List Value → Prop
  | [], ys => ys = []
  | n :: ks, ys => ∃ a b, ys = a ++ b ∧ a.length = 4 ∧ NdM w P n a ∧ KdM w P ks b
end
theorem own_keep {w w' : World} {B C : Nat} {e : TypeId} {sz n : Nat} {v : Value} {xs : List Value} (h : w.ownsRow B e sz v n xs) (hC : C ≤ B) (hb : ∀ g, v.ownBlock = some g → w'.heap[g]? = w.heap[g]?) : w'.ownsRow C e sz v n xs := by
  obtain ⟨h1, h2⟩ := h
  refine ⟨h1, ?_⟩
  rcases h2 with h2 | ⟨g, cap, cur, hv, hB, hg, r⟩
  · exact .inl h2
  · exact .inr ⟨g, cap, cur, hv, Nat.le_trans hC hB, (hb g (by rw [hv]; rfl)).trans hg, r⟩
theorem NdF.keep {w w' : World} {P Q : Nat → Prop} {k : Int} {t : ByteArray} {ns : List ByteArray} {n : Nat} {vs : List Value} {nm kd : Value} {ys : List Value} (h : NdF w P k t ns n vs nm kd ys) (hP : ∀ g, P g → Q g ∧ w'.heap[g]? = w.heap[g]?) : NdF w' Q k t ns n vs nm kd ys :=
  ⟨h.vs, own_keep h.o1 (Nat.le_refl _) fun g e => (hP g (h.p1 g e)).2, fun g e => (hP g (h.p1 g e)).1, own_keep h.o2 (Nat.le_refl _) fun g e => (hP g (h.p2 g e)).2, fun g e => (hP g (h.p2 g e)).1⟩
mutual
theorem NdM.keep {w w' : World} {P Q : Nat → Prop} (hP : ∀ g, P g → Q g ∧ w'.heap[g]? = w.heap[g]?) : ∀ (n : Nd) (vs : List Value), NdM w P n vs → NdM w' Q n vs
  | .mk k t ns ks, vs, h => by
    rw [NdM] at h ⊢
    obtain ⟨nm, kd, ys, h1, h2⟩ := h
    exact ⟨nm, kd, ys, h1.keep hP, KdM.keep hP ks ys h2⟩
theorem KdM.keep {w w' : World} {P Q : Nat → Prop} (hP : ∀ g, P g → Q g ∧ w'.heap[g]? = w.heap[g]?) : ∀ (ks : List Nd) (ys : List Value), KdM w P ks ys → KdM w' Q ks ys
  | [], ys, h => by rw [KdM] at h ⊢; exact h
  | n :: ks, ys, h => by
    rw [KdM] at h ⊢
    obtain ⟨a, b, h1, h2, h3, h4⟩ := h
    exact ⟨a, b, h1, h2, NdM.keep hP n a h3, KdM.keep hP ks b h4⟩
end
theorem KdM.len {w : World} {P : Nat → Prop} : ∀ (ks : List Nd) (ys : List Value), KdM w P ks ys → ys.length = 4 * ks.length
  | [], ys, h => by rw [KdM] at h; simp [h]
  | n :: ks, ys, h => by
    rw [KdM] at h
    obtain ⟨a, b, rfl, h2, h3, h4⟩ := h
    have := KdM.len ks b h4
    simp; omega
theorem KdM.snoc {w : World} {P : Nat → Prop} {n : Nd} {v : List Value} (hv : v.length = 4) (hn : NdM w P n v) : ∀ (ks : List Nd) (ys : List Value), KdM w P ks ys → KdM w P (ks ++ [n]) (ys ++ v)
  | [], ys, h => by
    rw [KdM] at h
    subst h
    rw [List.nil_append, List.nil_append, KdM]
    exact ⟨v, [], by simp, hv, hn, by rw [KdM]⟩
  | m :: ks, ys, h => by
    rw [KdM] at h
    obtain ⟨a, b, rfl, h2, h3, h4⟩ := h
    rw [List.cons_append, KdM]
    exact ⟨a, b ++ v, by simp, h2, h3, KdM.snoc hv hn ks b h4⟩
/-- One kid of a row of kids. -/
theorem KdM.at {w : World} {P : Nat → Prop} : ∀ (ks : List Nd) (ys : List Value), KdM w P ks ys → ∀ (i : Nat) (hi : i < ks.length), ∃ a, a.length = 4 ∧ NdM w P ks[i] a ∧ ∀ j, j < 4 → ys[4 * i + j]? = a[j]?
  | [], ys, _, i, hi => absurd hi (by simp)
  | n :: ks, ys, h, i, hi => by
    rw [KdM] at h
    obtain ⟨a, b, rfl, h2, h3, h4⟩ := h
    cases i with
    | zero => exact ⟨a, h2, h3, fun j hj => by rw [Nat.mul_zero, Nat.zero_add, List.getElem?_append_left (by omega)]⟩
    | succ i =>
      obtain ⟨c, c1, c2, c3⟩ := KdM.at ks b h4 i (by simpa using hi)
      refine ⟨c, c1, by simpa using c2, fun j hj => ?_⟩
      rw [← c3 j hj, List.getElem?_append_right (by omega)]
      congr 1
      omega
/-- What the kids of a node that is being filled lie in: neither of its own rows. -/
def PC (B : Nat) (nm kd : Value) (w : World) (g : Nat) : Prop := B ≤ g ∧ g < w.heap.size ∧ kd.ownBlock ≠ some g ∧ nm.ownBlock ≠ some g
/-- What a node that is being filled holds so far. -/
structure Cont (w : World) (B : Nat) (nm kd : Value) (xs ys : List Value) (ns : List ByteArray) (ks : List Nd) : Prop where
  xs : xs = nmv ns
  ks : KdM w (PC B nm kd w) ks ys
theorem Cont.nil (w : World) (B : Nat) : Cont w B (.slice none 0 0) (.slice none 0 0) [] [] [] [] := ⟨rfl, by rw [KdM]⟩
theorem Cont.keep {w w' : World} {B : Nat} {nm kd : Value} {xs ys : List Value} {ns : List ByteArray} {ks : List Nd} (h : Cont w B nm kd xs ys ns ks) (hs : w.heap.size ≤ w'.heap.size)
    (hb : ∀ g, B ≤ g → g < w.heap.size → kd.ownBlock ≠ some g → nm.ownBlock ≠ some g → w'.heap[g]? = w.heap[g]?) : Cont w' B nm kd xs ys ns ks :=
  ⟨h.xs, KdM.keep (fun g ⟨h1, h2, h3, h4⟩ => ⟨⟨h1, by omega, h3, h4⟩, hb g h1 h2 h3 h4⟩) ks ys h.ks⟩
theorem Cont.mv {w w' : World} {B b : Nat} {nm kd : Value} {xs ys : List Value} {ns : List ByteArray} {ks : List Nd} (h : Cont w B nm kd xs ys ns ks) (hM : Mv b w w') (hb : b < B) : Cont w' B nm kd xs ys ns ks :=
  h.keep hM.size fun g h1 h2 _ _ => hM.block g h2 (by simp; omega)
theorem Cont.alloc {w : World} {B : Nat} {nm kd : Value} {xs ys : List Value} {ns : List ByteArray} {ks : List Nd} (h : Cont w B nm kd xs ys ns ks) (o : Obj) : Cont (w.alloc o) B nm kd xs ys ns ks :=
  h.keep (by simp) fun g _ h2 _ _ => Below.heap_alloc _ _ _ h2
/-- A kid more. -/
theorem Cont.addK {w w' : World} {B lo : Nat} {nm kd : Value} {xs ys : List Value} {ns : List ByteArray} {ks : List Nd} (h : Cont w B nm kd xs ys ns ks) (hs : w.heap.size ≤ w'.heap.size) {g : Nat} {m cap : Nat} (hat : kd.ownBlock = some g ∨ w.heap.size ≤ g)
    (hk : ∀ g', B ≤ g' → g' < w.heap.size → g' ≠ g → kd.ownBlock ≠ some g' → w'.heap[g']? = w.heap[g']?) {n : Nd} {v : List Value} (hv : v.length = 4) (hlo : B ≤ lo) (hl1 : ∀ g, kd.ownBlock = some g → g < lo) (hl2 : ∀ g, nm.ownBlock = some g → g < lo) (hn : NdM w (fun g => lo ≤ g ∧ g < w.heap.size) n v) :
    Cont w' B nm (.slice (some ⟨g, 0, none⟩) m cap) xs (ys ++ v) ns (ks ++ [n]) := by
  have own : ∀ g', (Value.slice (some ⟨g, 0, none⟩) m cap).ownBlock = some g' → g' = g := fun g' e => by simpa [Value.ownBlock] using e.symm
  refine ⟨h.xs, KdM.snoc hv (NdM.keep (fun g' ⟨h1, h2⟩ => ?_) n v hn) ks ys (KdM.keep (fun g' ⟨h1, h2, h3, h4⟩ => ?_) ks ys h.ks)⟩
  · have hg : g' ≠ g := by
      intro e
      subst e
      rcases hat with e | e
      · have := hl1 _ e; omega
      · omega
    exact ⟨⟨by omega, by omega, fun e => hg (own _ e), fun e => by have := hl2 _ e; omega⟩, hk g' (by omega) h2 hg (fun e => by have := hl1 _ e; omega)⟩
  · have hg : g' ≠ g := by
      intro e
      subst e
      rcases hat with e | e
      · exact h3 e
      · omega
    exact ⟨⟨h1, by omega, fun e => hg (own _ e), h4⟩, hk g' h1 h2 hg h3⟩
/-- A name more. -/
theorem Cont.addN {w w' : World} {B : Nat} {nm kd : Value} {xs ys : List Value} {ns : List ByteArray} {ks : List Nd} (h : Cont w B nm kd xs ys ns ks) (hs : w.heap.size ≤ w'.heap.size) {g : Nat} {m cap : Nat} (hat : nm.ownBlock = some g ∨ w.heap.size ≤ g)
    (hk : ∀ g', B ≤ g' → g' < w.heap.size → g' ≠ g → nm.ownBlock ≠ some g' → w'.heap[g']? = w.heap[g']?) (t : ByteArray) :
    Cont w' B (.slice (some ⟨g, 0, none⟩) m cap) kd (xs ++ [.string t]) ys (ns ++ [t]) ks := by
  have own : ∀ g', (Value.slice (some ⟨g, 0, none⟩) m cap).ownBlock = some g' → g' = g := fun g' e => by simpa [Value.ownBlock] using e.symm
  refine ⟨by rw [h.xs]; simp [nmv], KdM.keep (fun g' ⟨h1, h2, h3, h4⟩ => ?_) ks ys h.ks⟩
  have hg : g' ≠ g := by
    intro e
    subst e
    rcases hat with e | e
    · exact h4 e
    · omega
  exact ⟨⟨h1, by omega, h3, fun e => hg (own _ e)⟩, hk g' h1 h2 hg h4⟩
/-- The node is filled. -/
theorem Cont.done {w : World} {B : Nat} {nm kd : Value} {m1 m2 : Nat} {xs ys : List Value} {ns : List ByteArray} {ks : List Nd} (h : Cont w B nm kd xs ys ns ks) (o1 : w.ownsRow B 9 1 nm m1 xs) (o2 : w.ownsRow B 25 4 kd m2 ys) (k : Int) (t : ByteArray) :
    NdM w (fun g => B ≤ g ∧ g < w.heap.size) (.mk k t ns ks) [.int .u8 k, .string t, nm, kd] := by
  have hx := h.xs
  subst hx
  have e1 : m1 = ns.length := by have := o1.1; simp [nmv] at this; omega
  have e2 : m2 = ks.length := by have h1 := o2.1; have h2 := KdM.len ks ys h.ks; omega
  subst e1 e2
  rw [NdM]
  exact ⟨nm, kd, ys, ⟨rfl, own_keep o1 (Nat.zero_le _) fun _ _ => rfl, fun g e => o1.lt g e, own_keep o2 (Nat.zero_le _) fun _ _ => rfl, fun g e => o2.lt g e⟩, KdM.keep (fun g ⟨h1, h2, _, _⟩ => ⟨⟨h1, h2⟩, rfl⟩) ks ys h.ks⟩
theorem set4 (ys : List Value) (m : Nat) (h : ys.length = m * 4) (z0 z1 z2 z3 a b c d : Value) : (((((ys ++ [z0, z1, z2, z3]).set (m * 4) a).set (m * 4 + 1) b).set (m * 4 + 2) c).set (m * 4 + 3) d) = ys ++ [a, b, c, d] := by
  rw [← h]
  simp
end Go.Proofs.YtjbffgjclnjkoaaGreatDoor
