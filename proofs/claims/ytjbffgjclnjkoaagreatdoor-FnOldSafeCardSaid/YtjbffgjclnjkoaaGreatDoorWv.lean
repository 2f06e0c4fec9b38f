/- The reader of the reference at any text: value. Lines by program (mkwq.py). -/
import Derived.Test.YtjbffgjclnjkoaaGreatDoorWq
import Derived.Deep.DeepCutAuto
namespace Go.Proofs.YtjbffgjclnjkoaaGreatDoor
set_option linter.unusedVariables false
set_option linter.unusedSimpArgs false
open Go.RowKit

set_option maxRecDepth 100000 in
set_option maxHeartbeats 4000000 in
theorem value_wk (Nq : Value → Prop) (b : Nat) (s : ByteArray) (tw lo : Bool) (hs : s.size ≤ 2147483647)
    (hQ : ∀ σ σ', St.quoted s lo σ = (true, σ') → Nq (.string (s.extract σ.at_ (σ'.at_ + 1)))) (hag : tw = false → ∀ B, AgK Nq b B s lo) :
    ∀ (m : Nat) (σ : St), s.size - σ.at_ ≤ m → σ.at_ ≤ s.size → ValK b s tw lo σ := by
  have hsm : s.size ≤ maxLen := by unfold maxLen; omega
  intro m
  induction m using Nat.strongRecOn with
  | _ m ih =>
  intro σ hm ha w h
  have hlt0 := h.lt
  go_enter Tryz.func14, Tryz.ntmps14
  go_upto_if 15 with (first
    | (go_at_call 15; refine (space_wk b s tw lo σ _ (h.other (Below.heap_alloc _ _ _ hlt0)) hsm ha).mono ?_; rintro e w1 ⟨σ1, rfl, hR1, hM1, l1, l1'⟩)
    | (go_at_call 29; refine (see_wk b s tw lo σ1 _ hR1 hsm l1').mono ?_; rintro e w2 ⟨X, rfl, hR2, hM2, hX⟩))
  have hM12 := hM1.trans hM2
  have hsz2 := hM12.size
  simp at hsz2
  have hMA : Mv b w (w2.alloc (.cells #[.int .u8 X, .string ⟨#[]⟩, .slice none 0 0, .slice none 0 0] 25)) := (((Mv.refl b w).alloc _).trans hM12).alloc _
  have hRA : IsR (w2.alloc (.cells #[.int .u8 X, .string ⟨#[]⟩, .slice none 0 0, .slice none 0 0] 25)) b s tw lo σ1 := hR2.other (Below.heap_alloc _ _ _ hR2.lt)
  have hnA : NodeB (w2.alloc (.cells #[.int .u8 X, .string ⟨#[]⟩, .slice none 0 0, .slice none 0 0] 25)) w2.heap.size X ⟨#[]⟩ (.slice none 0 0) (.slice none 0 0) := ⟨_, heap_alloc_new _ _⟩
  have hrA : NodeB (w2.alloc (.cells #[.int .u8 X, .string ⟨#[]⟩, .slice none 0 0, .slice none 0 0] 25)) w.heap.size 0 ⟨#[]⟩ (.slice none 0 0) (.slice none 0 0) :=
    ⟨_, (Below.heap_alloc _ _ _ (by omega)).trans ((hM12.block w.heap.size (by simp) (by simp; omega)).trans (heap_alloc_new w _))⟩
  have hpb : w2.heap.size ≠ b := by have := hR2.lt; omega
  have hpw : w.heap.size < w2.heap.size := by omega
  clear hM12 hsz2 hR1 hM1 hR2 hM2 h
  revert hMA hRA hnA hrA hpb hpw
  generalize w2.alloc (.cells #[.int .u8 X, .string ⟨#[]⟩, .slice none 0 0, .slice none 0 0] 25) = wA
  generalize w2.heap.size = p
  intro hMA hRA hnA hrA hpb hpw
  cases hx : (X == 123)
  case true =>
    have hlt := hX (by have := of_decide_eq_true hx; omega)
    have hts : σ1.at_ + 1 ≤ s.size := by omega
    obtain ⟨c0, c1, c2, c3, c4, c5, f1, f4, f5⟩ := hRA.cells
    have hRB := hRA.setAt (σ1.at_ + 1)
    have hMB := hMA.setCell 1 (.int .i64 ((σ1.at_ + 1 : Nat) : Int))
    have hnB : NodeB (wA.setCell ⟨b, 1, none⟩ (.int .i64 ((σ1.at_ + 1 : Nat) : Int))) p X ⟨#[]⟩ (.slice none 0 0) (.slice none 0 0) := hnA.other (Below.heap_setCell _ _ _ _ (by simpa using hpb))
    have hrB : NodeB (wA.setCell ⟨b, 1, none⟩ (.int .i64 ((σ1.at_ + 1 : Nat) : Int))) w.heap.size 0 ⟨#[]⟩ (.slice none 0 0) (.slice none 0 0) := hrA.other (Below.heap_setCell _ _ _ _ (by simp; omega))
    have hcall := fun wB => object_wk Nq b p wB.heap.size s tw lo { σ1 with at_ := σ1.at_ + 1 } wB wB
    have hbl := hRB.lt
    have hpl := hnB.lt
    have hRBB : ∀ wB : World, wB = wA.setCell ⟨b, 1, none⟩ (.int .i64 ((σ1.at_ + 1 : Nat) : Int)) → RB Nq b p wB.heap.size (σ1.at_ + 1) s tw lo { σ1 with at_ := σ1.at_ + 1 } wB wB := fun wB e => by
      subst e
      exact ⟨⟨X, ⟨#[]⟩, .slice none 0 0, .slice none 0 0, 0, 0, [], [], ⟨hRB, hnB, World.ownsRow_nil _ _ _ _, World.ownsRow_nil _ _ _ _, FrB.refl _ _ _ _, hbl, hpl, hpb, Nat.le_refl _⟩, Nat.zero_le _, Nat.zero_le _, fun x hx => by cases hx⟩⟩
    have ih' : ∀ σ' : St, σ1.at_ + 1 ≤ σ'.at_ → σ'.at_ ≤ s.size → ValK b s tw lo σ' := fun σ' h1 h2 => ih (s.size - σ'.at_) (by omega) σ' (Nat.le_refl _) h2
    clear hX
    go_upto_region 7 with (go_at_call 30; refine (hcall _ (hRBB _ rfl) hs hts ih' hQ hag).mono ?_; rintro e w3 ⟨r, σ2, M, rfl, hB3, l2, l2'⟩)
    clear hx hcall hRBB ih' c0 c1 c2 c3 c4 c5 f1 f4 f5
    have l2 : σ1.at_ + 1 ≤ σ2.at_ := l2
    have hz0 : s.size = 0 → σ2.fault ≠ 0 := fun h => by omega
    obtain ⟨k3, t3, nm, kd, nl, kl, xs, ys, hK, _, _, _⟩ := hB3
    obtain ⟨na, nc, rfl⟩ := own_slice hK.o1
    obtain ⟨ka, kc, rfl⟩ := own_slice hK.o2
    have hR3 := hK.r
    have hF : Fr2 b p (wA.setCell ⟨b, 1, none⟩ (.int .i64 ((σ1.at_ + 1 : Nat) : Int))) w3 := ⟨hK.fr.os, hK.fr.tape, hK.fr.output, hK.fr.size, hK.fr.block⟩
    have hM3 : Mv b w w3 := hF.mv hMB (by omega)
    have hres : NodeB w3 w.heap.size 0 ⟨#[]⟩ (.slice none 0 0) (.slice none 0 0) := hrB.other (hF.block _ hrB.lt (by omega) (by omega))
    obtain ⟨m0, m1, m2, m3, fm0, fm1, fm2, fm3⟩ := hK.node.cells
    obtain ⟨p0, p1, p2, p3, fp0, fp1, fp2, fp3⟩ := hres.cells
    clear hRA hnA hMA hrA hRB hMB hnB hrB
    go_wp2_with fail
    have hres4 := hres.putNode k3 t3 (.slice na nl nc) (.slice ka kl kc)
    have hR4 := IsR.newCells hR3 (n := w.heap.size) (by omega) (.int .u8 k3) (.string t3) (.slice na nl nc) (.slice ka kl kc)
    have hM4 := Mv.newCells hM3 (.int .u8 k3) (.string t3) (.slice na nl nc) (.slice ka kl kc)
    revert hres4 hR4 hM4
    generalize ((((w3.setCell ⟨w.heap.size, 0, none⟩ (.int .u8 k3)).setCell ⟨w.heap.size, 1, none⟩ (.string t3)).setCell ⟨w.heap.size, 2, none⟩ (.slice na nl nc)).setCell ⟨w.heap.size, 3, none⟩ (.slice ka kl kc)) = w4
    intro hres4 hR4 hM4
    obtain ⟨q0, q1, q2, q3, _, _, _, _⟩ := hres4.cells
    refine bodyPost_ret (v := .tuple #[.agg #[.int .u8 k3, .string t3, .slice na nl nc, .slice ka kl kc], .bool r]) (by simp [results, Tryz.results14, go_sem, q0, q1, q2, q3]; try rfl) rfl ?_
    exact ⟨k3, t3, na, nl, nc, ka, kl, kc, r, σ2, rfl, hR4, hM4, by omega, l2', hz0⟩
  clear hx
  cases hx : (X == 91)
  case true =>
    have hlt := hX (by have := of_decide_eq_true hx; omega)
    have hts : σ1.at_ + 1 ≤ s.size := by omega
    obtain ⟨c0, c1, c2, c3, c4, c5, f1, f4, f5⟩ := hRA.cells
    have hRB := hRA.setAt (σ1.at_ + 1)
    have hMB := hMA.setCell 1 (.int .i64 ((σ1.at_ + 1 : Nat) : Int))
    have hnB : NodeB (wA.setCell ⟨b, 1, none⟩ (.int .i64 ((σ1.at_ + 1 : Nat) : Int))) p X ⟨#[]⟩ (.slice none 0 0) (.slice none 0 0) := hnA.other (Below.heap_setCell _ _ _ _ (by simpa using hpb))
    have hrB : NodeB (wA.setCell ⟨b, 1, none⟩ (.int .i64 ((σ1.at_ + 1 : Nat) : Int))) w.heap.size 0 ⟨#[]⟩ (.slice none 0 0) (.slice none 0 0) := hrA.other (Below.heap_setCell _ _ _ _ (by simp; omega))
    have hcall := fun wB => array_wk Nq b p wB.heap.size s tw lo { σ1 with at_ := σ1.at_ + 1 } wB wB
    have hbl := hRB.lt
    have hpl := hnB.lt
    have hRBB : ∀ wB : World, wB = wA.setCell ⟨b, 1, none⟩ (.int .i64 ((σ1.at_ + 1 : Nat) : Int)) → RB Nq b p wB.heap.size (σ1.at_ + 1) s tw lo { σ1 with at_ := σ1.at_ + 1 } wB wB := fun wB e => by
      subst e
      exact ⟨⟨X, ⟨#[]⟩, .slice none 0 0, .slice none 0 0, 0, 0, [], [], ⟨hRB, hnB, World.ownsRow_nil _ _ _ _, World.ownsRow_nil _ _ _ _, FrB.refl _ _ _ _, hbl, hpl, hpb, Nat.le_refl _⟩, Nat.zero_le _, Nat.zero_le _, fun x hx => by cases hx⟩⟩
    have ih' : ∀ σ' : St, σ1.at_ + 1 ≤ σ'.at_ → σ'.at_ ≤ s.size → ValK b s tw lo σ' := fun σ' h1 h2 => ih (s.size - σ'.at_) (by omega) σ' (Nat.le_refl _) h2
    clear hX
    go_upto_region 11 with (go_at_call 31; refine (hcall _ (hRBB _ rfl) hs hts ih').mono ?_; rintro e w3 ⟨r, σ2, M, rfl, hB3, l2, l2'⟩)
    clear hx hcall hRBB ih' c0 c1 c2 c3 c4 c5 f1 f4 f5
    have l2 : σ1.at_ + 1 ≤ σ2.at_ := l2
    have hz0 : s.size = 0 → σ2.fault ≠ 0 := fun h => by omega
    obtain ⟨k3, t3, nm, kd, nl, kl, xs, ys, hK, _, _, _⟩ := hB3
    obtain ⟨na, nc, rfl⟩ := own_slice hK.o1
    obtain ⟨ka, kc, rfl⟩ := own_slice hK.o2
    have hR3 := hK.r
    have hF : Fr2 b p (wA.setCell ⟨b, 1, none⟩ (.int .i64 ((σ1.at_ + 1 : Nat) : Int))) w3 := ⟨hK.fr.os, hK.fr.tape, hK.fr.output, hK.fr.size, hK.fr.block⟩
    have hM3 : Mv b w w3 := hF.mv hMB (by omega)
    have hres : NodeB w3 w.heap.size 0 ⟨#[]⟩ (.slice none 0 0) (.slice none 0 0) := hrB.other (hF.block _ hrB.lt (by omega) (by omega))
    obtain ⟨m0, m1, m2, m3, fm0, fm1, fm2, fm3⟩ := hK.node.cells
    obtain ⟨p0, p1, p2, p3, fp0, fp1, fp2, fp3⟩ := hres.cells
    clear hRA hnA hMA hrA hRB hMB hnB hrB
    go_wp2_with fail
    have hres4 := hres.putNode k3 t3 (.slice na nl nc) (.slice ka kl kc)
    have hR4 := IsR.newCells hR3 (n := w.heap.size) (by omega) (.int .u8 k3) (.string t3) (.slice na nl nc) (.slice ka kl kc)
    have hM4 := Mv.newCells hM3 (.int .u8 k3) (.string t3) (.slice na nl nc) (.slice ka kl kc)
    revert hres4 hR4 hM4
    generalize ((((w3.setCell ⟨w.heap.size, 0, none⟩ (.int .u8 k3)).setCell ⟨w.heap.size, 1, none⟩ (.string t3)).setCell ⟨w.heap.size, 2, none⟩ (.slice na nl nc)).setCell ⟨w.heap.size, 3, none⟩ (.slice ka kl kc)) = w4
    intro hres4 hR4 hM4
    obtain ⟨q0, q1, q2, q3, _, _, _, _⟩ := hres4.cells
    refine bodyPost_ret (v := .tuple #[.agg #[.int .u8 k3, .string t3, .slice na nl nc, .slice ka kl kc], .bool r]) (by simp [results, Tryz.results14, go_sem, q0, q1, q2, q3]; try rfl) rfl ?_
    exact ⟨k3, t3, na, nl, nc, ka, kl, kc, r, σ2, rfl, hR4, hM4, by omega, l2', hz0⟩
  clear hX
  go_upto_region 13 with (go_at_call 32; refine (scalar_wk b p s tw lo σ1 X ⟨#[]⟩ (.slice none 0 0) (.slice none 0 0) _ hRA hnA hpb hsm l1').mono ?_; rintro e w3 ⟨r, σ2, rfl, hR3, ⟨k3, t3, hn3⟩, hF, l2, l2', hz0⟩)
  obtain ⟨na, nl, nc, hna⟩ : ∃ na nl nc, Value.slice none 0 0 = .slice na nl nc := ⟨_, _, _, rfl⟩
  obtain ⟨ka, kl, kc, hka⟩ : ∃ ka kl kc, Value.slice none 0 0 = .slice ka kl kc := ⟨_, _, _, rfl⟩
  have hM3 : Mv b w w3 := hF.mv hMA (by omega)
  have hres : NodeB w3 w.heap.size 0 ⟨#[]⟩ (.slice none 0 0) (.slice none 0 0) := hrA.other (hF.block _ hrA.lt (by omega) (by omega))
  have hn4 : NodeB w3 p k3 t3 (.slice na nl nc) (.slice ka kl kc) := hna ▸ hka ▸ hn3
  clear hn3 hna hka hRA hnA hMA hrA
  obtain ⟨m0, m1, m2, m3, fm0, fm1, fm2, fm3⟩ := hn4.cells
  obtain ⟨p0, p1, p2, p3, fp0, fp1, fp2, fp3⟩ := hres.cells
  go_wp2_with fail
  have hres4 := hres.putNode k3 t3 (.slice na nl nc) (.slice ka kl kc)
  have hR4 := IsR.newCells hR3 (n := w.heap.size) (by omega) (.int .u8 k3) (.string t3) (.slice na nl nc) (.slice ka kl kc)
  have hM4 := Mv.newCells hM3 (.int .u8 k3) (.string t3) (.slice na nl nc) (.slice ka kl kc)
  revert hres4 hR4 hM4
  generalize ((((w3.setCell ⟨w.heap.size, 0, none⟩ (.int .u8 k3)).setCell ⟨w.heap.size, 1, none⟩ (.string t3)).setCell ⟨w.heap.size, 2, none⟩ (.slice na nl nc)).setCell ⟨w.heap.size, 3, none⟩ (.slice ka kl kc)) = w4
  intro hres4 hR4 hM4
  obtain ⟨q0, q1, q2, q3, _, _, _, _⟩ := hres4.cells
  refine bodyPost_ret (v := .tuple #[.agg #[.int .u8 k3, .string t3, .slice na nl nc, .slice ka kl kc], .bool r]) (by simp [results, Tryz.results14, go_sem, q0, q1, q2, q3]; try rfl) rfl ?_
  exact ⟨k3, t3, na, nl, nc, ka, kl, kc, r, σ2, rfl, hR4, hM4, by omega, l2', hz0⟩
end Go.Proofs.YtjbffgjclnjkoaaGreatDoor
