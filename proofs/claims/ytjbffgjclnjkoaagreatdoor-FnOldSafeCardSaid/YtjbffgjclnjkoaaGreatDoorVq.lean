/- The reader of the reference at a string: value, Parse, Taken. -/
import Derived.Test.YtjbffgjclnjkoaaGreatDoorSc
namespace Go.Proofs.YtjbffgjclnjkoaaGreatDoor
set_option linter.unusedVariables false
set_option linter.unusedSimpArgs false
open Go.RowKit

theorem space_no {s : ByteArray} {σ : St} (h : isSp (bAt s σ.at_) = false) : ∀ n, St.space s n σ = σ
  | 0 => rfl
  | n + 1 => by unfold St.space; rw [if_neg (fun hh => by rw [h] at hh; cases hh.2)]

theorem NodeB.putNode {w : World} {n : Nat} {k : Int} {t : ByteArray} {names kids : Value} (h : NodeB w n k t names kids) (k' : Int) (t' : ByteArray) (names' kids' : Value) :
    NodeB ((((w.setCell ⟨n, 0, none⟩ (.int .u8 k')).setCell ⟨n, 1, none⟩ (.string t')).setCell ⟨n, 2, none⟩ names').setCell ⟨n, 3, none⟩ kids') n k' t' names' kids' := by
  obtain ⟨T, h⟩ := h
  exact ⟨T, by rw [heap_setCell (heap_setCell (heap_setCell (heap_setCell h _) _) _) _]; rfl⟩
theorem Mv.newCells {b : Nat} {w w3 : World} (h : Mv b w w3) (x0 x1 x2 x3 : Value) :
    Mv b w ((((w3.setCell ⟨w.heap.size, 0, none⟩ x0).setCell ⟨w.heap.size, 1, none⟩ x1).setCell ⟨w.heap.size, 2, none⟩ x2).setCell ⟨w.heap.size, 3, none⟩ x3) := by
  have k : ∀ {v : World} (o : Nat) (x : Value), Mv b w v → Mv b w (v.setCell ⟨w.heap.size, o, none⟩ x) := fun o x hv =>
    ⟨hv.os, hv.tape, hv.output, by have := hv.size; simpa [World.setCell] using this, fun g hg hb => (Below.heap_setCell _ _ _ _ (by simp; omega)).trans (hv.block g hg hb)⟩
  exact k 3 _ (k 2 _ (k 1 _ (k 0 _ h)))
theorem IsR.newCells {w3 : World} {b n : Nat} {s : ByteArray} {tw lo : Bool} {σ : St} (h : IsR w3 b s tw lo σ) (hne : b ≠ n) (x0 x1 x2 x3 : Value) :
    IsR ((((w3.setCell ⟨n, 0, none⟩ x0).setCell ⟨n, 1, none⟩ x1).setCell ⟨n, 2, none⟩ x2).setCell ⟨n, 3, none⟩ x3) b s tw lo σ := by
  have k : ∀ {v : World} (o : Nat) (x : Value), IsR v b s tw lo σ → IsR (v.setCell ⟨n, o, none⟩ x) b s tw lo σ := fun o x hv => hv.other (Below.heap_setCell _ _ _ _ (by simpa using hne))
  exact k 3 _ (k 2 _ (k 1 _ (k 0 _ h)))
set_option maxRecDepth 100000 in
set_option maxHeartbeats 4000000 in
theorem value_q (b : Nat) (s : ByteArray) (tw lo : Bool) (σ : St) (w : World) (r : Bool) (σ' : St) (HP : Hid (scQ s lo σ = (r, σ')))
    (h : IsR w b s tw lo σ) (hs : s.size ≤ maxLen) (ha : σ.at_ ≤ s.size) (hq : Hid (bAt s σ.at_ = 34)) :
    Calls Tryz.prog 14 #[.pointer (some ⟨b, 0, none⟩)] w fun e w' => (∃ t : ByteArray, e = .returned (.tuple #[.agg #[.int .u8 34, .string t, .slice none 0 0, .slice none 0 0], .bool r])) ∧ IsR w' b s tw lo σ' ∧ Mv b w w' := by
  have hsp := Lib.hid (space_no (s := s) (σ := σ) (by rw [hq.out]; rfl) (s.size - σ.at_))
  have hlt := h.lt
  go_enter Tryz.func14, Tryz.ntmps14
  go_wp2_with (first
    | (go_at_call 15; refine (rspace_any b s tw lo σ _ (h.other (Below.heap_alloc _ _ _ hlt)) hs ha).mono ?_; rw [hsp.out]; rintro e w1 ⟨rfl, hR1, hM1⟩)
    | (go_at_call 29; refine (see_any b s tw lo σ _ hR1 hs ha).mono ?_; rw [hq.out]; rintro e w2 ⟨rfl, n1, hw2⟩; have hR2 : IsR w2 b s tw lo σ := hw2 ▸ hR1.drewN n1; have hM2 : Mv b _ w2 := hw2 ▸ hM1.drewN n1; clear hw2)
    | (go_at_call 32; refine (scalar_q b w2.heap.size s tw lo σ 34 ⟨#[]⟩ (.slice none 0 0) (.slice none 0 0) _ r σ' HP (hR2.other (Below.heap_alloc _ _ _ hR2.lt)) ⟨_, heap_alloc_new _ _⟩ (by have := hR2.lt; omega) hs ha hq).mono ?_; rintro e w3 ⟨rfl, hR3, ⟨t3, hn3⟩, hF3⟩; obtain ⟨m0, m1, m2, m3, fm0, fm1, fm2, fm3⟩ := hn3.cells; have hsz2 := hM2.size; have hres : NodeB w3 w.heap.size 0 ⟨#[]⟩ (.slice none 0 0) (.slice none 0 0) := (by simp at hsz2; exact ⟨_, (hF3.block w.heap.size (by simp; omega) (by omega) (by omega)).trans ((Below.heap_alloc _ _ _ (by omega)).trans ((hM2.block w.heap.size (by simp) (by simp; omega)).trans (heap_alloc_new w _)))⟩); obtain ⟨p0, p1, p2, p3, fp0, fp1, fp2, fp3⟩ := hres.cells))
  have hM3 : Mv b w w3 := by
    have h1 : Mv b w w2 := ((Mv.refl b w).alloc _).trans hM2
    exact hF3.mv (h1.alloc _) (by have := h1.size; omega)
  have hres4 := hres.putNode 34 t3 (.slice none 0 0) (.slice none 0 0)
  have hR4 := IsR.newCells hR3 (n := w.heap.size) (by omega) (.int .u8 34) (.string t3) (.slice none 0 0) (.slice none 0 0)
  have hM4 := Mv.newCells hM3 (.int .u8 34) (.string t3) (.slice none 0 0) (.slice none 0 0)
  revert hres4 hR4 hM4
  generalize ((((w3.setCell ⟨w.heap.size, 0, none⟩ (.int .u8 34)).setCell ⟨w.heap.size, 1, none⟩ (.string t3)).setCell ⟨w.heap.size, 2, none⟩ (.slice none 0 0)).setCell ⟨w.heap.size, 3, none⟩ (.slice none 0 0)) = w4
  intro hres4 hR4 hM4
  obtain ⟨q0, q1, q2, q3, _, _, _, _⟩ := hres4.cells
  refine bodyPost_ret (v := .tuple #[.agg #[.int .u8 34, .string t3, .slice none 0 0, .slice none 0 0], .bool r]) (by simp [results, Tryz.results14, go_sem, q0, q1, q2, q3]; try rfl) rfl ?_
  exact ⟨⟨_, rfl⟩, hR4, hM4⟩
end Go.Proofs.YtjbffgjclnjkoaaGreatDoor
