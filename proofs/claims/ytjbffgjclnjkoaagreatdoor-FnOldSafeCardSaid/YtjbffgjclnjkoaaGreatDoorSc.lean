/- The reader of the reference at a string: scalar, value. -/
import Derived.Test.YtjbffgjclnjkoaaGreatDoorLa
import Derived.Test.YtjbffgjclnjkoaaGreatDoorLb
import Derived.Deep.DeepCutAuto
import Derived.StillTailTactics
import Derived.BigQuiet
namespace Go.Proofs.YtjbffgjclnjkoaaGreatDoor
set_option linter.unusedVariables false
set_option linter.unusedSimpArgs false
open Go.RowKit

/-- A node's block. -/
def NodeB (w : World) (n : Nat) (k : Int) (t : ByteArray) (names kids : Value) : Prop := ∃ T, w.heap[n]? = some (.cells #[.int .u8 k, .string t, names, kids] T (0, 0))
theorem NodeB.cells {w : World} {n : Nat} {k : Int} {t : ByteArray} {names kids : Value} (h : NodeB w n k t names kids) :
    w.cell? ⟨n, 0, none⟩ = some (.int .u8 k) ∧ w.cell? ⟨n, 1, none⟩ = some (.string t) ∧ w.cell? ⟨n, 2, none⟩ = some names ∧ w.cell? ⟨n, 3, none⟩ = some kids ∧
    w.frozen? ⟨n, 0, none⟩ = false ∧ w.frozen? ⟨n, 1, none⟩ = false ∧ w.frozen? ⟨n, 2, none⟩ = false ∧ w.frozen? ⟨n, 3, none⟩ = false := by
  obtain ⟨T, h⟩ := h
  simp [World.cell?, World.frozen?, h]
theorem NodeB.lt {w : World} {n : Nat} {k : Int} {t : ByteArray} {names kids : Value} (h : NodeB w n k t names kids) : n < w.heap.size := by obtain ⟨T, h⟩ := h; exact lt_of_block h
theorem NodeB.mv {w w' : World} {b n : Nat} {k : Int} {t : ByteArray} {names kids : Value} (h : NodeB w n k t names kids) (hm : Mv b w w') (hne : n ≠ b) : NodeB w' n k t names kids := by
  have hl := h.lt
  obtain ⟨T, h⟩ := h
  exact ⟨T, (hm.block n hl (by simpa using hne)).trans h⟩
theorem NodeB.setText {w : World} {n : Nat} {k : Int} {t : ByteArray} {names kids : Value} (h : NodeB w n k t names kids) (t' : ByteArray) : NodeB (w.setCell ⟨n, 1, none⟩ (.string t')) n k t' names kids := by
  obtain ⟨T, h⟩ := h; exact ⟨T, by rw [heap_setCell h]; rfl⟩
theorem IsR.other {w w' : World} {b s tw lo σ} (h : IsR w b s tw lo σ) (hb : w'.heap[b]? = w.heap[b]?) : IsR w' b s tw lo σ := by obtain ⟨T, h⟩ := h; exact ⟨T, hb.trans h⟩

/-- 'w'' is w but for two blocks, which may have been written, for draws, and for new blocks. -/
structure Fr2 (b n : Nat) (w w' : World) : Prop where
  os : w'.os = w.os
  tape : w'.tape = w.tape
  output : w'.output = w.output
  size : w.heap.size ≤ w'.heap.size
  block : ∀ g, g < w.heap.size → g ≠ b → g ≠ n → w'.heap[g]? = w.heap[g]?
theorem Fr2.below {b n B : Nat} {w w' : World} (h : Fr2 b n w w') (hb : B ≤ b) (hn : B ≤ n) (hB : B ≤ w.heap.size) : Below B w w' := ⟨h.os, h.tape, h.output, h.size, fun g hg => h.block g (by omega) (by omega) (by omega)⟩
theorem Fr2.of_mv {b n : Nat} {w w' : World} (h : Mv b w w') : Fr2 b n w w' := ⟨h.os, h.tape, h.output, h.size, fun g hg hb _ => h.block g hg (by simpa using hb)⟩
theorem Fr2.trans {b n : Nat} {u v w : World} (h : Fr2 b n u v) (k : Fr2 b n v w) : Fr2 b n u w :=
  ⟨k.os.trans h.os, k.tape.trans h.tape, k.output.trans h.output, Nat.le_trans h.size k.size, fun g hg hb hn => (k.block g (Nat.lt_of_lt_of_le hg h.size) hb hn).trans (h.block g hg hb hn)⟩
theorem Fr2.setCell {b n : Nat} {u v : World} (h : Fr2 b n u v) (o : Nat) (x : Value) : Fr2 b n u (v.setCell ⟨n, o, none⟩ x) :=
  h.trans ⟨rfl, rfl, rfl, by simp [World.setCell], fun g _ _ hn => Below.heap_setCell _ _ _ _ (by simpa using hn)⟩
theorem Fr2.alloc {b n : Nat} {u v : World} (h : Fr2 b n u v) (o : Obj) : Fr2 b n u (v.alloc o) :=
  h.trans ⟨rfl, rfl, rfl, by simp, fun g hg _ _ => Below.heap_alloc _ _ _ hg⟩
theorem Fr2.drewN {b n : Nat} {u v : World} (h : Fr2 b n u v) (k : Nat) : Fr2 b n u (v.drewN k) := ⟨h.os, h.tape, h.output, h.size, h.block⟩
/-- The second block lay in no world ahead. -/
theorem Fr2.mv {b n : Nat} {u v w : World} (h : Fr2 b n v w) (k : Mv b u v) (hn : u.heap.size ≤ n) : Mv b u w :=
  ⟨h.os.trans k.os, h.tape.trans k.tape, h.output.trans k.output, Nat.le_trans k.size h.size, fun g hg hb => (h.block g (Nat.lt_of_lt_of_le hg k.size) (fun e => hb (by rw [e])) (by omega)).trans (k.block g hg hb)⟩

/-- A string that is read as a value. -/
def scQ (s : ByteArray) (lo : Bool) (σ : St) : Bool × St := St.andThen (St.quoted s lo σ) fun τ => St.need s τ 34 34

set_option maxRecDepth 100000 in
set_option maxHeartbeats 4000000 in
theorem scalar_q (b n : Nat) (s : ByteArray) (tw lo : Bool) (σ : St) (k : Int) (t : ByteArray) (names kids : Value) (w : World) (r : Bool) (σ' : St) (HP : Hid (scQ s lo σ = (r, σ')))
    (h : IsR w b s tw lo σ) (hn : NodeB w n k t names kids) (hne : n ≠ b) (hs : s.size ≤ maxLen) (ha : σ.at_ ≤ s.size) (hq : Hid (bAt s σ.at_ = 34)) :
    Calls Tryz.prog 32 #[.pointer (some ⟨b, 0, none⟩), .pointer (some ⟨n, 0, none⟩)] w fun e w' => e = .returned (.bool r) ∧ IsR w' b s tw lo σ' ∧ (∃ t', NodeB w' n k t' names kids) ∧ Fr2 b n w w' := by
  obtain ⟨c0, c1, c2, c3, c4, c5, f1, f4, f5⟩ := h.cells
  have hs' := hs
  unfold maxLen at hs'
  obtain ⟨r1, σ1, H1⟩ := named (St.quoted s lo σ)
  have hle := St.quoted_le (s := s) lo ha
  rw [H1.out] at hle
  dsimp only at hle
  have hnd : NodeB (w.drewN 0) n k t names kids := hn
  have hMd : ∀ n1, Mv b w (w.drewN n1) := fun n1 => (Mv.refl _ _).drewN _
  cases r1
  · obtain ⟨rfl, rfl⟩ : false = r ∧ σ1 = σ' := by
      have := HP.out; unfold scQ at this; rw [H1.out] at this; injection this with a b; exact ⟨a, b⟩
    have hfr : (σ.at_ : Int) ≤ (σ1.at_ : Int) := by omega
    have hto : (σ1.at_ : Int) ≤ (s.size : Int) := by omega
    go_enter Tryz.func32, Tryz.ntmps32
    go_upto_region 26 with (first
      | (go_at_call 29; refine (see_any b s tw lo σ _ h hs ha).mono ?_; rw [hq.out]; rintro e w1 ⟨rfl, n1, rfl⟩)
      | (go_at_call 56; refine (quoted_any b s tw lo σ _ (h.drewN n1) hs ha).mono ?_; rw [H1.out]; rintro e w2 ⟨rfl, hR, hM⟩))
    have hM2 : Mv b w w2 := (hMd n1).trans hM
    have hn2 := hn.mv hM2 hne
    clear c0 c1 c2 c3 c4 c5 f1 f4 f5
    obtain ⟨e0, e1, e2, e3, e4, e5, j1, j4, j5⟩ := hR.cells
    go_still_tail 13, (by kernel_rfl)
    clear e0 e1 e2 e3 e4 e5 j1 j4 j5
    change wpList _ _ _ _ _ w2.drew
    have hR3 : IsR w2.drew b s tw lo σ1 := hR
    have hn3 : NodeB w2.drew n k t names kids := hn2
    have hM3 : Mv b w w2.drew := hM2.drew
    generalize w2.drew = w3 at hR3 hn3 hM3 ⊢
    obtain ⟨d0, d1, d2, d3, d4, d5, g1, g4, g5⟩ := hR3.cells
    obtain ⟨m0, m1, m2, m3, fm0, fm1, fm2, fm3⟩ := hn3.cells
    go_wp2
    all_goals go_ret
    exact ⟨rfl, (hR3.other (Below.heap_setCell _ _ _ _ (by simpa using fun e => hne e.symm))), ⟨_, hn3.setText _⟩, (Fr2.of_mv hM3).setCell _ _⟩
  · obtain ⟨H2⟩ : Nonempty (Hid (St.need s σ1 34 34 = (r, σ'))) := ⟨Lib.hid (by have := HP.out; unfold scQ at this; rw [H1.out] at this; exact this)⟩
    have hle2 := (St.need_adv (s := s) hle.2 34 34)
    rw [H2.out] at hle2
    have hl1 := hle2.1
    have hl2 := hle2.2.1
    dsimp only at hl1 hl2
    clear hle2
    have hfr : (σ.at_ : Int) ≤ (σ'.at_ : Int) := by omega
    have hto : (σ'.at_ : Int) ≤ (s.size : Int) := by omega
    go_enter Tryz.func32, Tryz.ntmps32
    go_upto_region 26 with (first
      | (go_at_call 29; refine (see_any b s tw lo σ _ h hs ha).mono ?_; rw [hq.out]; rintro e w1 ⟨rfl, n1, rfl⟩)
      | (go_at_call 56; refine (quoted_any b s tw lo σ _ (h.drewN n1) hs ha).mono ?_; rw [H1.out]; rintro e w2 ⟨rfl, hR, hM⟩)
      | (go_at_call 54; refine (need_is b s tw lo σ1 _ _ _ _ _ H2 hR hs hle.2).mono ?_; rintro e w4 ⟨rfl, hR4, hM4⟩))
    have hM2 : Mv b w w4 := ((hMd n1).trans hM).trans hM4
    have hn2 := hn.mv hM2 hne
    clear c0 c1 c2 c3 c4 c5 f1 f4 f5
    obtain ⟨e0, e1, e2, e3, e4, e5, j1, j4, j5⟩ := hR4.cells
    go_still_tail 13, (by kernel_rfl)
    clear e0 e1 e2 e3 e4 e5 j1 j4 j5
    change wpList _ _ _ _ _ w4.drew
    have hR3 : IsR w4.drew b s tw lo σ' := hR4
    have hn3 : NodeB w4.drew n k t names kids := hn2
    have hM3 : Mv b w w4.drew := hM2.drew
    generalize w4.drew = w3 at hR3 hn3 hM3 ⊢
    obtain ⟨d0, d1, d2, d3, d4, d5, g1, g4, g5⟩ := hR3.cells
    obtain ⟨m0, m1, m2, m3, fm0, fm1, fm2, fm3⟩ := hn3.cells
    go_wp2
    all_goals go_ret
    exact ⟨rfl, (hR3.other (Below.heap_setCell _ _ _ _ (by simpa using fun e => hne e.symm))), ⟨_, hn3.setText _⟩, (Fr2.of_mv hM3).setCell _ _⟩
end Go.Proofs.YtjbffgjclnjkoaaGreatDoor
