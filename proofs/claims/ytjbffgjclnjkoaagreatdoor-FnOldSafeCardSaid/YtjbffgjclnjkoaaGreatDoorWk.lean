/- The reader of the reference at any text: word, scalar. Each comes to an end, at a place not ahead of where it began. -/
import Derived.Test.YtjbffgjclnjkoaaGreatDoorVq
import Derived.Test.YtjbffgjclnjkoaaGreatDoorNx
namespace Go.Proofs.YtjbffgjclnjkoaaGreatDoor
set_option linter.unusedVariables false
set_option linter.unusedSimpArgs false
open Go.RowKit

/-- Some state further on. -/
def Wk (b : Nat) (s : ByteArray) (tw lo : Bool) (σ : St) (w : World) (e : Ending) (w' : World) : Prop :=
  ∃ r σ', e = .returned (.bool r) ∧ IsR w' b s tw lo σ' ∧ Mv b w w' ∧ σ.at_ ≤ σ'.at_ ∧ σ'.at_ ≤ s.size
namespace St
variable {s : ByteArray}
theorem sgn_ge (σ : St) : σ.at_ ≤ (sgn s σ).at_ := by unfold sgn; split <;> simp [at1]
theorem sgn2_ge (σ : St) : σ.at_ ≤ (sgn2 s σ).at_ := by unfold sgn2; split <;> simp [at1]
theorem numInt_ge {σ : St} (h : σ.at_ ≤ s.size) : σ.at_ ≤ (numInt s σ).2.at_ := by
  unfold numInt; split
  · simp [at1]
  · exact (digits_le h).1
theorem numFrac_ge {σ : St} (h : σ.at_ ≤ s.size) : σ.at_ ≤ (numFrac s σ).2.at_ := by
  unfold numFrac; split
  · have := (digits_le (s := s) (at1_le (σ := σ) (by omega))).1; simp [at1] at this ⊢; omega
  · exact Nat.le_refl _
theorem numExp_ge {σ : St} (h : σ.at_ ≤ s.size) : σ.at_ ≤ (numExp s σ).2.at_ := by
  unfold numExp; split
  · have h1 := at1_le (s := s) (σ := σ) (by omega)
    have := (digits_le (s := s) (sgn2_le h1)).1
    have h2 := sgn2_ge (s := s) σ.at1
    simp [at1] at this h2 ⊢; omega
  · exact Nat.le_refl _
theorem number_ge {σ : St} (h : σ.at_ ≤ s.size) : σ.at_ ≤ (number s σ).2.at_ := by
  have h0 := sgn_ge (s := s) σ
  have h1 := numInt_ge (s := s) (sgn_le h)
  have l1 := numInt_le (s := s) (sgn_le h)
  unfold number andThen
  dsimp only
  split
  · have h2 := numFrac_ge l1
    have l2 := numFrac_le l1
    split
    · have h3 := numExp_ge l2; omega
    · dsimp only; omega
  · dsimp only; omega
end St

set_option maxRecDepth 100000 in
theorem word_wk (b : Nat) (s : ByteArray) (tw lo : Bool) (σ : St) (t : ByteArray) (w : World) (h : IsR w b s tw lo σ) (hs : s.size ≤ maxLen) (ha : σ.at_ ≤ s.size) (ht : t.size ≤ 100) :
    Calls Tryz.prog 55 #[.pointer (some ⟨b, 0, none⟩), .string t] w (Wk b s tw lo σ w) := by
  have hs' := hs
  unfold maxLen at hs'
  go_enter Tryz.func55, Tryz.ntmps55
  go_wp2_with fail
  go_loopg [5, 8] t.size (fun g i c wx => ∃ (k : Nat) (σ' : St), c = .int .i64 k ∧ k ≤ t.size ∧ t.size - k ≤ g ∧ IsR wx b s tw lo σ' ∧ Mv b w wx ∧ σ.at_ ≤ σ'.at_ ∧ σ'.at_ ≤ s.size)
  case atStart => exact ⟨0, σ, rfl, by omega, by omega, h, Mv.refl _ _, Nat.le_refl _, ha⟩
  case round =>
    obtain ⟨k, σ', rfl, hk, hg, hR, hM, h1, h2⟩ := hrel
    by_cases hkt : k < t.size
    · have hn := need_any b s tw lo σ' (bAt t k) (bAt t k)
      have hadv := St.need_adv (s := s) h2 (bAt t k) (bAt t k)
      obtain ⟨r, σ1, H⟩ := named (St.need s σ' (bAt t k) (bAt t k))
      rw [H.out] at hn hadv
      dsimp only at hn hadv
      have hb := bAt_lt hkt
      rw [hb] at hn
      clear hb H
      have hR' : IsR wr.drew b s tw lo σ' := hR
      have hM' : Mv b w wr.drew := hM.drew
      go_upto_region 4 with fail
      go_still_tail 7, (by kernel_rfl)
      change wpList _ _ _ _ _ wr.drew
      generalize wr.drew = wy at hR' hM' ⊢
      clear hR hM
      cases r
      · go_wp2_with (go_at_call 54; refine (hn wy hR' hs h2).mono ?_; rintro e w2 ⟨rfl, hR2, hM2⟩)
        all_goals go_ret
        exact ⟨_, σ1, rfl, hR2, hM'.trans hM2, by have := hadv.1; dsimp only at this; omega, hadv.2.1⟩
      · go_wp2_with (go_at_call 54; refine (hn wy hR' hs h2).mono ?_; rintro e w2 ⟨rfl, hR2, hM2⟩)
        go_roundg (gk - 1)
        case measure => omega
        case rel => exact ⟨k + 1, σ1, by go_num, by omega, by omega, hR2, hM'.trans hM2, by have := hadv.1; dsimp only at this; omega, hadv.2.1⟩
    · obtain rfl : k = t.size := by omega
      go_wp2_with fail
      all_goals go_ret
      exact ⟨_, σ', rfl, hR, hM, h1, h2⟩

set_option maxRecDepth 100000 in
set_option maxHeartbeats 4000000 in
theorem scalar_wk (b n : Nat) (s : ByteArray) (tw lo : Bool) (σ : St) (k : Int) (t : ByteArray) (names kids : Value) (w : World)
    (h : IsR w b s tw lo σ) (hn : NodeB w n k t names kids) (hne : n ≠ b) (hs : s.size ≤ maxLen) (ha : σ.at_ ≤ s.size) :
    Calls Tryz.prog 32 #[.pointer (some ⟨b, 0, none⟩), .pointer (some ⟨n, 0, none⟩)] w fun e w' => ∃ r σ', e = .returned (.bool r) ∧ IsR w' b s tw lo σ' ∧ (∃ k' t', NodeB w' n k' t' names kids) ∧ Fr2 b n w w' ∧ σ.at_ ≤ σ'.at_ ∧ σ'.at_ ≤ s.size ∧ (s.size = 0 → σ'.fault ≠ 0) := by
  obtain ⟨c0, c1, c2, c3, c4, c5, f1, f4, f5⟩ := h.cells
  have hs' := hs
  unfold maxLen at hs'
  obtain ⟨X, hX⟩ : ∃ X, bAt s σ.at_ = X := ⟨_, rfl⟩
  have hsee := see_any b s tw lo σ w h hs ha
  rw [hX] at hsee
  have HX0 : Hid (s.size = 0 → X = 0) := Lib.hid fun hz => by rw [← hX, bAt_ge (by omega)]
  clear hX
  have hdw : ∀ n1, IsR (w.drewN n1) b s tw lo σ ∧ NodeB (w.drewN n1) n k t names kids ∧ Fr2 b n w (w.drewN n1) := fun n1 => ⟨h.drewN n1, hn, (Fr2.of_mv (Mv.refl _ _)).drewN _⟩
  go_enter Tryz.func32, Tryz.ntmps32
  go_upto_region 5 with (go_at_call 29; refine hsee.mono ?_; rintro e w1 ⟨rfl, n1, hw1⟩; obtain ⟨hR1, hN1, hF1⟩ := hw1 ▸ hdw n1; clear hw1)
  clear hsee hdw c0 c1 c2 c3 c4 c5 f1 f4 f5
  have fin : ∀ (σ1 : St) (w2 : World), IsR w2 b s tw lo σ1 → Mv b w1 w2 → σ.at_ ≤ σ1.at_ → σ1.at_ ≤ s.size → IsR w2 b s tw lo σ1 ∧ (∃ k' t', NodeB w2 n k' t' names kids) ∧ Fr2 b n w w2 ∧ σ.at_ ≤ σ1.at_ ∧ σ1.at_ ≤ s.size := fun σ1 w2 hR hM h1 h2 =>
    ⟨hR, ⟨k, t, hN1.mv hM hne⟩, hF1.trans (Fr2.of_mv hM), h1, h2⟩
  have hw : ∀ l, l.size ≤ 100 → Calls Tryz.prog 55 #[.pointer (some ⟨b, 0, none⟩), .string l] w1 (Wk b s tw lo σ w1) := fun l hl => word_wk b s tw lo σ l w1 hR1 hs ha hl
  cases e110 : (X == 110)
  case true =>
    have hw1 := hw ⟨#[110, 117, 108, 108]⟩ (by decide)
    clear hw
    go_upto_region 26 with (go_at_call 55; refine hw1.mono ?_; rintro e w2 ⟨r, σ1, rfl, hR2, hM2, l1, l2⟩)
    have hfin := fin σ1 w2 hR2 hM2 l1 l2
    clear hw1 fin
    obtain ⟨hR, ⟨k', t', hN⟩, hF, l1, l2⟩ := hfin
    clear hR1 hN1 hF1
    have hfr : (σ.at_ : Int) ≤ (σ1.at_ : Int) := by omega
    have hto : (σ1.at_ : Int) ≤ (s.size : Int) := by omega
    obtain ⟨e0, e1, e2, e3, e4, e5, j1, j4, j5⟩ := hR.cells
    go_still_tail 13, (by kernel_rfl)
    clear e0 e1 e2 e3 e4 e5 j1 j4 j5
    change wpList _ _ _ _ _ w2.drew
    have hR3 : IsR w2.drew b s tw lo σ1 := hR
    have hn3 : NodeB w2.drew n k' t' names kids := hN
    have hF3 : Fr2 b n w w2.drew := hF.drewN 1
    generalize w2.drew = w3 at hR3 hn3 hF3 ⊢
    obtain ⟨d0, d1, d2, d3, d4, d5, g1, g4, g5⟩ := hR3.cells
    obtain ⟨m0, m1, m2, m3, fm0, fm1, fm2, fm3⟩ := hn3.cells
    go_wp2
    all_goals go_ret
    exact ⟨_, σ1, rfl, (hR3.other (Below.heap_setCell _ _ _ _ (by simpa using fun e => hne e.symm))), ⟨_, _, hn3.setText _⟩, hF3.setCell _ _, l1, l2, fun hz => absurd (HX0.out hz) (by intro h0; rw [h0] at e110; cases e110)⟩
  cases e116 : (X == 116)
  case true =>
    have hw1 := hw ⟨#[116, 114, 117, 101]⟩ (by decide)
    clear hw
    go_upto_region 26 with (go_at_call 55; refine hw1.mono ?_; rintro e w2 ⟨r, σ1, rfl, hR2, hM2, l1, l2⟩)
    have hfin := fin σ1 w2 hR2 hM2 l1 l2
    clear hw1 fin
    obtain ⟨hR, ⟨k', t', hN⟩, hF, l1, l2⟩ := hfin
    clear hR1 hN1 hF1
    have hfr : (σ.at_ : Int) ≤ (σ1.at_ : Int) := by omega
    have hto : (σ1.at_ : Int) ≤ (s.size : Int) := by omega
    obtain ⟨e0, e1, e2, e3, e4, e5, j1, j4, j5⟩ := hR.cells
    go_still_tail 13, (by kernel_rfl)
    clear e0 e1 e2 e3 e4 e5 j1 j4 j5
    change wpList _ _ _ _ _ w2.drew
    have hR3 : IsR w2.drew b s tw lo σ1 := hR
    have hn3 : NodeB w2.drew n k' t' names kids := hN
    have hF3 : Fr2 b n w w2.drew := hF.drewN 1
    generalize w2.drew = w3 at hR3 hn3 hF3 ⊢
    obtain ⟨d0, d1, d2, d3, d4, d5, g1, g4, g5⟩ := hR3.cells
    obtain ⟨m0, m1, m2, m3, fm0, fm1, fm2, fm3⟩ := hn3.cells
    go_wp2
    all_goals go_ret
    exact ⟨_, σ1, rfl, (hR3.other (Below.heap_setCell _ _ _ _ (by simpa using fun e => hne e.symm))), ⟨_, _, hn3.setText _⟩, hF3.setCell _ _, l1, l2, fun hz => absurd (HX0.out hz) (by intro h0; rw [h0] at e116; cases e116)⟩
  cases e102 : (X == 102)
  case true =>
    have hw1 := hw ⟨#[102, 97, 108, 115, 101]⟩ (by decide)
    clear hw
    go_upto_region 26 with (go_at_call 55; refine hw1.mono ?_; rintro e w2 ⟨r, σ1, rfl, hR2, hM2, l1, l2⟩)
    have hfin := fin σ1 w2 hR2 hM2 l1 l2
    clear hw1 fin
    obtain ⟨hR, ⟨k', t', hN⟩, hF, l1, l2⟩ := hfin
    clear hR1 hN1 hF1
    have hfr : (σ.at_ : Int) ≤ (σ1.at_ : Int) := by omega
    have hto : (σ1.at_ : Int) ≤ (s.size : Int) := by omega
    obtain ⟨e0, e1, e2, e3, e4, e5, j1, j4, j5⟩ := hR.cells
    go_still_tail 13, (by kernel_rfl)
    clear e0 e1 e2 e3 e4 e5 j1 j4 j5
    change wpList _ _ _ _ _ w2.drew
    have hR3 : IsR w2.drew b s tw lo σ1 := hR
    have hn3 : NodeB w2.drew n k' t' names kids := hN
    have hF3 : Fr2 b n w w2.drew := hF.drewN 1
    generalize w2.drew = w3 at hR3 hn3 hF3 ⊢
    obtain ⟨d0, d1, d2, d3, d4, d5, g1, g4, g5⟩ := hR3.cells
    obtain ⟨m0, m1, m2, m3, fm0, fm1, fm2, fm3⟩ := hn3.cells
    go_wp2
    all_goals go_ret
    exact ⟨_, σ1, rfl, (hR3.other (Below.heap_setCell _ _ _ _ (by simpa using fun e => hne e.symm))), ⟨_, _, hn3.setText _⟩, hF3.setCell _ _, l1, l2, fun hz => absurd (HX0.out hz) (by intro h0; rw [h0] at e102; cases e102)⟩
  cases e34 : (X == 34)
  case true =>
    obtain ⟨r1, σq, H1⟩ := named (St.quoted s lo σ)
    have hle := St.quoted_le (s := s) lo ha
    have hq := quoted_any b s tw lo σ w1 hR1 hs ha
    rw [H1.out] at hle hq
    dsimp only at hle hq
    clear H1 hw
    cases r1
    · go_upto_region 26 with (go_at_call 56; refine hq.mono ?_; rintro e w2 ⟨rfl, hR2, hM2⟩)
      obtain ⟨σ1, rfl⟩ : ∃ σ1, σ1 = σq := ⟨_, rfl⟩
      have hfin := fin σ1 w2 hR2 hM2 hle.1 hle.2
      clear hq fin
      obtain ⟨hR, ⟨k', t', hN⟩, hF, l1, l2⟩ := hfin
      clear hR1 hN1 hF1
      have hfr : (σ.at_ : Int) ≤ (σ1.at_ : Int) := by omega
      have hto : (σ1.at_ : Int) ≤ (s.size : Int) := by omega
      obtain ⟨e0, e1, e2, e3, e4, e5, j1, j4, j5⟩ := hR.cells
      go_still_tail 13, (by kernel_rfl)
      clear e0 e1 e2 e3 e4 e5 j1 j4 j5
      change wpList _ _ _ _ _ w2.drew
      have hR3 : IsR w2.drew b s tw lo σ1 := hR
      have hn3 : NodeB w2.drew n k' t' names kids := hN
      have hF3 : Fr2 b n w w2.drew := hF.drewN 1
      generalize w2.drew = w3 at hR3 hn3 hF3 ⊢
      obtain ⟨d0, d1, d2, d3, d4, d5, g1, g4, g5⟩ := hR3.cells
      obtain ⟨m0, m1, m2, m3, fm0, fm1, fm2, fm3⟩ := hn3.cells
      go_wp2
      all_goals go_ret
      exact ⟨_, σ1, rfl, (hR3.other (Below.heap_setCell _ _ _ _ (by simpa using fun e => hne e.symm))), ⟨_, _, hn3.setText _⟩, hF3.setCell _ _, l1, l2, fun hz => absurd (HX0.out hz) (by intro h0; rw [h0] at e34; cases e34)⟩
    · obtain ⟨r2, σ1, H2⟩ := named (St.need s σq 34 34)
      have hle2 := St.need_adv (s := s) hle.2 34 34
      rw [H2.out] at hle2
      have hl1 := hle2.1
      have hl2 := hle2.2.1
      dsimp only at hl1 hl2
      clear hle2
      have hl0 := hle.1
      go_upto_region 26 with (first
        | (go_at_call 56; refine hq.mono ?_; rintro e w2 ⟨rfl, hR2, hM2⟩)
        | (go_at_call 54; refine (need_is b s tw lo σq _ _ _ _ _ H2 hR2 hs hle.2).mono ?_; rintro e w4 ⟨rfl, hR4, hM4⟩))
      have hfin := fin σ1 w4 hR4 (hM2.trans hM4) (by omega) hl2
      clear hq fin
      obtain ⟨hR, ⟨k', t', hN⟩, hF, l1, l2⟩ := hfin
      clear hR1 hN1 hF1
      have hfr : (σ.at_ : Int) ≤ (σ1.at_ : Int) := by omega
      have hto : (σ1.at_ : Int) ≤ (s.size : Int) := by omega
      obtain ⟨e0, e1, e2, e3, e4, e5, j1, j4, j5⟩ := hR.cells
      go_still_tail 13, (by kernel_rfl)
      clear e0 e1 e2 e3 e4 e5 j1 j4 j5
      change wpList _ _ _ _ _ w4.drew
      have hR3 : IsR w4.drew b s tw lo σ1 := hR
      have hn3 : NodeB w4.drew n k' t' names kids := hN
      have hF3 : Fr2 b n w w4.drew := hF.drewN 1
      generalize w4.drew = w3 at hR3 hn3 hF3 ⊢
      obtain ⟨d0, d1, d2, d3, d4, d5, g1, g4, g5⟩ := hR3.cells
      obtain ⟨m0, m1, m2, m3, fm0, fm1, fm2, fm3⟩ := hn3.cells
      go_wp2
      all_goals go_ret
      exact ⟨_, σ1, rfl, (hR3.other (Below.heap_setCell _ _ _ _ (by simpa using fun e => hne e.symm))), ⟨_, _, hn3.setText _⟩, hF3.setCell _ _, l1, l2, fun hz => absurd (HX0.out hz) (by intro h0; rw [h0] at e34; cases e34)⟩
  clear hw
  have hnum : ∀ w' : World, IsR w' b s tw lo σ → Calls Tryz.prog 57 #[.pointer (some ⟨b, 0, none⟩)] w' (Wk b s tw lo σ w') := fun w' hR => (number_any b s tw lo σ w' hR hs ha).mono fun e w2 ⟨h1, h2, h3⟩ => ⟨_, _, h1, h2, h3, St.number_ge ha, St.number_le ha⟩
  obtain ⟨m0, m1, m2, m3, fm0, fm1, fm2, fm3⟩ := hN1.cells
  have hR1s : ∀ v, IsR (w1.setCell ⟨n, 0, none⟩ v) b s tw lo σ := fun v => hR1.other (Below.heap_setCell _ _ _ _ (by simpa using fun e => hne e.symm))
  have hN1s : NodeB (w1.setCell ⟨n, 0, none⟩ (.int .u8 48)) n 48 t names kids := by obtain ⟨T, h⟩ := hN1; exact ⟨T, by rw [heap_setCell h]; rfl⟩
  have hF1s := hF1.setCell 0 (.int .u8 48)
  have fin2 : ∀ (σ1 : St) (w2 : World), IsR w2 b s tw lo σ1 → Mv b (w1.setCell ⟨n, 0, none⟩ (.int .u8 48)) w2 → σ.at_ ≤ σ1.at_ → σ1.at_ ≤ s.size → IsR w2 b s tw lo σ1 ∧ (∃ k' t', NodeB w2 n k' t' names kids) ∧ Fr2 b n w w2 ∧ σ.at_ ≤ σ1.at_ ∧ σ1.at_ ≤ s.size := fun σ1 w2 hR hM h1 h2 =>
    ⟨hR, ⟨48, t, hN1s.mv hM hne⟩, hF1s.trans (Fr2.of_mv hM), h1, h2⟩
  clear fin
  cases e45 : (X == 45)
  case true =>
    go_upto_region 26 with (go_at_call 57; refine (hnum _ (hR1s _)).mono ?_; rintro e w2 ⟨r, σ1, rfl, hR2, hM2, l1, l2⟩)
    have hfin := fin2 σ1 w2 hR2 hM2 l1 l2
    clear hnum fin2 m0 m1 m2 m3 fm0 fm1 fm2 fm3 hR1s hN1s hF1s
    obtain ⟨hR, ⟨k', t', hN⟩, hF, l1, l2⟩ := hfin
    clear hR1 hN1 hF1
    have hfr : (σ.at_ : Int) ≤ (σ1.at_ : Int) := by omega
    have hto : (σ1.at_ : Int) ≤ (s.size : Int) := by omega
    obtain ⟨e0, e1, e2, e3, e4, e5, j1, j4, j5⟩ := hR.cells
    go_still_tail 13, (by kernel_rfl)
    clear e0 e1 e2 e3 e4 e5 j1 j4 j5
    change wpList _ _ _ _ _ w2.drew
    have hR3 : IsR w2.drew b s tw lo σ1 := hR
    have hn3 : NodeB w2.drew n k' t' names kids := hN
    have hF3 : Fr2 b n w w2.drew := hF.drewN 1
    generalize w2.drew = w3 at hR3 hn3 hF3 ⊢
    obtain ⟨d0, d1, d2, d3, d4, d5, g1, g4, g5⟩ := hR3.cells
    obtain ⟨m0, m1, m2, m3, fm0, fm1, fm2, fm3⟩ := hn3.cells
    go_wp2
    all_goals go_ret
    exact ⟨_, σ1, rfl, (hR3.other (Below.heap_setCell _ _ _ _ (by simpa using fun e => hne e.symm))), ⟨_, _, hn3.setText _⟩, hF3.setCell _ _, l1, l2, fun hz => absurd (HX0.out hz) (by intro h0; rw [h0] at e45; cases e45)⟩
  cases e48 : (X == 48)
  case true =>
    go_upto_region 26 with (go_at_call 57; refine (hnum _ (hR1s _)).mono ?_; rintro e w2 ⟨r, σ1, rfl, hR2, hM2, l1, l2⟩)
    have hfin := fin2 σ1 w2 hR2 hM2 l1 l2
    clear hnum fin2 m0 m1 m2 m3 fm0 fm1 fm2 fm3 hR1s hN1s hF1s
    obtain ⟨hR, ⟨k', t', hN⟩, hF, l1, l2⟩ := hfin
    clear hR1 hN1 hF1
    have hfr : (σ.at_ : Int) ≤ (σ1.at_ : Int) := by omega
    have hto : (σ1.at_ : Int) ≤ (s.size : Int) := by omega
    obtain ⟨e0, e1, e2, e3, e4, e5, j1, j4, j5⟩ := hR.cells
    go_still_tail 13, (by kernel_rfl)
    clear e0 e1 e2 e3 e4 e5 j1 j4 j5
    change wpList _ _ _ _ _ w2.drew
    have hR3 : IsR w2.drew b s tw lo σ1 := hR
    have hn3 : NodeB w2.drew n k' t' names kids := hN
    have hF3 : Fr2 b n w w2.drew := hF.drewN 1
    generalize w2.drew = w3 at hR3 hn3 hF3 ⊢
    obtain ⟨d0, d1, d2, d3, d4, d5, g1, g4, g5⟩ := hR3.cells
    obtain ⟨m0, m1, m2, m3, fm0, fm1, fm2, fm3⟩ := hn3.cells
    go_wp2
    all_goals go_ret
    exact ⟨_, σ1, rfl, (hR3.other (Below.heap_setCell _ _ _ _ (by simpa using fun e => hne e.symm))), ⟨_, _, hn3.setText _⟩, hF3.setCell _ _, l1, l2, fun hz => absurd (HX0.out hz) (by intro h0; rw [h0] at e48; cases e48)⟩
  cases e49 : (X == 49)
  case true =>
    go_upto_region 26 with (go_at_call 57; refine (hnum _ (hR1s _)).mono ?_; rintro e w2 ⟨r, σ1, rfl, hR2, hM2, l1, l2⟩)
    have hfin := fin2 σ1 w2 hR2 hM2 l1 l2
    clear hnum fin2 m0 m1 m2 m3 fm0 fm1 fm2 fm3 hR1s hN1s hF1s
    obtain ⟨hR, ⟨k', t', hN⟩, hF, l1, l2⟩ := hfin
    clear hR1 hN1 hF1
    have hfr : (σ.at_ : Int) ≤ (σ1.at_ : Int) := by omega
    have hto : (σ1.at_ : Int) ≤ (s.size : Int) := by omega
    obtain ⟨e0, e1, e2, e3, e4, e5, j1, j4, j5⟩ := hR.cells
    go_still_tail 13, (by kernel_rfl)
    clear e0 e1 e2 e3 e4 e5 j1 j4 j5
    change wpList _ _ _ _ _ w2.drew
    have hR3 : IsR w2.drew b s tw lo σ1 := hR
    have hn3 : NodeB w2.drew n k' t' names kids := hN
    have hF3 : Fr2 b n w w2.drew := hF.drewN 1
    generalize w2.drew = w3 at hR3 hn3 hF3 ⊢
    obtain ⟨d0, d1, d2, d3, d4, d5, g1, g4, g5⟩ := hR3.cells
    obtain ⟨m0, m1, m2, m3, fm0, fm1, fm2, fm3⟩ := hn3.cells
    go_wp2
    all_goals go_ret
    exact ⟨_, σ1, rfl, (hR3.other (Below.heap_setCell _ _ _ _ (by simpa using fun e => hne e.symm))), ⟨_, _, hn3.setText _⟩, hF3.setCell _ _, l1, l2, fun hz => absurd (HX0.out hz) (by intro h0; rw [h0] at e49; cases e49)⟩
  cases e50 : (X == 50)
  case true =>
    go_upto_region 26 with (go_at_call 57; refine (hnum _ (hR1s _)).mono ?_; rintro e w2 ⟨r, σ1, rfl, hR2, hM2, l1, l2⟩)
    have hfin := fin2 σ1 w2 hR2 hM2 l1 l2
    clear hnum fin2 m0 m1 m2 m3 fm0 fm1 fm2 fm3 hR1s hN1s hF1s
    obtain ⟨hR, ⟨k', t', hN⟩, hF, l1, l2⟩ := hfin
    clear hR1 hN1 hF1
    have hfr : (σ.at_ : Int) ≤ (σ1.at_ : Int) := by omega
    have hto : (σ1.at_ : Int) ≤ (s.size : Int) := by omega
    obtain ⟨e0, e1, e2, e3, e4, e5, j1, j4, j5⟩ := hR.cells
    go_still_tail 13, (by kernel_rfl)
    clear e0 e1 e2 e3 e4 e5 j1 j4 j5
    change wpList _ _ _ _ _ w2.drew
    have hR3 : IsR w2.drew b s tw lo σ1 := hR
    have hn3 : NodeB w2.drew n k' t' names kids := hN
    have hF3 : Fr2 b n w w2.drew := hF.drewN 1
    generalize w2.drew = w3 at hR3 hn3 hF3 ⊢
    obtain ⟨d0, d1, d2, d3, d4, d5, g1, g4, g5⟩ := hR3.cells
    obtain ⟨m0, m1, m2, m3, fm0, fm1, fm2, fm3⟩ := hn3.cells
    go_wp2
    all_goals go_ret
    exact ⟨_, σ1, rfl, (hR3.other (Below.heap_setCell _ _ _ _ (by simpa using fun e => hne e.symm))), ⟨_, _, hn3.setText _⟩, hF3.setCell _ _, l1, l2, fun hz => absurd (HX0.out hz) (by intro h0; rw [h0] at e50; cases e50)⟩
  cases e51 : (X == 51)
  case true =>
    go_upto_region 26 with (go_at_call 57; refine (hnum _ (hR1s _)).mono ?_; rintro e w2 ⟨r, σ1, rfl, hR2, hM2, l1, l2⟩)
    have hfin := fin2 σ1 w2 hR2 hM2 l1 l2
    clear hnum fin2 m0 m1 m2 m3 fm0 fm1 fm2 fm3 hR1s hN1s hF1s
    obtain ⟨hR, ⟨k', t', hN⟩, hF, l1, l2⟩ := hfin
    clear hR1 hN1 hF1
    have hfr : (σ.at_ : Int) ≤ (σ1.at_ : Int) := by omega
    have hto : (σ1.at_ : Int) ≤ (s.size : Int) := by omega
    obtain ⟨e0, e1, e2, e3, e4, e5, j1, j4, j5⟩ := hR.cells
    go_still_tail 13, (by kernel_rfl)
    clear e0 e1 e2 e3 e4 e5 j1 j4 j5
    change wpList _ _ _ _ _ w2.drew
    have hR3 : IsR w2.drew b s tw lo σ1 := hR
    have hn3 : NodeB w2.drew n k' t' names kids := hN
    have hF3 : Fr2 b n w w2.drew := hF.drewN 1
    generalize w2.drew = w3 at hR3 hn3 hF3 ⊢
    obtain ⟨d0, d1, d2, d3, d4, d5, g1, g4, g5⟩ := hR3.cells
    obtain ⟨m0, m1, m2, m3, fm0, fm1, fm2, fm3⟩ := hn3.cells
    go_wp2
    all_goals go_ret
    exact ⟨_, σ1, rfl, (hR3.other (Below.heap_setCell _ _ _ _ (by simpa using fun e => hne e.symm))), ⟨_, _, hn3.setText _⟩, hF3.setCell _ _, l1, l2, fun hz => absurd (HX0.out hz) (by intro h0; rw [h0] at e51; cases e51)⟩
  cases e52 : (X == 52)
  case true =>
    go_upto_region 26 with (go_at_call 57; refine (hnum _ (hR1s _)).mono ?_; rintro e w2 ⟨r, σ1, rfl, hR2, hM2, l1, l2⟩)
    have hfin := fin2 σ1 w2 hR2 hM2 l1 l2
    clear hnum fin2 m0 m1 m2 m3 fm0 fm1 fm2 fm3 hR1s hN1s hF1s
    obtain ⟨hR, ⟨k', t', hN⟩, hF, l1, l2⟩ := hfin
    clear hR1 hN1 hF1
    have hfr : (σ.at_ : Int) ≤ (σ1.at_ : Int) := by omega
    have hto : (σ1.at_ : Int) ≤ (s.size : Int) := by omega
    obtain ⟨e0, e1, e2, e3, e4, e5, j1, j4, j5⟩ := hR.cells
    go_still_tail 13, (by kernel_rfl)
    clear e0 e1 e2 e3 e4 e5 j1 j4 j5
    change wpList _ _ _ _ _ w2.drew
    have hR3 : IsR w2.drew b s tw lo σ1 := hR
    have hn3 : NodeB w2.drew n k' t' names kids := hN
    have hF3 : Fr2 b n w w2.drew := hF.drewN 1
    generalize w2.drew = w3 at hR3 hn3 hF3 ⊢
    obtain ⟨d0, d1, d2, d3, d4, d5, g1, g4, g5⟩ := hR3.cells
    obtain ⟨m0, m1, m2, m3, fm0, fm1, fm2, fm3⟩ := hn3.cells
    go_wp2
    all_goals go_ret
    exact ⟨_, σ1, rfl, (hR3.other (Below.heap_setCell _ _ _ _ (by simpa using fun e => hne e.symm))), ⟨_, _, hn3.setText _⟩, hF3.setCell _ _, l1, l2, fun hz => absurd (HX0.out hz) (by intro h0; rw [h0] at e52; cases e52)⟩
  cases e53 : (X == 53)
  case true =>
    go_upto_region 26 with (go_at_call 57; refine (hnum _ (hR1s _)).mono ?_; rintro e w2 ⟨r, σ1, rfl, hR2, hM2, l1, l2⟩)
    have hfin := fin2 σ1 w2 hR2 hM2 l1 l2
    clear hnum fin2 m0 m1 m2 m3 fm0 fm1 fm2 fm3 hR1s hN1s hF1s
    obtain ⟨hR, ⟨k', t', hN⟩, hF, l1, l2⟩ := hfin
    clear hR1 hN1 hF1
    have hfr : (σ.at_ : Int) ≤ (σ1.at_ : Int) := by omega
    have hto : (σ1.at_ : Int) ≤ (s.size : Int) := by omega
    obtain ⟨e0, e1, e2, e3, e4, e5, j1, j4, j5⟩ := hR.cells
    go_still_tail 13, (by kernel_rfl)
    clear e0 e1 e2 e3 e4 e5 j1 j4 j5
    change wpList _ _ _ _ _ w2.drew
    have hR3 : IsR w2.drew b s tw lo σ1 := hR
    have hn3 : NodeB w2.drew n k' t' names kids := hN
    have hF3 : Fr2 b n w w2.drew := hF.drewN 1
    generalize w2.drew = w3 at hR3 hn3 hF3 ⊢
    obtain ⟨d0, d1, d2, d3, d4, d5, g1, g4, g5⟩ := hR3.cells
    obtain ⟨m0, m1, m2, m3, fm0, fm1, fm2, fm3⟩ := hn3.cells
    go_wp2
    all_goals go_ret
    exact ⟨_, σ1, rfl, (hR3.other (Below.heap_setCell _ _ _ _ (by simpa using fun e => hne e.symm))), ⟨_, _, hn3.setText _⟩, hF3.setCell _ _, l1, l2, fun hz => absurd (HX0.out hz) (by intro h0; rw [h0] at e53; cases e53)⟩
  cases e54 : (X == 54)
  case true =>
    go_upto_region 26 with (go_at_call 57; refine (hnum _ (hR1s _)).mono ?_; rintro e w2 ⟨r, σ1, rfl, hR2, hM2, l1, l2⟩)
    have hfin := fin2 σ1 w2 hR2 hM2 l1 l2
    clear hnum fin2 m0 m1 m2 m3 fm0 fm1 fm2 fm3 hR1s hN1s hF1s
    obtain ⟨hR, ⟨k', t', hN⟩, hF, l1, l2⟩ := hfin
    clear hR1 hN1 hF1
    have hfr : (σ.at_ : Int) ≤ (σ1.at_ : Int) := by omega
    have hto : (σ1.at_ : Int) ≤ (s.size : Int) := by omega
    obtain ⟨e0, e1, e2, e3, e4, e5, j1, j4, j5⟩ := hR.cells
    go_still_tail 13, (by kernel_rfl)
    clear e0 e1 e2 e3 e4 e5 j1 j4 j5
    change wpList _ _ _ _ _ w2.drew
    have hR3 : IsR w2.drew b s tw lo σ1 := hR
    have hn3 : NodeB w2.drew n k' t' names kids := hN
    have hF3 : Fr2 b n w w2.drew := hF.drewN 1
    generalize w2.drew = w3 at hR3 hn3 hF3 ⊢
    obtain ⟨d0, d1, d2, d3, d4, d5, g1, g4, g5⟩ := hR3.cells
    obtain ⟨m0, m1, m2, m3, fm0, fm1, fm2, fm3⟩ := hn3.cells
    go_wp2
    all_goals go_ret
    exact ⟨_, σ1, rfl, (hR3.other (Below.heap_setCell _ _ _ _ (by simpa using fun e => hne e.symm))), ⟨_, _, hn3.setText _⟩, hF3.setCell _ _, l1, l2, fun hz => absurd (HX0.out hz) (by intro h0; rw [h0] at e54; cases e54)⟩
  cases e55 : (X == 55)
  case true =>
    go_upto_region 26 with (go_at_call 57; refine (hnum _ (hR1s _)).mono ?_; rintro e w2 ⟨r, σ1, rfl, hR2, hM2, l1, l2⟩)
    have hfin := fin2 σ1 w2 hR2 hM2 l1 l2
    clear hnum fin2 m0 m1 m2 m3 fm0 fm1 fm2 fm3 hR1s hN1s hF1s
    obtain ⟨hR, ⟨k', t', hN⟩, hF, l1, l2⟩ := hfin
    clear hR1 hN1 hF1
    have hfr : (σ.at_ : Int) ≤ (σ1.at_ : Int) := by omega
    have hto : (σ1.at_ : Int) ≤ (s.size : Int) := by omega
    obtain ⟨e0, e1, e2, e3, e4, e5, j1, j4, j5⟩ := hR.cells
    go_still_tail 13, (by kernel_rfl)
    clear e0 e1 e2 e3 e4 e5 j1 j4 j5
    change wpList _ _ _ _ _ w2.drew
    have hR3 : IsR w2.drew b s tw lo σ1 := hR
    have hn3 : NodeB w2.drew n k' t' names kids := hN
    have hF3 : Fr2 b n w w2.drew := hF.drewN 1
    generalize w2.drew = w3 at hR3 hn3 hF3 ⊢
    obtain ⟨d0, d1, d2, d3, d4, d5, g1, g4, g5⟩ := hR3.cells
    obtain ⟨m0, m1, m2, m3, fm0, fm1, fm2, fm3⟩ := hn3.cells
    go_wp2
    all_goals go_ret
    exact ⟨_, σ1, rfl, (hR3.other (Below.heap_setCell _ _ _ _ (by simpa using fun e => hne e.symm))), ⟨_, _, hn3.setText _⟩, hF3.setCell _ _, l1, l2, fun hz => absurd (HX0.out hz) (by intro h0; rw [h0] at e55; cases e55)⟩
  cases e56 : (X == 56)
  case true =>
    go_upto_region 26 with (go_at_call 57; refine (hnum _ (hR1s _)).mono ?_; rintro e w2 ⟨r, σ1, rfl, hR2, hM2, l1, l2⟩)
    have hfin := fin2 σ1 w2 hR2 hM2 l1 l2
    clear hnum fin2 m0 m1 m2 m3 fm0 fm1 fm2 fm3 hR1s hN1s hF1s
    obtain ⟨hR, ⟨k', t', hN⟩, hF, l1, l2⟩ := hfin
    clear hR1 hN1 hF1
    have hfr : (σ.at_ : Int) ≤ (σ1.at_ : Int) := by omega
    have hto : (σ1.at_ : Int) ≤ (s.size : Int) := by omega
    obtain ⟨e0, e1, e2, e3, e4, e5, j1, j4, j5⟩ := hR.cells
    go_still_tail 13, (by kernel_rfl)
    clear e0 e1 e2 e3 e4 e5 j1 j4 j5
    change wpList _ _ _ _ _ w2.drew
    have hR3 : IsR w2.drew b s tw lo σ1 := hR
    have hn3 : NodeB w2.drew n k' t' names kids := hN
    have hF3 : Fr2 b n w w2.drew := hF.drewN 1
    generalize w2.drew = w3 at hR3 hn3 hF3 ⊢
    obtain ⟨d0, d1, d2, d3, d4, d5, g1, g4, g5⟩ := hR3.cells
    obtain ⟨m0, m1, m2, m3, fm0, fm1, fm2, fm3⟩ := hn3.cells
    go_wp2
    all_goals go_ret
    exact ⟨_, σ1, rfl, (hR3.other (Below.heap_setCell _ _ _ _ (by simpa using fun e => hne e.symm))), ⟨_, _, hn3.setText _⟩, hF3.setCell _ _, l1, l2, fun hz => absurd (HX0.out hz) (by intro h0; rw [h0] at e56; cases e56)⟩
  cases e57 : (X == 57)
  case true =>
    go_upto_region 26 with (go_at_call 57; refine (hnum _ (hR1s _)).mono ?_; rintro e w2 ⟨r, σ1, rfl, hR2, hM2, l1, l2⟩)
    have hfin := fin2 σ1 w2 hR2 hM2 l1 l2
    clear hnum fin2 m0 m1 m2 m3 fm0 fm1 fm2 fm3 hR1s hN1s hF1s
    obtain ⟨hR, ⟨k', t', hN⟩, hF, l1, l2⟩ := hfin
    clear hR1 hN1 hF1
    have hfr : (σ.at_ : Int) ≤ (σ1.at_ : Int) := by omega
    have hto : (σ1.at_ : Int) ≤ (s.size : Int) := by omega
    obtain ⟨e0, e1, e2, e3, e4, e5, j1, j4, j5⟩ := hR.cells
    go_still_tail 13, (by kernel_rfl)
    clear e0 e1 e2 e3 e4 e5 j1 j4 j5
    change wpList _ _ _ _ _ w2.drew
    have hR3 : IsR w2.drew b s tw lo σ1 := hR
    have hn3 : NodeB w2.drew n k' t' names kids := hN
    have hF3 : Fr2 b n w w2.drew := hF.drewN 1
    generalize w2.drew = w3 at hR3 hn3 hF3 ⊢
    obtain ⟨d0, d1, d2, d3, d4, d5, g1, g4, g5⟩ := hR3.cells
    obtain ⟨m0, m1, m2, m3, fm0, fm1, fm2, fm3⟩ := hn3.cells
    go_wp2
    all_goals go_ret
    exact ⟨_, σ1, rfl, (hR3.other (Below.heap_setCell _ _ _ _ (by simpa using fun e => hne e.symm))), ⟨_, _, hn3.setText _⟩, hF3.setCell _ _, l1, l2, fun hz => absurd (HX0.out hz) (by intro h0; rw [h0] at e57; cases e57)⟩
  go_wp2_with (go_at_call 16; refine (fail_any b s tw lo σ _ _ hR1).mono ?_; rintro e w2 ⟨rfl, hR2, hM2⟩)
  all_goals go_ret
  exact ⟨_, _, rfl, hR2, ⟨_, _, hN1.mv hM2 hne⟩, hF1.trans (Fr2.of_mv hM2), by rw [St.fail_at]; exact Nat.le_refl _, by rw [St.fail_at]; exact ha, fun _ => by unfold St.fail; split <;> simp_all⟩
end Go.Proofs.YtjbffgjclnjkoaaGreatDoor
