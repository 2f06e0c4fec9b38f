/- word and scalar of the reader of the reference, at any text, exactly. -/
import Derived.Test.YtjbffgjclnjkoaaDoorWk
import Derived.Test.YtjbffgjclnjkoaaDoorJr
import Derived.Test.YtjbffgjclnjkoaaDoorBw
namespace Go.Proofs.YtjbffgjclnjkoaaDoor
set_option linter.unusedVariables false
set_option linter.unusedSimpArgs false
open Go.RowKit

/-- A state further on, the one that P tells. -/
def WkX (b : Nat) (s : ByteArray) (tw lo : Bool) (σ : St) (w : World) (P : Bool × St) (e : Ending) (w' : World) : Prop :=
  ∃ r σ', e = .returned (.bool r) ∧ IsR w' b s tw lo σ' ∧ Mv b w w' ∧ σ.at_ ≤ σ'.at_ ∧ σ'.at_ ≤ s.size ∧ Hid (P = (r, σ'))
theorem wdrop {t : ByteArray} {k : Nat} (h : k < t.size) : (bl t).drop k = bAt t k :: (bl t).drop (k + 1) := by
  have hl : k < (bl t).length := by rw [bl_len]; exact h
  rw [List.drop_eq_getElem_cons hl, bAt_lt h]
  congr 1
  simp [bl]
  rfl
set_option maxRecDepth 100000 in
theorem word_ex (b : Nat) (s : ByteArray) (tw lo : Bool) (σ : St) (t : ByteArray) (w : World) (h : IsR w b s tw lo σ) (hs : s.size ≤ maxLen) (ha : σ.at_ ≤ s.size) (ht : t.size ≤ 100) :
    Calls Tryd.prog 44 #[.pointer (some ⟨b, 0, none⟩), .string t] w (WkX b s tw lo σ w (St.word s (bl t) σ)) := by
  obtain ⟨R, HR⟩ : ∃ R, Hid (St.word s (bl t) σ = R) := ⟨_, Lib.hid rfl⟩
  rw [HR.out]
  have A0 : Aside (St.word s ((bl t).drop 0) σ = R) := HR.out
  have hs' := hs
  unfold maxLen at hs'
  go_enter Tryd.func44, Tryd.ntmps44
  go_wp2_with fail
  go_loopg [5, 8] t.size (fun g i c wx => ∃ (k : Nat) (σ' : St), c = .int .i64 k ∧ k ≤ t.size ∧ t.size - k ≤ g ∧ IsR wx b s tw lo σ' ∧ Mv b w wx ∧ σ.at_ ≤ σ'.at_ ∧ σ'.at_ ≤ s.size ∧ Aside (St.word s ((bl t).drop k) σ' = R))
  case atStart => exact ⟨0, σ, rfl, by omega, by omega, h, Mv.refl _ _, Nat.le_refl _, ha, A0⟩
  case round =>
    clear A0
    obtain ⟨k, σ', rfl, hk, hg, hR, hM, h1, h2, A⟩ := hrel
    by_cases hkt : k < t.size
    · have hn := need_any b s tw lo σ' (bAt t k) (bAt t k)
      have hadv := St.need_adv (s := s) h2 (bAt t k) (bAt t k)
      obtain ⟨r, σ1, H⟩ := named (St.need s σ' (bAt t k) (bAt t k))
      have A1 := A
      unfold Aside at A1
      rw [wdrop hkt, St.word, H.out] at A1
      rw [H.out] at hn hadv
      dsimp only at hn hadv
      have hb := bAt_lt hkt
      rw [hb] at hn
      clear hb H
      have hR' : IsR wr.drew b s tw lo σ' := hR
      have hM' : Mv b w wr.drew := hM.drew
      go_upto_region 4 with fail
      go_still_tail 7, (by kernel_rfl)
      change wpList _ _ _ _ _ wr.drew
      generalize wr.drew = wy at hR' hM' ⊢
      clear hR hM
      cases r
      · have HA := Lib.hid (show R = (false, σ1) from A1.symm)
        clear A1 A
        go_wp2_with (go_at_call 43; refine (hn wy hR' hs h2).mono ?_; rintro e w2 ⟨rfl, hR2, hM2⟩)
        all_goals go_ret
        exact ⟨_, σ1, rfl, hR2, hM'.trans hM2, by have := hadv.1; dsimp only at this; omega, hadv.2.1, HA⟩
      · have A2 : Aside (St.word s ((bl t).drop (k + 1)) σ1 = R) := A1
        clear A1 A
        go_wp2_with (go_at_call 43; refine (hn wy hR' hs h2).mono ?_; rintro e w2 ⟨rfl, hR2, hM2⟩)
        go_roundg (gk - 1)
        case measure => omega
        case rel => exact ⟨k + 1, σ1, by go_num, by omega, by omega, hR2, hM'.trans hM2, by have := hadv.1; dsimp only at this; omega, hadv.2.1, A2⟩
    · obtain rfl : k = t.size := by omega
      have HA : Hid (R = (true, σ')) := Lib.hid (by have A1 := A; unfold Aside at A1; rw [List.drop_of_length_le (by rw [bl_len]; exact Nat.le_refl _)] at A1; exact A1.symm)
      clear A
      go_wp2_with fail
      all_goals go_ret
      exact ⟨_, σ', rfl, hR, hM, h1, h2, HA⟩

set_option maxRecDepth 100000 in
set_option maxHeartbeats 4000000 in
theorem scalar_ex (b n : Nat) (s : ByteArray) (tw lo : Bool) (σ : St) (k : Int) (t : ByteArray) (names kids : Value) (w : World)
    (h : IsR w b s tw lo σ) (hn : NodeB w n k t names kids) (hne : n ≠ b) (hs : s.size ≤ maxLen) (ha : σ.at_ ≤ s.size) :
    Calls Tryd.prog 37 #[.pointer (some ⟨b, 0, none⟩), .pointer (some ⟨n, 0, none⟩)] w fun e w' => ∃ r σ', e = .returned (.bool r) ∧ IsR w' b s tw lo σ' ∧ (∃ k' t', NodeB w' n k' t' names kids) ∧ Fr2 b n w w' ∧ σ.at_ ≤ σ'.at_ ∧ σ'.at_ ≤ s.size ∧ (s.size = 0 → σ'.fault ≠ 0) ∧ St.scalarF s lo σ = (r, σ') := by
  obtain ⟨c0, c1, c2, c3, c4, c5, f1, f4, f5⟩ := h.cells
  have hs' := hs
  unfold maxLen at hs'
  obtain ⟨X, hX⟩ : ∃ X, bAt s σ.at_ = X := ⟨_, rfl⟩
  have hsee := see_any b s tw lo σ w h hs ha
  rw [hX] at hsee
  have HX0 : Hid (s.size = 0 → X = 0) := Lib.hid fun hz => by rw [← hX, bAt_ge (by omega)]
  have HXX := Lib.hid hX
  clear hX
  have hdw : ∀ n1, IsR (w.drewN n1) b s tw lo σ ∧ NodeB (w.drewN n1) n k t names kids ∧ Fr2 b n w (w.drewN n1) := fun n1 => ⟨h.drewN n1, hn, (Fr2.of_mv (Mv.refl _ _)).drewN _⟩
  go_enter Tryd.func37, Tryd.ntmps37
  go_upto_region 5 with (go_at_call 34; refine hsee.mono ?_; rintro e w1 ⟨rfl, n1, hw1⟩; obtain ⟨hR1, hN1, hF1⟩ := hw1 ▸ hdw n1; clear hw1)
  clear hsee hdw c0 c1 c2 c3 c4 c5 f1 f4 f5
  have fin : ∀ (σ1 : St) (w2 : World), IsR w2 b s tw lo σ1 → Mv b w1 w2 → σ.at_ ≤ σ1.at_ → σ1.at_ ≤ s.size → IsR w2 b s tw lo σ1 ∧ (∃ k' t', NodeB w2 n k' t' names kids) ∧ Fr2 b n w w2 ∧ σ.at_ ≤ σ1.at_ ∧ σ1.at_ ≤ s.size := fun σ1 w2 hR hM h1 h2 =>
    ⟨hR, ⟨k, t, hN1.mv hM hne⟩, hF1.trans (Fr2.of_mv hM), h1, h2⟩
  have hw : ∀ l, l.size ≤ 100 → Calls Tryd.prog 44 #[.pointer (some ⟨b, 0, none⟩), .string l] w1 (WkX b s tw lo σ w1 (St.word s (bl l) σ)) := fun l hl => word_ex b s tw lo σ l w1 hR1 hs ha hl
  cases e110 : (X == 110)
  case true =>
    have hw1 := hw ⟨#[110, 117, 108, 108]⟩ (by decide)
    clear hw
    go_upto_region 26 with (go_at_call 44; refine hw1.mono ?_; rintro e w2 ⟨r, σ1, rfl, hR2, hM2, l1, l2, HP⟩)
    have hfin := fin σ1 w2 hR2 hM2 l1 l2
    clear hw1 fin
    obtain ⟨hR, ⟨k', t', hN⟩, hF, l1, l2⟩ := hfin
    clear hR1 hN1 hF1
    have hfr : (σ.at_ : Int) ≤ (σ1.at_ : Int) := by omega
    have hto : (σ1.at_ : Int) ≤ (s.size : Int) := by omega
    obtain ⟨e0, e1, e2, e3, e4, e5, j1, j4, j5⟩ := hR.cells
    go_still_tail 13, (by kernel_rfl)
    clear e0 e1 e2 e3 e4 e5 j1 j4 j5
    change wpList _ _ _ _ _ w2.drew
    have hR3 : IsR w2.drew b s tw lo σ1 := hR
    have hn3 : NodeB w2.drew n k' t' names kids := hN
    have hF3 : Fr2 b n w w2.drew := hF.drewN 1
    generalize w2.drew = w3 at hR3 hn3 hF3 ⊢
    obtain ⟨d0, d1, d2, d3, d4, d5, g1, g4, g5⟩ := hR3.cells
    obtain ⟨m0, m1, m2, m3, fm0, fm1, fm2, fm3⟩ := hn3.cells
    go_wp2
    all_goals go_ret
    exact ⟨_, σ1, rfl, (hR3.other (Below.heap_setCell _ _ _ _ (by simpa using fun e => hne e.symm))), ⟨_, _, hn3.setText _⟩, hF3.setCell _ _, l1, l2, fun hz => absurd (HX0.out hz) (by intro h0; rw [h0] at e110; cases e110), St.sc110 HXX e110 HP⟩
  cases e116 : (X == 116)
  case true =>
    have hw1 := hw ⟨#[116, 114, 117, 101]⟩ (by decide)
    clear hw
    go_upto_region 26 with (go_at_call 44; refine hw1.mono ?_; rintro e w2 ⟨r, σ1, rfl, hR2, hM2, l1, l2, HP⟩)
    have hfin := fin σ1 w2 hR2 hM2 l1 l2
    clear hw1 fin
    obtain ⟨hR, ⟨k', t', hN⟩, hF, l1, l2⟩ := hfin
    clear hR1 hN1 hF1
    have hfr : (σ.at_ : Int) ≤ (σ1.at_ : Int) := by omega
    have hto : (σ1.at_ : Int) ≤ (s.size : Int) := by omega
    obtain ⟨e0, e1, e2, e3, e4, e5, j1, j4, j5⟩ := hR.cells
    go_still_tail 13, (by kernel_rfl)
    clear e0 e1 e2 e3 e4 e5 j1 j4 j5
    change wpList _ _ _ _ _ w2.drew
    have hR3 : IsR w2.drew b s tw lo σ1 := hR
    have hn3 : NodeB w2.drew n k' t' names kids := hN
    have hF3 : Fr2 b n w w2.drew := hF.drewN 1
    generalize w2.drew = w3 at hR3 hn3 hF3 ⊢
    obtain ⟨d0, d1, d2, d3, d4, d5, g1, g4, g5⟩ := hR3.cells
    obtain ⟨m0, m1, m2, m3, fm0, fm1, fm2, fm3⟩ := hn3.cells
    go_wp2
    all_goals go_ret
    exact ⟨_, σ1, rfl, (hR3.other (Below.heap_setCell _ _ _ _ (by simpa using fun e => hne e.symm))), ⟨_, _, hn3.setText _⟩, hF3.setCell _ _, l1, l2, fun hz => absurd (HX0.out hz) (by intro h0; rw [h0] at e116; cases e116), St.sc116 HXX e116 HP⟩
  cases e102 : (X == 102)
  case true =>
    have hw1 := hw ⟨#[102, 97, 108, 115, 101]⟩ (by decide)
    clear hw
    go_upto_region 26 with (go_at_call 44; refine hw1.mono ?_; rintro e w2 ⟨r, σ1, rfl, hR2, hM2, l1, l2, HP⟩)
    have hfin := fin σ1 w2 hR2 hM2 l1 l2
    clear hw1 fin
    obtain ⟨hR, ⟨k', t', hN⟩, hF, l1, l2⟩ := hfin
    clear hR1 hN1 hF1
    have hfr : (σ.at_ : Int) ≤ (σ1.at_ : Int) := by omega
    have hto : (σ1.at_ : Int) ≤ (s.size : Int) := by omega
    obtain ⟨e0, e1, e2, e3, e4, e5, j1, j4, j5⟩ := hR.cells
    go_still_tail 13, (by kernel_rfl)
    clear e0 e1 e2 e3 e4 e5 j1 j4 j5
    change wpList _ _ _ _ _ w2.drew
    have hR3 : IsR w2.drew b s tw lo σ1 := hR
    have hn3 : NodeB w2.drew n k' t' names kids := hN
    have hF3 : Fr2 b n w w2.drew := hF.drewN 1
    generalize w2.drew = w3 at hR3 hn3 hF3 ⊢
    obtain ⟨d0, d1, d2, d3, d4, d5, g1, g4, g5⟩ := hR3.cells
    obtain ⟨m0, m1, m2, m3, fm0, fm1, fm2, fm3⟩ := hn3.cells
    go_wp2
    all_goals go_ret
    exact ⟨_, σ1, rfl, (hR3.other (Below.heap_setCell _ _ _ _ (by simpa using fun e => hne e.symm))), ⟨_, _, hn3.setText _⟩, hF3.setCell _ _, l1, l2, fun hz => absurd (HX0.out hz) (by intro h0; rw [h0] at e102; cases e102), St.sc102 HXX e102 HP⟩
  cases e34 : (X == 34)
  case true =>
    obtain ⟨r1, σq, H1⟩ := named (St.quoted s lo σ)
    have hle := St.quoted_le (s := s) lo ha
    have hq := quoted_any b s tw lo σ w1 hR1 hs ha
    rw [H1.out] at hle hq
    dsimp only at hle hq
    have HQ := H1
    clear H1 hw
    cases r1
    · go_upto_region 26 with (go_at_call 45; refine hq.mono ?_; rintro e w2 ⟨rfl, hR2, hM2⟩)
      obtain ⟨σ1, rfl⟩ : ∃ σ1, σ1 = σq := ⟨_, rfl⟩
      have HP := Lib.hid (show (St.andThen (St.quoted s lo σ) fun σ => St.need s σ 34 34) = (false, σ1) by rw [HQ.out]; rfl)
      have hfin := fin σ1 w2 hR2 hM2 hle.1 hle.2
      clear hq fin
      obtain ⟨hR, ⟨k', t', hN⟩, hF, l1, l2⟩ := hfin
      clear hR1 hN1 hF1
      have hfr : (σ.at_ : Int) ≤ (σ1.at_ : Int) := by omega
      have hto : (σ1.at_ : Int) ≤ (s.size : Int) := by omega
      obtain ⟨e0, e1, e2, e3, e4, e5, j1, j4, j5⟩ := hR.cells
      go_still_tail 13, (by kernel_rfl)
      clear e0 e1 e2 e3 e4 e5 j1 j4 j5
      change wpList _ _ _ _ _ w2.drew
      have hR3 : IsR w2.drew b s tw lo σ1 := hR
      have hn3 : NodeB w2.drew n k' t' names kids := hN
      have hF3 : Fr2 b n w w2.drew := hF.drewN 1
      generalize w2.drew = w3 at hR3 hn3 hF3 ⊢
      obtain ⟨d0, d1, d2, d3, d4, d5, g1, g4, g5⟩ := hR3.cells
      obtain ⟨m0, m1, m2, m3, fm0, fm1, fm2, fm3⟩ := hn3.cells
      go_wp2
      all_goals go_ret
      exact ⟨_, σ1, rfl, (hR3.other (Below.heap_setCell _ _ _ _ (by simpa using fun e => hne e.symm))), ⟨_, _, hn3.setText _⟩, hF3.setCell _ _, l1, l2, fun hz => absurd (HX0.out hz) (by intro h0; rw [h0] at e34; cases e34), St.sc34 HXX e34 HP.out⟩
    · obtain ⟨r2, σ1, H2⟩ := named (St.need s σq 34 34)
      have hle2 := St.need_adv (s := s) hle.2 34 34
      have HP := Lib.hid (show (St.andThen (St.quoted s lo σ) fun σ => St.need s σ 34 34) = (r2, σ1) by rw [HQ.out]; exact H2.out)
      rw [H2.out] at hle2
      have hl1 := hle2.1
      have hl2 := hle2.2.1
      dsimp only at hl1 hl2
      clear hle2
      have hl0 := hle.1
      go_upto_region 26 with (first
        | (go_at_call 45; refine hq.mono ?_; rintro e w2 ⟨rfl, hR2, hM2⟩)
        | (go_at_call 43; refine (need_is b s tw lo σq _ _ _ _ _ H2 hR2 hs hle.2).mono ?_; rintro e w4 ⟨rfl, hR4, hM4⟩))
      have hfin := fin σ1 w4 hR4 (hM2.trans hM4) (by omega) hl2
      clear hq fin
      obtain ⟨hR, ⟨k', t', hN⟩, hF, l1, l2⟩ := hfin
      clear hR1 hN1 hF1
      have hfr : (σ.at_ : Int) ≤ (σ1.at_ : Int) := by omega
      have hto : (σ1.at_ : Int) ≤ (s.size : Int) := by omega
      obtain ⟨e0, e1, e2, e3, e4, e5, j1, j4, j5⟩ := hR.cells
      go_still_tail 13, (by kernel_rfl)
      clear e0 e1 e2 e3 e4 e5 j1 j4 j5
      change wpList _ _ _ _ _ w4.drew
      have hR3 : IsR w4.drew b s tw lo σ1 := hR
      have hn3 : NodeB w4.drew n k' t' names kids := hN
      have hF3 : Fr2 b n w w4.drew := hF.drewN 1
      generalize w4.drew = w3 at hR3 hn3 hF3 ⊢
      obtain ⟨d0, d1, d2, d3, d4, d5, g1, g4, g5⟩ := hR3.cells
      obtain ⟨m0, m1, m2, m3, fm0, fm1, fm2, fm3⟩ := hn3.cells
      go_wp2
      all_goals go_ret
      exact ⟨_, σ1, rfl, (hR3.other (Below.heap_setCell _ _ _ _ (by simpa using fun e => hne e.symm))), ⟨_, _, hn3.setText _⟩, hF3.setCell _ _, l1, l2, fun hz => absurd (HX0.out hz) (by intro h0; rw [h0] at e34; cases e34), St.sc34 HXX e34 HP.out⟩
  clear hw
  have hnum : ∀ w' : World, IsR w' b s tw lo σ → Calls Tryd.prog 46 #[.pointer (some ⟨b, 0, none⟩)] w' (WkX b s tw lo σ w' (St.number s σ)) := fun w' hR => (number_any b s tw lo σ w' hR hs ha).mono fun e w2 ⟨h1, h2, h3⟩ => ⟨_, _, h1, h2, h3, St.number_ge ha, St.number_le ha, Lib.hid rfl⟩
  obtain ⟨m0, m1, m2, m3, fm0, fm1, fm2, fm3⟩ := hN1.cells
  have hR1s : ∀ v, IsR (w1.setCell ⟨n, 0, none⟩ v) b s tw lo σ := fun v => hR1.other (Below.heap_setCell _ _ _ _ (by simpa using fun e => hne e.symm))
  have hN1s : NodeB (w1.setCell ⟨n, 0, none⟩ (.int .u8 48)) n 48 t names kids := by obtain ⟨T, h⟩ := hN1; exact ⟨T, by rw [heap_setCell h]; rfl⟩
  have hF1s := hF1.setCell 0 (.int .u8 48)
  have fin2 : ∀ (σ1 : St) (w2 : World), IsR w2 b s tw lo σ1 → Mv b (w1.setCell ⟨n, 0, none⟩ (.int .u8 48)) w2 → σ.at_ ≤ σ1.at_ → σ1.at_ ≤ s.size → IsR w2 b s tw lo σ1 ∧ (∃ k' t', NodeB w2 n k' t' names kids) ∧ Fr2 b n w w2 ∧ σ.at_ ≤ σ1.at_ ∧ σ1.at_ ≤ s.size := fun σ1 w2 hR hM h1 h2 =>
    ⟨hR, ⟨48, t, hN1s.mv hM hne⟩, hF1s.trans (Fr2.of_mv hM), h1, h2⟩
  clear fin
  cases e45 : (X == 45)
  case true =>
    go_upto_region 26 with (go_at_call 46; refine (hnum _ (hR1s _)).mono ?_; rintro e w2 ⟨r, σ1, rfl, hR2, hM2, l1, l2, HP⟩)
    have hfin := fin2 σ1 w2 hR2 hM2 l1 l2
    clear hnum fin2 m0 m1 m2 m3 fm0 fm1 fm2 fm3 hR1s hN1s hF1s
    obtain ⟨hR, ⟨k', t', hN⟩, hF, l1, l2⟩ := hfin
    clear hR1 hN1 hF1
    have hfr : (σ.at_ : Int) ≤ (σ1.at_ : Int) := by omega
    have hto : (σ1.at_ : Int) ≤ (s.size : Int) := by omega
    obtain ⟨e0, e1, e2, e3, e4, e5, j1, j4, j5⟩ := hR.cells
    go_still_tail 13, (by kernel_rfl)
    clear e0 e1 e2 e3 e4 e5 j1 j4 j5
    change wpList _ _ _ _ _ w2.drew
    have hR3 : IsR w2.drew b s tw lo σ1 := hR
    have hn3 : NodeB w2.drew n k' t' names kids := hN
    have hF3 : Fr2 b n w w2.drew := hF.drewN 1
    generalize w2.drew = w3 at hR3 hn3 hF3 ⊢
    obtain ⟨d0, d1, d2, d3, d4, d5, g1, g4, g5⟩ := hR3.cells
    obtain ⟨m0, m1, m2, m3, fm0, fm1, fm2, fm3⟩ := hn3.cells
    go_wp2
    all_goals go_ret
    exact ⟨_, σ1, rfl, (hR3.other (Below.heap_setCell _ _ _ _ (by simpa using fun e => hne e.symm))), ⟨_, _, hn3.setText _⟩, hF3.setCell _ _, l1, l2, fun hz => absurd (HX0.out hz) (by intro h0; rw [h0] at e45; cases e45), St.scNum HXX (by have := of_decide_eq_true e45; omega) HP⟩
  cases e48 : (X == 48)
  case true =>
    go_upto_region 26 with (go_at_call 46; refine (hnum _ (hR1s _)).mono ?_; rintro e w2 ⟨r, σ1, rfl, hR2, hM2, l1, l2, HP⟩)
    have hfin := fin2 σ1 w2 hR2 hM2 l1 l2
    clear hnum fin2 m0 m1 m2 m3 fm0 fm1 fm2 fm3 hR1s hN1s hF1s
    obtain ⟨hR, ⟨k', t', hN⟩, hF, l1, l2⟩ := hfin
    clear hR1 hN1 hF1
    have hfr : (σ.at_ : Int) ≤ (σ1.at_ : Int) := by omega
    have hto : (σ1.at_ : Int) ≤ (s.size : Int) := by omega
    obtain ⟨e0, e1, e2, e3, e4, e5, j1, j4, j5⟩ := hR.cells
    go_still_tail 13, (by kernel_rfl)
    clear e0 e1 e2 e3 e4 e5 j1 j4 j5
    change wpList _ _ _ _ _ w2.drew
    have hR3 : IsR w2.drew b s tw lo σ1 := hR
    have hn3 : NodeB w2.drew n k' t' names kids := hN
    have hF3 : Fr2 b n w w2.drew := hF.drewN 1
    generalize w2.drew = w3 at hR3 hn3 hF3 ⊢
    obtain ⟨d0, d1, d2, d3, d4, d5, g1, g4, g5⟩ := hR3.cells
    obtain ⟨m0, m1, m2, m3, fm0, fm1, fm2, fm3⟩ := hn3.cells
    go_wp2
    all_goals go_ret
    exact ⟨_, σ1, rfl, (hR3.other (Below.heap_setCell _ _ _ _ (by simpa using fun e => hne e.symm))), ⟨_, _, hn3.setText _⟩, hF3.setCell _ _, l1, l2, fun hz => absurd (HX0.out hz) (by intro h0; rw [h0] at e48; cases e48), St.scNum HXX (by have := of_decide_eq_true e48; omega) HP⟩
  cases e49 : (X == 49)
  case true =>
    go_upto_region 26 with (go_at_call 46; refine (hnum _ (hR1s _)).mono ?_; rintro e w2 ⟨r, σ1, rfl, hR2, hM2, l1, l2, HP⟩)
    have hfin := fin2 σ1 w2 hR2 hM2 l1 l2
    clear hnum fin2 m0 m1 m2 m3 fm0 fm1 fm2 fm3 hR1s hN1s hF1s
    obtain ⟨hR, ⟨k', t', hN⟩, hF, l1, l2⟩ := hfin
    clear hR1 hN1 hF1
    have hfr : (σ.at_ : Int) ≤ (σ1.at_ : Int) := by omega
    have hto : (σ1.at_ : Int) ≤ (s.size : Int) := by omega
    obtain ⟨e0, e1, e2, e3, e4, e5, j1, j4, j5⟩ := hR.cells
    go_still_tail 13, (by kernel_rfl)
    clear e0 e1 e2 e3 e4 e5 j1 j4 j5
    change wpList _ _ _ _ _ w2.drew
    have hR3 : IsR w2.drew b s tw lo σ1 := hR
    have hn3 : NodeB w2.drew n k' t' names kids := hN
    have hF3 : Fr2 b n w w2.drew := hF.drewN 1
    generalize w2.drew = w3 at hR3 hn3 hF3 ⊢
    obtain ⟨d0, d1, d2, d3, d4, d5, g1, g4, g5⟩ := hR3.cells
    obtain ⟨m0, m1, m2, m3, fm0, fm1, fm2, fm3⟩ := hn3.cells
    go_wp2
    all_goals go_ret
    exact ⟨_, σ1, rfl, (hR3.other (Below.heap_setCell _ _ _ _ (by simpa using fun e => hne e.symm))), ⟨_, _, hn3.setText _⟩, hF3.setCell _ _, l1, l2, fun hz => absurd (HX0.out hz) (by intro h0; rw [h0] at e49; cases e49), St.scNum HXX (by have := of_decide_eq_true e49; omega) HP⟩
  cases e50 : (X == 50)
  case true =>
    go_upto_region 26 with (go_at_call 46; refine (hnum _ (hR1s _)).mono ?_; rintro e w2 ⟨r, σ1, rfl, hR2, hM2, l1, l2, HP⟩)
    have hfin := fin2 σ1 w2 hR2 hM2 l1 l2
    clear hnum fin2 m0 m1 m2 m3 fm0 fm1 fm2 fm3 hR1s hN1s hF1s
    obtain ⟨hR, ⟨k', t', hN⟩, hF, l1, l2⟩ := hfin
    clear hR1 hN1 hF1
    have hfr : (σ.at_ : Int) ≤ (σ1.at_ : Int) := by omega
    have hto : (σ1.at_ : Int) ≤ (s.size : Int) := by omega
    obtain ⟨e0, e1, e2, e3, e4, e5, j1, j4, j5⟩ := hR.cells
    go_still_tail 13, (by kernel_rfl)
    clear e0 e1 e2 e3 e4 e5 j1 j4 j5
    change wpList _ _ _ _ _ w2.drew
    have hR3 : IsR w2.drew b s tw lo σ1 := hR
    have hn3 : NodeB w2.drew n k' t' names kids := hN
    have hF3 : Fr2 b n w w2.drew := hF.drewN 1
    generalize w2.drew = w3 at hR3 hn3 hF3 ⊢
    obtain ⟨d0, d1, d2, d3, d4, d5, g1, g4, g5⟩ := hR3.cells
    obtain ⟨m0, m1, m2, m3, fm0, fm1, fm2, fm3⟩ := hn3.cells
    go_wp2
    all_goals go_ret
    exact ⟨_, σ1, rfl, (hR3.other (Below.heap_setCell _ _ _ _ (by simpa using fun e => hne e.symm))), ⟨_, _, hn3.setText _⟩, hF3.setCell _ _, l1, l2, fun hz => absurd (HX0.out hz) (by intro h0; rw [h0] at e50; cases e50), St.scNum HXX (by have := of_decide_eq_true e50; omega) HP⟩
  cases e51 : (X == 51)
  case true =>
    go_upto_region 26 with (go_at_call 46; refine (hnum _ (hR1s _)).mono ?_; rintro e w2 ⟨r, σ1, rfl, hR2, hM2, l1, l2, HP⟩)
    have hfin := fin2 σ1 w2 hR2 hM2 l1 l2
    clear hnum fin2 m0 m1 m2 m3 fm0 fm1 fm2 fm3 hR1s hN1s hF1s
    obtain ⟨hR, ⟨k', t', hN⟩, hF, l1, l2⟩ := hfin
    clear hR1 hN1 hF1
    have hfr : (σ.at_ : Int) ≤ (σ1.at_ : Int) := by omega
    have hto : (σ1.at_ : Int) ≤ (s.size : Int) := by omega
    obtain ⟨e0, e1, e2, e3, e4, e5, j1, j4, j5⟩ := hR.cells
    go_still_tail 13, (by kernel_rfl)
    clear e0 e1 e2 e3 e4 e5 j1 j4 j5
    change wpList _ _ _ _ _ w2.drew
    have hR3 : IsR w2.drew b s tw lo σ1 := hR
    have hn3 : NodeB w2.drew n k' t' names kids := hN
    have hF3 : Fr2 b n w w2.drew := hF.drewN 1
    generalize w2.drew = w3 at hR3 hn3 hF3 ⊢
    obtain ⟨d0, d1, d2, d3, d4, d5, g1, g4, g5⟩ := hR3.cells
    obtain ⟨m0, m1, m2, m3, fm0, fm1, fm2, fm3⟩ := hn3.cells
    go_wp2
    all_goals go_ret
    exact ⟨_, σ1, rfl, (hR3.other (Below.heap_setCell _ _ _ _ (by simpa using fun e => hne e.symm))), ⟨_, _, hn3.setText _⟩, hF3.setCell _ _, l1, l2, fun hz => absurd (HX0.out hz) (by intro h0; rw [h0] at e51; cases e51), St.scNum HXX (by have := of_decide_eq_true e51; omega) HP⟩
  cases e52 : (X == 52)
  case true =>
    go_upto_region 26 with (go_at_call 46; refine (hnum _ (hR1s _)).mono ?_; rintro e w2 ⟨r, σ1, rfl, hR2, hM2, l1, l2, HP⟩)
    have hfin := fin2 σ1 w2 hR2 hM2 l1 l2
    clear hnum fin2 m0 m1 m2 m3 fm0 fm1 fm2 fm3 hR1s hN1s hF1s
    obtain ⟨hR, ⟨k', t', hN⟩, hF, l1, l2⟩ := hfin
    clear hR1 hN1 hF1
    have hfr : (σ.at_ : Int) ≤ (σ1.at_ : Int) := by omega
    have hto : (σ1.at_ : Int) ≤ (s.size : Int) := by omega
    obtain ⟨e0, e1, e2, e3, e4, e5, j1, j4, j5⟩ := hR.cells
    go_still_tail 13, (by kernel_rfl)
    clear e0 e1 e2 e3 e4 e5 j1 j4 j5
    change wpList _ _ _ _ _ w2.drew
    have hR3 : IsR w2.drew b s tw lo σ1 := hR
    have hn3 : NodeB w2.drew n k' t' names kids := hN
    have hF3 : Fr2 b n w w2.drew := hF.drewN 1
    generalize w2.drew = w3 at hR3 hn3 hF3 ⊢
    obtain ⟨d0, d1, d2, d3, d4, d5, g1, g4, g5⟩ := hR3.cells
    obtain ⟨m0, m1, m2, m3, fm0, fm1, fm2, fm3⟩ := hn3.cells
    go_wp2
    all_goals go_ret
    exact ⟨_, σ1, rfl, (hR3.other (Below.heap_setCell _ _ _ _ (by simpa using fun e => hne e.symm))), ⟨_, _, hn3.setText _⟩, hF3.setCell _ _, l1, l2, fun hz => absurd (HX0.out hz) (by intro h0; rw [h0] at e52; cases e52), St.scNum HXX (by have := of_decide_eq_true e52; omega) HP⟩
  cases e53 : (X == 53)
  case true =>
    go_upto_region 26 with (go_at_call 46; refine (hnum _ (hR1s _)).mono ?_; rintro e w2 ⟨r, σ1, rfl, hR2, hM2, l1, l2, HP⟩)
    have hfin := fin2 σ1 w2 hR2 hM2 l1 l2
    clear hnum fin2 m0 m1 m2 m3 fm0 fm1 fm2 fm3 hR1s hN1s hF1s
    obtain ⟨hR, ⟨k', t', hN⟩, hF, l1, l2⟩ := hfin
    clear hR1 hN1 hF1
    have hfr : (σ.at_ : Int) ≤ (σ1.at_ : Int) := by omega
    have hto : (σ1.at_ : Int) ≤ (s.size : Int) := by omega
    obtain ⟨e0, e1, e2, e3, e4, e5, j1, j4, j5⟩ := hR.cells
    go_still_tail 13, (by kernel_rfl)
    clear e0 e1 e2 e3 e4 e5 j1 j4 j5
    change wpList _ _ _ _ _ w2.drew
    have hR3 : IsR w2.drew b s tw lo σ1 := hR
    have hn3 : NodeB w2.drew n k' t' names kids := hN
    have hF3 : Fr2 b n w w2.drew := hF.drewN 1
    generalize w2.drew = w3 at hR3 hn3 hF3 ⊢
    obtain ⟨d0, d1, d2, d3, d4, d5, g1, g4, g5⟩ := hR3.cells
    obtain ⟨m0, m1, m2, m3, fm0, fm1, fm2, fm3⟩ := hn3.cells
    go_wp2
    all_goals go_ret
    exact ⟨_, σ1, rfl, (hR3.other (Below.heap_setCell _ _ _ _ (by simpa using fun e => hne e.symm))), ⟨_, _, hn3.setText _⟩, hF3.setCell _ _, l1, l2, fun hz => absurd (HX0.out hz) (by intro h0; rw [h0] at e53; cases e53), St.scNum HXX (by have := of_decide_eq_true e53; omega) HP⟩
  cases e54 : (X == 54)
  case true =>
    go_upto_region 26 with (go_at_call 46; refine (hnum _ (hR1s _)).mono ?_; rintro e w2 ⟨r, σ1, rfl, hR2, hM2, l1, l2, HP⟩)
    have hfin := fin2 σ1 w2 hR2 hM2 l1 l2
    clear hnum fin2 m0 m1 m2 m3 fm0 fm1 fm2 fm3 hR1s hN1s hF1s
    obtain ⟨hR, ⟨k', t', hN⟩, hF, l1, l2⟩ := hfin
    clear hR1 hN1 hF1
    have hfr : (σ.at_ : Int) ≤ (σ1.at_ : Int) := by omega
    have hto : (σ1.at_ : Int) ≤ (s.size : Int) := by omega
    obtain ⟨e0, e1, e2, e3, e4, e5, j1, j4, j5⟩ := hR.cells
    go_still_tail 13, (by kernel_rfl)
    clear e0 e1 e2 e3 e4 e5 j1 j4 j5
    change wpList _ _ _ _ _ w2.drew
    have hR3 : IsR w2.drew b s tw lo σ1 := hR
    have hn3 : NodeB w2.drew n k' t' names kids := hN
    have hF3 : Fr2 b n w w2.drew := hF.drewN 1
    generalize w2.drew = w3 at hR3 hn3 hF3 ⊢
    obtain ⟨d0, d1, d2, d3, d4, d5, g1, g4, g5⟩ := hR3.cells
    obtain ⟨m0, m1, m2, m3, fm0, fm1, fm2, fm3⟩ := hn3.cells
    go_wp2
    all_goals go_ret
    exact ⟨_, σ1, rfl, (hR3.other (Below.heap_setCell _ _ _ _ (by simpa using fun e => hne e.symm))), ⟨_, _, hn3.setText _⟩, hF3.setCell _ _, l1, l2, fun hz => absurd (HX0.out hz) (by intro h0; rw [h0] at e54; cases e54), St.scNum HXX (by have := of_decide_eq_true e54; omega) HP⟩
  cases e55 : (X == 55)
  case true =>
    go_upto_region 26 with (go_at_call 46; refine (hnum _ (hR1s _)).mono ?_; rintro e w2 ⟨r, σ1, rfl, hR2, hM2, l1, l2, HP⟩)
    have hfin := fin2 σ1 w2 hR2 hM2 l1 l2
    clear hnum fin2 m0 m1 m2 m3 fm0 fm1 fm2 fm3 hR1s hN1s hF1s
    obtain ⟨hR, ⟨k', t', hN⟩, hF, l1, l2⟩ := hfin
    clear hR1 hN1 hF1
    have hfr : (σ.at_ : Int) ≤ (σ1.at_ : Int) := by omega
    have hto : (σ1.at_ : Int) ≤ (s.size : Int) := by omega
    obtain ⟨e0, e1, e2, e3, e4, e5, j1, j4, j5⟩ := hR.cells
    go_still_tail 13, (by kernel_rfl)
    clear e0 e1 e2 e3 e4 e5 j1 j4 j5
    change wpList _ _ _ _ _ w2.drew
    have hR3 : IsR w2.drew b s tw lo σ1 := hR
    have hn3 : NodeB w2.drew n k' t' names kids := hN
    have hF3 : Fr2 b n w w2.drew := hF.drewN 1
    generalize w2.drew = w3 at hR3 hn3 hF3 ⊢
    obtain ⟨d0, d1, d2, d3, d4, d5, g1, g4, g5⟩ := hR3.cells
    obtain ⟨m0, m1, m2, m3, fm0, fm1, fm2, fm3⟩ := hn3.cells
    go_wp2
    all_goals go_ret
    exact ⟨_, σ1, rfl, (hR3.other (Below.heap_setCell _ _ _ _ (by simpa using fun e => hne e.symm))), ⟨_, _, hn3.setText _⟩, hF3.setCell _ _, l1, l2, fun hz => absurd (HX0.out hz) (by intro h0; rw [h0] at e55; cases e55), St.scNum HXX (by have := of_decide_eq_true e55; omega) HP⟩
  cases e56 : (X == 56)
  case true =>
    go_upto_region 26 with (go_at_call 46; refine (hnum _ (hR1s _)).mono ?_; rintro e w2 ⟨r, σ1, rfl, hR2, hM2, l1, l2, HP⟩)
    have hfin := fin2 σ1 w2 hR2 hM2 l1 l2
    clear hnum fin2 m0 m1 m2 m3 fm0 fm1 fm2 fm3 hR1s hN1s hF1s
    obtain ⟨hR, ⟨k', t', hN⟩, hF, l1, l2⟩ := hfin
    clear hR1 hN1 hF1
    have hfr : (σ.at_ : Int) ≤ (σ1.at_ : Int) := by omega
    have hto : (σ1.at_ : Int) ≤ (s.size : Int) := by omega
    obtain ⟨e0, e1, e2, e3, e4, e5, j1, j4, j5⟩ := hR.cells
    go_still_tail 13, (by kernel_rfl)
    clear e0 e1 e2 e3 e4 e5 j1 j4 j5
    change wpList _ _ _ _ _ w2.drew
    have hR3 : IsR w2.drew b s tw lo σ1 := hR
    have hn3 : NodeB w2.drew n k' t' names kids := hN
    have hF3 : Fr2 b n w w2.drew := hF.drewN 1
    generalize w2.drew = w3 at hR3 hn3 hF3 ⊢
    obtain ⟨d0, d1, d2, d3, d4, d5, g1, g4, g5⟩ := hR3.cells
    obtain ⟨m0, m1, m2, m3, fm0, fm1, fm2, fm3⟩ := hn3.cells
    go_wp2
    all_goals go_ret
    exact ⟨_, σ1, rfl, (hR3.other (Below.heap_setCell _ _ _ _ (by simpa using fun e => hne e.symm))), ⟨_, _, hn3.setText _⟩, hF3.setCell _ _, l1, l2, fun hz => absurd (HX0.out hz) (by intro h0; rw [h0] at e56; cases e56), St.scNum HXX (by have := of_decide_eq_true e56; omega) HP⟩
  cases e57 : (X == 57)
  case true =>
    go_upto_region 26 with (go_at_call 46; refine (hnum _ (hR1s _)).mono ?_; rintro e w2 ⟨r, σ1, rfl, hR2, hM2, l1, l2, HP⟩)
    have hfin := fin2 σ1 w2 hR2 hM2 l1 l2
    clear hnum fin2 m0 m1 m2 m3 fm0 fm1 fm2 fm3 hR1s hN1s hF1s
    obtain ⟨hR, ⟨k', t', hN⟩, hF, l1, l2⟩ := hfin
    clear hR1 hN1 hF1
    have hfr : (σ.at_ : Int) ≤ (σ1.at_ : Int) := by omega
    have hto : (σ1.at_ : Int) ≤ (s.size : Int) := by omega
    obtain ⟨e0, e1, e2, e3, e4, e5, j1, j4, j5⟩ := hR.cells
    go_still_tail 13, (by kernel_rfl)
    clear e0 e1 e2 e3 e4 e5 j1 j4 j5
    change wpList _ _ _ _ _ w2.drew
    have hR3 : IsR w2.drew b s tw lo σ1 := hR
    have hn3 : NodeB w2.drew n k' t' names kids := hN
    have hF3 : Fr2 b n w w2.drew := hF.drewN 1
    generalize w2.drew = w3 at hR3 hn3 hF3 ⊢
    obtain ⟨d0, d1, d2, d3, d4, d5, g1, g4, g5⟩ := hR3.cells
    obtain ⟨m0, m1, m2, m3, fm0, fm1, fm2, fm3⟩ := hn3.cells
    go_wp2
    all_goals go_ret
    exact ⟨_, σ1, rfl, (hR3.other (Below.heap_setCell _ _ _ _ (by simpa using fun e => hne e.symm))), ⟨_, _, hn3.setText _⟩, hF3.setCell _ _, l1, l2, fun hz => absurd (HX0.out hz) (by intro h0; rw [h0] at e57; cases e57), St.scNum HXX (by have := of_decide_eq_true e57; omega) HP⟩
  have HNo := Lib.hid (St.scNo (lo := lo) HXX e110 e116 e102 e34 (by
    simp at e45 e48 e49 e50 e51 e52 e53 e54 e55 e56 e57
    omega))
  go_wp2_with (go_at_call 26; refine (fail_any b s tw lo σ _ _ hR1).mono ?_; rintro e w2 ⟨rfl, hR2, hM2⟩)
  all_goals go_ret
  exact ⟨_, _, rfl, hR2, ⟨_, _, hN1.mv hM2 hne⟩, hF1.trans (Fr2.of_mv hM2), by rw [St.fail_at]; exact Nat.le_refl _, by rw [St.fail_at]; exact ha, fun _ => by unfold St.fail; split <;> simp_all, HNo.out⟩
end Go.Proofs.YtjbffgjclnjkoaaDoor
