/- The reader of the reference at any text: object, value. Lines by program (mkwq.py). -/
import Derived.Test.YtjbffgjclnjkoaaGreatDoorWm
import Derived.Deep.DeepCutAuto
namespace Go.Proofs.YtjbffgjclnjkoaaGreatDoor
set_option linter.unusedVariables false
set_option linter.unusedSimpArgs false
open Go.RowKit

set_option maxRecDepth 100000 in
set_option maxHeartbeats 4000000 in
theorem object_wk (Nq : Value → Prop) (b n B : Nat) (s : ByteArray) (tw lo : Bool) (σ : St) (w0 w : World) (h : RB Nq b n B σ.at_ s tw lo σ w0 w) (hs : s.size ≤ 2147483647) (ha : σ.at_ ≤ s.size)
    (ih : ∀ σ', σ.at_ ≤ σ'.at_ → σ'.at_ ≤ s.size → ValK b s tw lo σ')
    (hQ : ∀ σ σ', St.quoted s lo σ = (true, σ') → Nq (.string (s.extract σ.at_ (σ'.at_ + 1)))) (hag : tw = false → ∀ B, AgK Nq b B s lo) :
    Calls Tryz.prog 30 #[.pointer (some ⟨b, 0, none⟩), .pointer (some ⟨n, 0, none⟩)] w (FillK Nq b n B s tw lo σ w0) := by
  have hsm : s.size ≤ maxLen := by unfold maxLen; omega
  go_enter Tryz.func30, Tryz.ntmps30
  go_upto_if 11 with (first
    | (go_at_call 15; refine (space_wk b s tw lo σ _ h.r hsm ha).mono ?_; rintro e w1 ⟨σ1, rfl, hR1, hM1, l1, l1'⟩; have h1 := h.mv hR1 hM1 l1)
    | (go_at_call 29; refine (see_wk b s tw lo σ1 _ hR1 hsm l1').mono ?_; rintro e w2 ⟨X, rfl, hR2, hM2, hX⟩; have h2 := h1.mv hR2 hM2 (Nat.le_refl _)))
  cases hx : (X == 125)
  case true =>
    have hlt := hX (by have := of_decide_eq_true hx; omega)
    obtain ⟨c0, c1, c2, c3, c4, c5, f1, f4, f5⟩ := hR2.cells
    have hl63 : (σ1.at_ : Int) < 9223372036854775807 := by omega
    go_wp2_with fail
    all_goals go_ret
    exact ⟨_, _, σ1.at_, rfl, h2.mv (hR2.setAt (σ1.at_ + 1)) ((Mv.refl _ _).setCell _ _) (Nat.le_refl _), by simp; omega, by simp; omega⟩
  clear hX hx h h1 hR1 hM1 hM2 hR2
  go_wp2_with fail
  go_loopg [] s.size (fun g wx => ∃ σ', RB Nq b n B σ'.at_ s tw lo σ' w0 wx ∧ s.size - σ'.at_ ≤ g ∧ σ.at_ ≤ σ'.at_ ∧ σ'.at_ ≤ s.size)
  case atStart => exact ⟨σ1, h2, by omega, l1, l1'⟩
  case round =>
    clear h2 l1 l1'
    obtain ⟨σ', hB, hg, l0, l0'⟩ := hrel
    go_upto_if 22 with (go_at_call 53; refine (name_wk Nq b n B s tw lo σ' w0 wr hB hs l0' hQ (fun h => hag h B)).mono ?_; rintro e w2 ⟨r2, σn, Mn, rfl, h2n, ln, ln', lM⟩)
    cases r2
    case false =>
      go_wp2_with fail
      all_goals go_ret
      exact ⟨_, σn, Mn, rfl, h2n, by omega, ln'⟩
    have h3' := h2n.mv h2n.r (Mv.refl _ _) (lM rfl)
    go_upto_if 29 with (go_at_call 14; refine (ih σn (by omega) ln' w2 h3'.r).mono ?_; rintro e w3 ⟨k, t, na, nl, nc, ka, kl, kc, r, σ2, rfl, hR3, hM3, l2, l2', _⟩; have h3 := h3'.mv hR3 hM3 l2)
    cases r
    case false =>
      go_wp2_with fail
      all_goals go_ret
      exact ⟨_, σ2, σ2.at_, rfl, h3.alloc _, by omega, l2'⟩
    go_upto_region 10 with fail
    have h4 := h3.alloc (.cells #[.int .u8 k, .string t, .slice na nl nc, .slice ka kl kc] 25)
    have hk4 : NodeB (w3.alloc (.cells #[.int .u8 k, .string t, .slice na nl nc, .slice ka kl kc] 25)) w3.heap.size k t (.slice na nl nc) (.slice ka kl kc) := ⟨_, heap_alloc_new _ _⟩
    have hp5 := h3.hB
    clear h3 h3' hB hR3 hM3 h2n
    revert h4 hk4 hp5
    generalize w3.alloc (.cells #[.int .u8 k, .string t, .slice na nl nc, .slice ka kl kc] 25) = w4
    generalize w3.heap.size = p5
    intro h4 hk4 hp5
    go_cut [] from 30 to 40 (fun wx => RB Nq b n B (σ2.at_ + 1) s tw lo σ2 w0 wx)
    case first =>
      obtain ⟨k0, t0, nm, kd, m1, m2, xs, ys, hK, e1, e2, e3⟩ := h4
      obtain ⟨ao, cp, rfl⟩ := own_slice hK.o2
      have K5 := hK.drew
      have N5 : NodeB w4.drew p5 k t (.slice na nl nc) (.slice ka kl kc) := hk4
      clear hK hk4
      refine wp_region_any (by kernel_rfl) ?_
      try (change wpAny _ _ _ _ _ _ _ (World.drew _))
      generalize w4.drew = w5 at K5 N5 ⊢
      have K6 := K5.alloc (.cells #[.int .u8 0, .string ⟨#[]⟩, .slice none 0 0, .slice none 0 0] 25)
      have N6 := N5.other (Below.heap_alloc w5 (.cells #[.int .u8 0, .string ⟨#[]⟩, .slice none 0 0, .slice none 0 0] 25) p5 N5.lt)
      have HN : ∀ (j : Nat) (u : Value), ([.int .u8 0, .string ⟨#[]⟩, .slice none 0 0, .slice none 0 0] : List Value)[j]? = some u → (w5.alloc (.cells #[.int .u8 0, .string ⟨#[]⟩, .slice none 0 0, .slice none 0 0] 25)).cell? ((⟨w5.heap.size, 0, none⟩ : Addr).add j) = some u := by
        intro j u hu
        have := heap_alloc_new w5 (.cells #[.int .u8 0, .string ⟨#[]⟩, .slice none 0 0, .slice none 0 0] 25)
        rw [show ((⟨w5.heap.size, 0, none⟩ : Addr).add j) = ⟨w5.heap.size, j, none⟩ from by unfold Addr.add; split <;> simp_all]
        simp only [World.cell?, this]
        simpa using hu
      obtain ⟨i0, hi0, hz⟩ := Option.map_eq_some_iff.1 infoN
      obtain ⟨hz0, hz1, hz2⟩ : i0.zero = some (.agg #[.int .u8 0, .string ⟨#[]⟩, .slice none 0 0, .slice none 0 0]) ∧ i0.size = 4 ∧ i0.bytes = 72 := by injection hz with x y; injection y with y z; exact ⟨x, y, z⟩
      clear hz
      obtain ⟨a0, a1, a2, a3, fa0, fa1, fa2, fa3⟩ := K5.node.cells
      obtain ⟨b0, b1, b2, b3, fb0, fb1, fb2, fb3⟩ := N5.cells
      obtain ⟨c0, c1, c2, c3, fc0, fc1, fc2, fc3⟩ := K6.node.cells
      obtain ⟨d0, d1, d2, d3, fd0, fd1, fd2, fd3⟩ := N6.cells
      refine wpAny_take (i := 0) (v := ?_) rfl (by kernel_rfl) (by kernel_rfl) (by kernel_rfl) (fun _ _ _ h => h) (Or.inl ⟨by rfl, ?_⟩) ?_
      rotate_left
      · intro wx; go_simp; try with_reducible rfl
      rotate_left
      refine wpAny_take (i := 1) (v := ?_) rfl (by kernel_rfl) (by kernel_rfl) (by kernel_rfl) (fun _ _ _ h => h) (Or.inl ⟨by rfl, ?_⟩) ?_
      rotate_left
      · intro wx; go_simp; try with_reducible rfl
      rotate_left
      refine wpAny_take (i := 2) (v := ?_) rfl (by kernel_rfl) (by kernel_rfl) (by kernel_rfl) (fun _ _ _ h => h) (Or.inl ⟨by rfl, ?_⟩) ?_
      rotate_left
      · intro wx; go_simp; try with_reducible rfl
      rotate_left
      simp only [List.getElem_toArray, List.getElem_cons_succ, List.getElem_cons_zero, Act.put, List.setIfInBounds_toArray, List.set_cons_succ, List.set_cons_zero]
      refine wpAny_all (rs := [3, 4, 6]) (by kernel_rfl) (by decide) ?_
      intro i hi
      simp only [List.mem_cons, List.not_mem_nil, or_false] at hi
      rcases hi with rfl | rfl | rfl
      · refine wpOp_val (v := .slice ao m2 cp) (w' := w5) rfl (by rfl) (by go_simp) ?_
        refine wpAny_take (i := 5) (v := ?_) rfl (by kernel_rfl) (by kernel_rfl) (by kernel_rfl) (fun _ _ _ h => h) (Or.inl ⟨by rfl, ?_⟩) ?_
        rotate_left
        · intro wx; go_simp; try with_reducible rfl
        rotate_left
        refine wpAny_all (rs := [4, 6]) (by kernel_rfl) (by decide) ?_
        intro i hi
        simp only [List.mem_cons, List.not_mem_nil, or_false] at hi
        rcases hi with rfl | rfl
        · refine wpOp_val (v := .agg #[.int .u8 k, .string t, .slice na nl nc, .slice ka kl kc]) (w' := w5) rfl (by rfl) (by go_simp) ?_
          refine wpAny_all (rs := [6]) (by kernel_rfl) (by decide) ?_
          intro i hi
          simp only [List.mem_cons, List.not_mem_nil, or_false] at hi
          subst hi
          refine wpOp_val (v := .slice (some ⟨w5.heap.size, 0, none⟩) 1 1) (w' := w5.alloc (.cells #[.int .u8 0, .string ⟨#[]⟩, .slice none 0 0, .slice none 0 0] 25)) rfl (by rfl) (by go_simp) ?_
          refine wpAny_all (rs := [7]) (by kernel_rfl) (by decide) ?_
          intro i hi
          simp only [List.mem_cons, List.not_mem_nil, or_false] at hi
          subst hi
          refine wpOp_of (i := 7) rfl (by rfl) ?_
          refine wp_append_own _ (.tmp 33) (.tmp 36) 23 rfl B 25 i0 _ 4 72 Tryz.underlying23 hi0 hz0 hz1 hz2 rfl (by decide) (.slice ao m2 cp) m2 ys rfl K6.o2 ⟨w5.heap.size, 0, none⟩ 1 1 [.int .u8 0, .string ⟨#[]⟩, .slice none 0 0, .slice none 0 0] rfl rfl HN (by simp [Value.oneCell']) (by unfold maxLen; omega) (by omega) K6.hB ?_
          intro kd' w7 ho hg _
          obtain ⟨g, cp', rfl⟩ := own_some ho (by omega)
          have K7 := K6.appK ho hg
          obtain ⟨m0, m1', m2', m3, fm0, fm1, fm2, fm3⟩ := K7.node.cells
          have hfz := World.ownsRow.frozenAt ho
          have hlz := own_len ho
          have hyl := K6.o2.1
          have z0 : w7.cell? ⟨g, m2 * 4, none⟩ = some (.int .u8 0) := by rw [World.ownsRow.cellAt ho _ (by omega), List.getElem?_append_right (by omega), hyl, Nat.sub_self]; rfl
          have z1 : w7.cell? ⟨g, m2 * 4 + 1, none⟩ = some (.string ⟨#[]⟩) := by rw [World.ownsRow.cellAt ho _ (by omega), List.getElem?_append_right (by omega), hyl, Nat.add_sub_cancel_left]; rfl
          have z2 : w7.cell? ⟨g, m2 * 4 + 2, none⟩ = some (.slice none 0 0) := by rw [World.ownsRow.cellAt ho _ (by omega), List.getElem?_append_right (by omega), hyl, Nat.add_sub_cancel_left]; rfl
          have z3 : w7.cell? ⟨g, m2 * 4 + 3, none⟩ = some (.slice none 0 0) := by rw [World.ownsRow.cellAt ho _ (by omega), List.getElem?_append_right (by omega), hyl, Nat.add_sub_cancel_left]; rfl
          have hgB : B ≤ g := (ho.lt g rfl).1
          have hgn : g ≠ n := by have := K7.hn; omega
          simp only [List.getElem_toArray, List.getElem_cons_succ, List.getElem_cons_zero, Act.put, List.setIfInBounds_toArray, List.set_cons_succ, List.set_cons_zero]
          refine wpAny_take (i := 8) (v := ?_) rfl (by kernel_rfl) (by kernel_rfl) (by kernel_rfl) (fun _ _ _ h => h) (Or.inl ⟨by rfl, ?_⟩) ?_
          rotate_left
          · intro wx; go_simp; rw [if_pos (by omega)]; try with_reducible rfl
          rotate_left
          refine wpAny_take (i := 10) (v := ?_) rfl (by kernel_rfl) (by kernel_rfl) (by kernel_rfl) (fun _ _ _ h => h) (Or.inl ⟨by rfl, ?_⟩) ?_
          rotate_left
          · intro wx; go_simp; try with_reducible rfl
          rotate_left
          refine wpAny_take (i := 11) (v := ?_) rfl (by kernel_rfl) (by kernel_rfl) (by kernel_rfl) (fun _ _ _ h => h) (Or.inl ⟨by rfl, ?_⟩) ?_
          rotate_left
          · intro wx; go_simp; try with_reducible rfl
          rotate_left
          simp only [List.getElem_toArray, List.getElem_cons_succ, List.getElem_cons_zero, Act.put, List.setIfInBounds_toArray, List.set_cons_succ, List.set_cons_zero]
          refine wpAny_two (i := 9) (j := 12) rfl rfl (by kernel_rfl) (by kernel_rfl) (by kernel_rfl) ?_ ?_
          · go_wp2_with fail
            go_meet
            exact ⟨⟨k0, t0, nm, _, m1, m2 + 1, xs, _, ((((K7.row (m2 * 4) _).row (m2 * 4 + 1) _).row (m2 * 4 + 2) _).row (m2 * 4 + 3) _).kids _, by omega, by omega, e3⟩⟩
          · go_wp2_with fail
            go_meet
            exact ⟨⟨k0, t0, nm, _, m1, m2 + 1, xs, _, ((((K7.kids _).row (m2 * 4) _).row (m2 * 4 + 1) _).row (m2 * 4 + 2) _).row (m2 * 4 + 3) _, by omega, by omega, e3⟩⟩
        · refine wpOp_val (v := .slice (some ⟨w5.heap.size, 0, none⟩) 1 1) (w' := w5.alloc (.cells #[.int .u8 0, .string ⟨#[]⟩, .slice none 0 0, .slice none 0 0] 25)) rfl (by rfl) (by go_simp) ?_
          refine wpAny_all (rs := [4]) (by kernel_rfl) (by decide) ?_
          intro i hi
          simp only [List.mem_cons, List.not_mem_nil, or_false] at hi
          subst hi
          refine wpOp_val (v := .agg #[.int .u8 k, .string t, .slice na nl nc, .slice ka kl kc]) (w' := (w5.alloc (.cells #[.int .u8 0, .string ⟨#[]⟩, .slice none 0 0, .slice none 0 0] 25))) rfl (by rfl) (by go_simp) ?_
          refine wpAny_all (rs := [7]) (by kernel_rfl) (by decide) ?_
          intro i hi
          simp only [List.mem_cons, List.not_mem_nil, or_false] at hi
          subst hi
          refine wpOp_of (i := 7) rfl (by rfl) ?_
          refine wp_append_own _ (.tmp 33) (.tmp 36) 23 rfl B 25 i0 _ 4 72 Tryz.underlying23 hi0 hz0 hz1 hz2 rfl (by decide) (.slice ao m2 cp) m2 ys rfl K6.o2 ⟨w5.heap.size, 0, none⟩ 1 1 [.int .u8 0, .string ⟨#[]⟩, .slice none 0 0, .slice none 0 0] rfl rfl HN (by simp [Value.oneCell']) (by unfold maxLen; omega) (by omega) K6.hB ?_
          intro kd' w7 ho hg _
          obtain ⟨g, cp', rfl⟩ := own_some ho (by omega)
          have K7 := K6.appK ho hg
          obtain ⟨m0, m1', m2', m3, fm0, fm1, fm2, fm3⟩ := K7.node.cells
          have hfz := World.ownsRow.frozenAt ho
          have hlz := own_len ho
          have hyl := K6.o2.1
          have z0 : w7.cell? ⟨g, m2 * 4, none⟩ = some (.int .u8 0) := by rw [World.ownsRow.cellAt ho _ (by omega), List.getElem?_append_right (by omega), hyl, Nat.sub_self]; rfl
          have z1 : w7.cell? ⟨g, m2 * 4 + 1, none⟩ = some (.string ⟨#[]⟩) := by rw [World.ownsRow.cellAt ho _ (by omega), List.getElem?_append_right (by omega), hyl, Nat.add_sub_cancel_left]; rfl
          have z2 : w7.cell? ⟨g, m2 * 4 + 2, none⟩ = some (.slice none 0 0) := by rw [World.ownsRow.cellAt ho _ (by omega), List.getElem?_append_right (by omega), hyl, Nat.add_sub_cancel_left]; rfl
          have z3 : w7.cell? ⟨g, m2 * 4 + 3, none⟩ = some (.slice none 0 0) := by rw [World.ownsRow.cellAt ho _ (by omega), List.getElem?_append_right (by omega), hyl, Nat.add_sub_cancel_left]; rfl
          have hgB : B ≤ g := (ho.lt g rfl).1
          have hgn : g ≠ n := by have := K7.hn; omega
          simp only [List.getElem_toArray, List.getElem_cons_succ, List.getElem_cons_zero, Act.put, List.setIfInBounds_toArray, List.set_cons_succ, List.set_cons_zero]
          refine wpAny_take (i := 8) (v := ?_) rfl (by kernel_rfl) (by kernel_rfl) (by kernel_rfl) (fun _ _ _ h => h) (Or.inl ⟨by rfl, ?_⟩) ?_
          rotate_left
          · intro wx; go_simp; rw [if_pos (by omega)]; try with_reducible rfl
          rotate_left
          refine wpAny_take (i := 10) (v := ?_) rfl (by kernel_rfl) (by kernel_rfl) (by kernel_rfl) (fun _ _ _ h => h) (Or.inl ⟨by rfl, ?_⟩) ?_
          rotate_left
          · intro wx; go_simp; try with_reducible rfl
          rotate_left
          refine wpAny_take (i := 11) (v := ?_) rfl (by kernel_rfl) (by kernel_rfl) (by kernel_rfl) (fun _ _ _ h => h) (Or.inl ⟨by rfl, ?_⟩) ?_
          rotate_left
          · intro wx; go_simp; try with_reducible rfl
          rotate_left
          simp only [List.getElem_toArray, List.getElem_cons_succ, List.getElem_cons_zero, Act.put, List.setIfInBounds_toArray, List.set_cons_succ, List.set_cons_zero]
          refine wpAny_two (i := 9) (j := 12) rfl rfl (by kernel_rfl) (by kernel_rfl) (by kernel_rfl) ?_ ?_
          · go_wp2_with fail
            go_meet
            exact ⟨⟨k0, t0, nm, _, m1, m2 + 1, xs, _, ((((K7.row (m2 * 4) _).row (m2 * 4 + 1) _).row (m2 * 4 + 2) _).row (m2 * 4 + 3) _).kids _, by omega, by omega, e3⟩⟩
          · go_wp2_with fail
            go_meet
            exact ⟨⟨k0, t0, nm, _, m1, m2 + 1, xs, _, ((((K7.kids _).row (m2 * 4) _).row (m2 * 4 + 1) _).row (m2 * 4 + 2) _).row (m2 * 4 + 3) _, by omega, by omega, e3⟩⟩
      · refine wpOp_val (v := .agg #[.int .u8 k, .string t, .slice na nl nc, .slice ka kl kc]) (w' := w5) rfl (by rfl) (by go_simp) ?_
        refine wpAny_all (rs := [3, 6]) (by kernel_rfl) (by decide) ?_
        intro i hi
        simp only [List.mem_cons, List.not_mem_nil, or_false] at hi
        rcases hi with rfl | rfl
        · refine wpOp_val (v := .slice ao m2 cp) (w' := w5) rfl (by rfl) (by go_simp) ?_
          refine wpAny_take (i := 5) (v := ?_) rfl (by kernel_rfl) (by kernel_rfl) (by kernel_rfl) (fun _ _ _ h => h) (Or.inl ⟨by rfl, ?_⟩) ?_
          rotate_left
          · intro wx; go_simp; try with_reducible rfl
          rotate_left
          refine wpAny_all (rs := [6]) (by kernel_rfl) (by decide) ?_
          intro i hi
          simp only [List.mem_cons, List.not_mem_nil, or_false] at hi
          subst hi
          refine wpOp_val (v := .slice (some ⟨w5.heap.size, 0, none⟩) 1 1) (w' := w5.alloc (.cells #[.int .u8 0, .string ⟨#[]⟩, .slice none 0 0, .slice none 0 0] 25)) rfl (by rfl) (by go_simp) ?_
          refine wpAny_all (rs := [7]) (by kernel_rfl) (by decide) ?_
          intro i hi
          simp only [List.mem_cons, List.not_mem_nil, or_false] at hi
          subst hi
          refine wpOp_of (i := 7) rfl (by rfl) ?_
          refine wp_append_own _ (.tmp 33) (.tmp 36) 23 rfl B 25 i0 _ 4 72 Tryz.underlying23 hi0 hz0 hz1 hz2 rfl (by decide) (.slice ao m2 cp) m2 ys rfl K6.o2 ⟨w5.heap.size, 0, none⟩ 1 1 [.int .u8 0, .string ⟨#[]⟩, .slice none 0 0, .slice none 0 0] rfl rfl HN (by simp [Value.oneCell']) (by unfold maxLen; omega) (by omega) K6.hB ?_
          intro kd' w7 ho hg _
          obtain ⟨g, cp', rfl⟩ := own_some ho (by omega)
          have K7 := K6.appK ho hg
          obtain ⟨m0, m1', m2', m3, fm0, fm1, fm2, fm3⟩ := K7.node.cells
          have hfz := World.ownsRow.frozenAt ho
          have hlz := own_len ho
          have hyl := K6.o2.1
          have z0 : w7.cell? ⟨g, m2 * 4, none⟩ = some (.int .u8 0) := by rw [World.ownsRow.cellAt ho _ (by omega), List.getElem?_append_right (by omega), hyl, Nat.sub_self]; rfl
          have z1 : w7.cell? ⟨g, m2 * 4 + 1, none⟩ = some (.string ⟨#[]⟩) := by rw [World.ownsRow.cellAt ho _ (by omega), List.getElem?_append_right (by omega), hyl, Nat.add_sub_cancel_left]; rfl
          have z2 : w7.cell? ⟨g, m2 * 4 + 2, none⟩ = some (.slice none 0 0) := by rw [World.ownsRow.cellAt ho _ (by omega), List.getElem?_append_right (by omega), hyl, Nat.add_sub_cancel_left]; rfl
          have z3 : w7.cell? ⟨g, m2 * 4 + 3, none⟩ = some (.slice none 0 0) := by rw [World.ownsRow.cellAt ho _ (by omega), List.getElem?_append_right (by omega), hyl, Nat.add_sub_cancel_left]; rfl
          have hgB : B ≤ g := (ho.lt g rfl).1
          have hgn : g ≠ n := by have := K7.hn; omega
          simp only [List.getElem_toArray, List.getElem_cons_succ, List.getElem_cons_zero, Act.put, List.setIfInBounds_toArray, List.set_cons_succ, List.set_cons_zero]
          refine wpAny_take (i := 8) (v := ?_) rfl (by kernel_rfl) (by kernel_rfl) (by kernel_rfl) (fun _ _ _ h => h) (Or.inl ⟨by rfl, ?_⟩) ?_
          rotate_left
          · intro wx; go_simp; rw [if_pos (by omega)]; try with_reducible rfl
          rotate_left
          refine wpAny_take (i := 10) (v := ?_) rfl (by kernel_rfl) (by kernel_rfl) (by kernel_rfl) (fun _ _ _ h => h) (Or.inl ⟨by rfl, ?_⟩) ?_
          rotate_left
          · intro wx; go_simp; try with_reducible rfl
          rotate_left
          refine wpAny_take (i := 11) (v := ?_) rfl (by kernel_rfl) (by kernel_rfl) (by kernel_rfl) (fun _ _ _ h => h) (Or.inl ⟨by rfl, ?_⟩) ?_
          rotate_left
          · intro wx; go_simp; try with_reducible rfl
          rotate_left
          simp only [List.getElem_toArray, List.getElem_cons_succ, List.getElem_cons_zero, Act.put, List.setIfInBounds_toArray, List.set_cons_succ, List.set_cons_zero]
          refine wpAny_two (i := 9) (j := 12) rfl rfl (by kernel_rfl) (by kernel_rfl) (by kernel_rfl) ?_ ?_
          · go_wp2_with fail
            go_meet
            exact ⟨⟨k0, t0, nm, _, m1, m2 + 1, xs, _, ((((K7.row (m2 * 4) _).row (m2 * 4 + 1) _).row (m2 * 4 + 2) _).row (m2 * 4 + 3) _).kids _, by omega, by omega, e3⟩⟩
          · go_wp2_with fail
            go_meet
            exact ⟨⟨k0, t0, nm, _, m1, m2 + 1, xs, _, ((((K7.kids _).row (m2 * 4) _).row (m2 * 4 + 1) _).row (m2 * 4 + 2) _).row (m2 * 4 + 3) _, by omega, by omega, e3⟩⟩
        · refine wpOp_val (v := .slice (some ⟨w5.heap.size, 0, none⟩) 1 1) (w' := w5.alloc (.cells #[.int .u8 0, .string ⟨#[]⟩, .slice none 0 0, .slice none 0 0] 25)) rfl (by rfl) (by go_simp) ?_
          refine wpAny_all (rs := [3]) (by kernel_rfl) (by decide) ?_
          intro i hi
          simp only [List.mem_cons, List.not_mem_nil, or_false] at hi
          subst hi
          refine wpOp_val (v := .slice ao m2 cp) (w' := (w5.alloc (.cells #[.int .u8 0, .string ⟨#[]⟩, .slice none 0 0, .slice none 0 0] 25))) rfl (by rfl) (by go_simp) ?_
          refine wpAny_take (i := 5) (v := ?_) rfl (by kernel_rfl) (by kernel_rfl) (by kernel_rfl) (fun _ _ _ h => h) (Or.inl ⟨by rfl, ?_⟩) ?_
          rotate_left
          · intro wx; go_simp; try with_reducible rfl
          rotate_left
          refine wpAny_all (rs := [7]) (by kernel_rfl) (by decide) ?_
          intro i hi
          simp only [List.mem_cons, List.not_mem_nil, or_false] at hi
          subst hi
          refine wpOp_of (i := 7) rfl (by rfl) ?_
          refine wp_append_own _ (.tmp 33) (.tmp 36) 23 rfl B 25 i0 _ 4 72 Tryz.underlying23 hi0 hz0 hz1 hz2 rfl (by decide) (.slice ao m2 cp) m2 ys rfl K6.o2 ⟨w5.heap.size, 0, none⟩ 1 1 [.int .u8 0, .string ⟨#[]⟩, .slice none 0 0, .slice none 0 0] rfl rfl HN (by simp [Value.oneCell']) (by unfold maxLen; omega) (by omega) K6.hB ?_
          intro kd' w7 ho hg _
          obtain ⟨g, cp', rfl⟩ := own_some ho (by omega)
          have K7 := K6.appK ho hg
          obtain ⟨m0, m1', m2', m3, fm0, fm1, fm2, fm3⟩ := K7.node.cells
          have hfz := World.ownsRow.frozenAt ho
          have hlz := own_len ho
          have hyl := K6.o2.1
          have z0 : w7.cell? ⟨g, m2 * 4, none⟩ = some (.int .u8 0) := by rw [World.ownsRow.cellAt ho _ (by omega), List.getElem?_append_right (by omega), hyl, Nat.sub_self]; rfl
          have z1 : w7.cell? ⟨g, m2 * 4 + 1, none⟩ = some (.string ⟨#[]⟩) := by rw [World.ownsRow.cellAt ho _ (by omega), List.getElem?_append_right (by omega), hyl, Nat.add_sub_cancel_left]; rfl
          have z2 : w7.cell? ⟨g, m2 * 4 + 2, none⟩ = some (.slice none 0 0) := by rw [World.ownsRow.cellAt ho _ (by omega), List.getElem?_append_right (by omega), hyl, Nat.add_sub_cancel_left]; rfl
          have z3 : w7.cell? ⟨g, m2 * 4 + 3, none⟩ = some (.slice none 0 0) := by rw [World.ownsRow.cellAt ho _ (by omega), List.getElem?_append_right (by omega), hyl, Nat.add_sub_cancel_left]; rfl
          have hgB : B ≤ g := (ho.lt g rfl).1
          have hgn : g ≠ n := by have := K7.hn; omega
          simp only [List.getElem_toArray, List.getElem_cons_succ, List.getElem_cons_zero, Act.put, List.setIfInBounds_toArray, List.set_cons_succ, List.set_cons_zero]
          refine wpAny_take (i := 8) (v := ?_) rfl (by kernel_rfl) (by kernel_rfl) (by kernel_rfl) (fun _ _ _ h => h) (Or.inl ⟨by rfl, ?_⟩) ?_
          rotate_left
          · intro wx; go_simp; rw [if_pos (by omega)]; try with_reducible rfl
          rotate_left
          refine wpAny_take (i := 10) (v := ?_) rfl (by kernel_rfl) (by kernel_rfl) (by kernel_rfl) (fun _ _ _ h => h) (Or.inl ⟨by rfl, ?_⟩) ?_
          rotate_left
          · intro wx; go_simp; try with_reducible rfl
          rotate_left
          refine wpAny_take (i := 11) (v := ?_) rfl (by kernel_rfl) (by kernel_rfl) (by kernel_rfl) (fun _ _ _ h => h) (Or.inl ⟨by rfl, ?_⟩) ?_
          rotate_left
          · intro wx; go_simp; try with_reducible rfl
          rotate_left
          simp only [List.getElem_toArray, List.getElem_cons_succ, List.getElem_cons_zero, Act.put, List.setIfInBounds_toArray, List.set_cons_succ, List.set_cons_zero]
          refine wpAny_two (i := 9) (j := 12) rfl rfl (by kernel_rfl) (by kernel_rfl) (by kernel_rfl) ?_ ?_
          · go_wp2_with fail
            go_meet
            exact ⟨⟨k0, t0, nm, _, m1, m2 + 1, xs, _, ((((K7.row (m2 * 4) _).row (m2 * 4 + 1) _).row (m2 * 4 + 2) _).row (m2 * 4 + 3) _).kids _, by omega, by omega, e3⟩⟩
          · go_wp2_with fail
            go_meet
            exact ⟨⟨k0, t0, nm, _, m1, m2 + 1, xs, _, ((((K7.kids _).row (m2 * 4) _).row (m2 * 4 + 1) _).row (m2 * 4 + 2) _).row (m2 * 4 + 3) _, by omega, by omega, e3⟩⟩
      · refine wpOp_val (v := .slice (some ⟨w5.heap.size, 0, none⟩) 1 1) (w' := w5.alloc (.cells #[.int .u8 0, .string ⟨#[]⟩, .slice none 0 0, .slice none 0 0] 25)) rfl (by rfl) (by go_simp) ?_
        refine wpAny_all (rs := [3, 4]) (by kernel_rfl) (by decide) ?_
        intro i hi
        simp only [List.mem_cons, List.not_mem_nil, or_false] at hi
        rcases hi with rfl | rfl
        · refine wpOp_val (v := .slice ao m2 cp) (w' := (w5.alloc (.cells #[.int .u8 0, .string ⟨#[]⟩, .slice none 0 0, .slice none 0 0] 25))) rfl (by rfl) (by go_simp) ?_
          refine wpAny_take (i := 5) (v := ?_) rfl (by kernel_rfl) (by kernel_rfl) (by kernel_rfl) (fun _ _ _ h => h) (Or.inl ⟨by rfl, ?_⟩) ?_
          rotate_left
          · intro wx; go_simp; try with_reducible rfl
          rotate_left
          refine wpAny_all (rs := [4]) (by kernel_rfl) (by decide) ?_
          intro i hi
          simp only [List.mem_cons, List.not_mem_nil, or_false] at hi
          subst hi
          refine wpOp_val (v := .agg #[.int .u8 k, .string t, .slice na nl nc, .slice ka kl kc]) (w' := (w5.alloc (.cells #[.int .u8 0, .string ⟨#[]⟩, .slice none 0 0, .slice none 0 0] 25))) rfl (by rfl) (by go_simp) ?_
          refine wpAny_all (rs := [7]) (by kernel_rfl) (by decide) ?_
          intro i hi
          simp only [List.mem_cons, List.not_mem_nil, or_false] at hi
          subst hi
          refine wpOp_of (i := 7) rfl (by rfl) ?_
          refine wp_append_own _ (.tmp 33) (.tmp 36) 23 rfl B 25 i0 _ 4 72 Tryz.underlying23 hi0 hz0 hz1 hz2 rfl (by decide) (.slice ao m2 cp) m2 ys rfl K6.o2 ⟨w5.heap.size, 0, none⟩ 1 1 [.int .u8 0, .string ⟨#[]⟩, .slice none 0 0, .slice none 0 0] rfl rfl HN (by simp [Value.oneCell']) (by unfold maxLen; omega) (by omega) K6.hB ?_
          intro kd' w7 ho hg _
          obtain ⟨g, cp', rfl⟩ := own_some ho (by omega)
          have K7 := K6.appK ho hg
          obtain ⟨m0, m1', m2', m3, fm0, fm1, fm2, fm3⟩ := K7.node.cells
          have hfz := World.ownsRow.frozenAt ho
          have hlz := own_len ho
          have hyl := K6.o2.1
          have z0 : w7.cell? ⟨g, m2 * 4, none⟩ = some (.int .u8 0) := by rw [World.ownsRow.cellAt ho _ (by omega), List.getElem?_append_right (by omega), hyl, Nat.sub_self]; rfl
          have z1 : w7.cell? ⟨g, m2 * 4 + 1, none⟩ = some (.string ⟨#[]⟩) := by rw [World.ownsRow.cellAt ho _ (by omega), List.getElem?_append_right (by omega), hyl, Nat.add_sub_cancel_left]; rfl
          have z2 : w7.cell? ⟨g, m2 * 4 + 2, none⟩ = some (.slice none 0 0) := by rw [World.ownsRow.cellAt ho _ (by omega), List.getElem?_append_right (by omega), hyl, Nat.add_sub_cancel_left]; rfl
          have z3 : w7.cell? ⟨g, m2 * 4 + 3, none⟩ = some (.slice none 0 0) := by rw [World.ownsRow.cellAt ho _ (by omega), List.getElem?_append_right (by omega), hyl, Nat.add_sub_cancel_left]; rfl
          have hgB : B ≤ g := (ho.lt g rfl).1
          have hgn : g ≠ n := by have := K7.hn; omega
          simp only [List.getElem_toArray, List.getElem_cons_succ, List.getElem_cons_zero, Act.put, List.setIfInBounds_toArray, List.set_cons_succ, List.set_cons_zero]
          refine wpAny_take (i := 8) (v := ?_) rfl (by kernel_rfl) (by kernel_rfl) (by kernel_rfl) (fun _ _ _ h => h) (Or.inl ⟨by rfl, ?_⟩) ?_
          rotate_left
          · intro wx; go_simp; rw [if_pos (by omega)]; try with_reducible rfl
          rotate_left
          refine wpAny_take (i := 10) (v := ?_) rfl (by kernel_rfl) (by kernel_rfl) (by kernel_rfl) (fun _ _ _ h => h) (Or.inl ⟨by rfl, ?_⟩) ?_
          rotate_left
          · intro wx; go_simp; try with_reducible rfl
          rotate_left
          refine wpAny_take (i := 11) (v := ?_) rfl (by kernel_rfl) (by kernel_rfl) (by kernel_rfl) (fun _ _ _ h => h) (Or.inl ⟨by rfl, ?_⟩) ?_
          rotate_left
          · intro wx; go_simp; try with_reducible rfl
          rotate_left
          simp only [List.getElem_toArray, List.getElem_cons_succ, List.getElem_cons_zero, Act.put, List.setIfInBounds_toArray, List.set_cons_succ, List.set_cons_zero]
          refine wpAny_two (i := 9) (j := 12) rfl rfl (by kernel_rfl) (by kernel_rfl) (by kernel_rfl) ?_ ?_
          · go_wp2_with fail
            go_meet
            exact ⟨⟨k0, t0, nm, _, m1, m2 + 1, xs, _, ((((K7.row (m2 * 4) _).row (m2 * 4 + 1) _).row (m2 * 4 + 2) _).row (m2 * 4 + 3) _).kids _, by omega, by omega, e3⟩⟩
          · go_wp2_with fail
            go_meet
            exact ⟨⟨k0, t0, nm, _, m1, m2 + 1, xs, _, ((((K7.kids _).row (m2 * 4) _).row (m2 * 4 + 1) _).row (m2 * 4 + 2) _).row (m2 * 4 + 3) _, by omega, by omega, e3⟩⟩
        · refine wpOp_val (v := .agg #[.int .u8 k, .string t, .slice na nl nc, .slice ka kl kc]) (w' := (w5.alloc (.cells #[.int .u8 0, .string ⟨#[]⟩, .slice none 0 0, .slice none 0 0] 25))) rfl (by rfl) (by go_simp) ?_
          refine wpAny_all (rs := [3]) (by kernel_rfl) (by decide) ?_
          intro i hi
          simp only [List.mem_cons, List.not_mem_nil, or_false] at hi
          subst hi
          refine wpOp_val (v := .slice ao m2 cp) (w' := (w5.alloc (.cells #[.int .u8 0, .string ⟨#[]⟩, .slice none 0 0, .slice none 0 0] 25))) rfl (by rfl) (by go_simp) ?_
          refine wpAny_take (i := 5) (v := ?_) rfl (by kernel_rfl) (by kernel_rfl) (by kernel_rfl) (fun _ _ _ h => h) (Or.inl ⟨by rfl, ?_⟩) ?_
          rotate_left
          · intro wx; go_simp; try with_reducible rfl
          rotate_left
          refine wpAny_all (rs := [7]) (by kernel_rfl) (by decide) ?_
          intro i hi
          simp only [List.mem_cons, List.not_mem_nil, or_false] at hi
          subst hi
          refine wpOp_of (i := 7) rfl (by rfl) ?_
          refine wp_append_own _ (.tmp 33) (.tmp 36) 23 rfl B 25 i0 _ 4 72 Tryz.underlying23 hi0 hz0 hz1 hz2 rfl (by decide) (.slice ao m2 cp) m2 ys rfl K6.o2 ⟨w5.heap.size, 0, none⟩ 1 1 [.int .u8 0, .string ⟨#[]⟩, .slice none 0 0, .slice none 0 0] rfl rfl HN (by simp [Value.oneCell']) (by unfold maxLen; omega) (by omega) K6.hB ?_
          intro kd' w7 ho hg _
          obtain ⟨g, cp', rfl⟩ := own_some ho (by omega)
          have K7 := K6.appK ho hg
          obtain ⟨m0, m1', m2', m3, fm0, fm1, fm2, fm3⟩ := K7.node.cells
          have hfz := World.ownsRow.frozenAt ho
          have hlz := own_len ho
          have hyl := K6.o2.1
          have z0 : w7.cell? ⟨g, m2 * 4, none⟩ = some (.int .u8 0) := by rw [World.ownsRow.cellAt ho _ (by omega), List.getElem?_append_right (by omega), hyl, Nat.sub_self]; rfl
          have z1 : w7.cell? ⟨g, m2 * 4 + 1, none⟩ = some (.string ⟨#[]⟩) := by rw [World.ownsRow.cellAt ho _ (by omega), List.getElem?_append_right (by omega), hyl, Nat.add_sub_cancel_left]; rfl
          have z2 : w7.cell? ⟨g, m2 * 4 + 2, none⟩ = some (.slice none 0 0) := by rw [World.ownsRow.cellAt ho _ (by omega), List.getElem?_append_right (by omega), hyl, Nat.add_sub_cancel_left]; rfl
          have z3 : w7.cell? ⟨g, m2 * 4 + 3, none⟩ = some (.slice none 0 0) := by rw [World.ownsRow.cellAt ho _ (by omega), List.getElem?_append_right (by omega), hyl, Nat.add_sub_cancel_left]; rfl
          have hgB : B ≤ g := (ho.lt g rfl).1
          have hgn : g ≠ n := by have := K7.hn; omega
          simp only [List.getElem_toArray, List.getElem_cons_succ, List.getElem_cons_zero, Act.put, List.setIfInBounds_toArray, List.set_cons_succ, List.set_cons_zero]
          refine wpAny_take (i := 8) (v := ?_) rfl (by kernel_rfl) (by kernel_rfl) (by kernel_rfl) (fun _ _ _ h => h) (Or.inl ⟨by rfl, ?_⟩) ?_
          rotate_left
          · intro wx; go_simp; rw [if_pos (by omega)]; try with_reducible rfl
          rotate_left
          refine wpAny_take (i := 10) (v := ?_) rfl (by kernel_rfl) (by kernel_rfl) (by kernel_rfl) (fun _ _ _ h => h) (Or.inl ⟨by rfl, ?_⟩) ?_
          rotate_left
          · intro wx; go_simp; try with_reducible rfl
          rotate_left
          refine wpAny_take (i := 11) (v := ?_) rfl (by kernel_rfl) (by kernel_rfl) (by kernel_rfl) (fun _ _ _ h => h) (Or.inl ⟨by rfl, ?_⟩) ?_
          rotate_left
          · intro wx; go_simp; try with_reducible rfl
          rotate_left
          simp only [List.getElem_toArray, List.getElem_cons_succ, List.getElem_cons_zero, Act.put, List.setIfInBounds_toArray, List.set_cons_succ, List.set_cons_zero]
          refine wpAny_two (i := 9) (j := 12) rfl rfl (by kernel_rfl) (by kernel_rfl) (by kernel_rfl) ?_ ?_
          · go_wp2_with fail
            go_meet
            exact ⟨⟨k0, t0, nm, _, m1, m2 + 1, xs, _, ((((K7.row (m2 * 4) _).row (m2 * 4 + 1) _).row (m2 * 4 + 2) _).row (m2 * 4 + 3) _).kids _, by omega, by omega, e3⟩⟩
          · go_wp2_with fail
            go_meet
            exact ⟨⟨k0, t0, nm, _, m1, m2 + 1, xs, _, ((((K7.kids _).row (m2 * 4) _).row (m2 * 4 + 1) _).row (m2 * 4 + 2) _).row (m2 * 4 + 3) _, by omega, by omega, e3⟩⟩
    case rest =>
      have h5 : RB Nq b n B (σ2.at_ + 1) s tw lo σ2 w0 wc := hcut
      clear hcut
      go_upto_if 45 with (first
        | (go_at_call 15; refine (space_wk b s tw lo σ2 _ h5.r hsm l2').mono ?_; rintro e w6 ⟨σ3, rfl, hR6, hM6, l3, l3'⟩; have h6 := h5.mv hR6 hM6 (Nat.le_refl _))
        | (go_at_call 29; refine (see_wk b s tw lo σ3 _ hR6 hsm l3').mono ?_; rintro e w7 ⟨X2, rfl, hR7, hM7, hX2⟩; have h7 := h6.mv hR7 hM7 (Nat.le_refl _)))
      cases hx2 : (X2 == 125)
      case true =>
        have hlt := hX2 (by have := of_decide_eq_true hx2; omega)
        obtain ⟨c0, c1, c2, c3, c4, c5, f1, f4, f5⟩ := hR7.cells
        have hl63 : (σ3.at_ : Int) < 9223372036854775807 := by omega
        go_wp2_with fail
        all_goals go_ret
        exact ⟨_, _, _, rfl, h7.mv (hR7.setAt (σ3.at_ + 1)) ((Mv.refl _ _).setCell _ _) (Nat.le_refl _), by simp; omega, by simp; omega⟩
      clear hX2 hx2 h5 h6 hR6 hM6 hM7
      go_upto_if 55 with (go_at_call 54; refine (need_wk b s tw lo σ3 _ _ _ hR7 hsm l3').mono ?_; rintro e w8 ⟨r8, σ4, rfl, hR8, hM8, l4, l4', l4''⟩; have h8 := h7.mv hR8 hM8 (Nat.le_refl _))
      cases r8
      case false =>
        go_wp2_with fail
        all_goals go_ret
        exact ⟨_, σ4, _, rfl, h8, by omega, l4'⟩
      have l5 := l4'' rfl
      go_wp2_with (go_at_call 15; refine (space_wk b s tw lo σ4 _ hR8 hsm l4').mono ?_; rintro e w9 ⟨σ5, rfl, hR9, hM9, l6, l6'⟩; have h9 := h8.mv hR9 hM9 (Nat.le_refl _))
      go_roundg (gk - 1)
      case measure => omega
      case rel => exact ⟨σ5, h9.mv hR9 (Mv.refl _ _) (by omega), by omega, by omega, l6'⟩
end Go.Proofs.YtjbffgjclnjkoaaGreatDoor
