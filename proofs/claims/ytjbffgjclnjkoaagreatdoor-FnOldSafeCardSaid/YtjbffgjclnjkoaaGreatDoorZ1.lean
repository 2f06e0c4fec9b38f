/- Joined texts: Se, Sf, Sg, Sh, Si. -/
import Derived.Test.YtjbffgjclnjkoaaGreatDoorSp
namespace Go.Proofs.YtjbffgjclnjkoaaGreatDoor
set_option linter.unusedVariables false
set_option linter.unusedSimpArgs false
section
/- (Se) The scanner at the end of a value. -/
open Go.RowKit Go.Shelf

theorem IsS.slice {w : World} {b B : Nat} {σ : Sc} {v : Value} (h : IsS w b B σ v) : ∃ ao cap, v = .slice ao σ.stk.length cap := by
  rcases h.row.2 with ⟨rfl, h0⟩ | ⟨g, cap, cur, rfl, _⟩
  · exact ⟨none, 0, by rw [h0]⟩
  · exact ⟨_, cap, rfl⟩
set_option maxRecDepth 100000 in
set_option maxHeartbeats 2000000 in
theorem top_any (b B : Nat) (σ : Sc) (v : Value) (c : Int) (w : World) (h : IsS w b B σ v) (hw : B ≤ w.heap.size) :
    Calls Tryz.prog 129 #[.pointer (some ⟨b, 0, none⟩), .int .u8 c] w fun e w' => ∃ v', e = .returned (.int .i64 (topQ σ c).1) ∧ IsS w' b B (topQ σ c).2 v' ∧ Stp b v w v' w' := by
  cases hW : isW c
  · have e1 : topQ σ c = (10, σ.err.2) := by unfold topQ; rw [hW]; rfl
    rw [e1]
    go_enter Tryz.func129, Tryz.ntmps129
    go_wp2_with (first | (go_at_call 97; refine (isW_any _ _).mono ?_; rintro e wz ⟨rfl, hz⟩; obtain rfl := hz.symm) | (go_at_call 108; refine (error_any b B _ _ c _ (by decide) _ h hw).mono ?_; rintro e w2 ⟨rfl, hS, hP⟩))
    all_goals go_ret
    first | exact ⟨_, rfl, hS, hP⟩ | exact ⟨_, hS, hP⟩
  · have e1 : topQ σ c = (10, σ) := by unfold topQ; rw [hW]; rfl
    rw [e1]
    go_enter Tryz.func129, Tryz.ntmps129
    go_wp2_with (first | (go_at_call 97; refine (isW_any _ _).mono ?_; rintro e wz ⟨rfl, hz⟩; obtain rfl := hz.symm))
    all_goals go_ret
    first | exact ⟨_, rfl, h, Stp.refl _ _ _⟩ | exact ⟨_, h, Stp.refl _ _ _⟩
set_option maxRecDepth 100000 in
set_option maxHeartbeats 2000000 in
theorem pop_any (b B : Nat) (σ : Sc) (v : Value) (k : Int) (r : List Int) (w : World) (h : IsS w b B σ v) (hs : σ.stk = k :: r) :
    Calls Tryz.prog 130 #[.pointer (some ⟨b, 0, none⟩)] w fun e w' => (∃ u, e = .returned u) ∧ ∃ v', IsS w' b B σ.pop v' ∧ Stp b v w v' w' := by
  obtain ⟨g, cap, rfl, hc1, hc2⟩ := h.form hs
  obtain ⟨e, n, _, _, _, c2, _, _, f0⟩ := h.cells
  have f2 := f0 2
  have hrow := h.row
  rw [hs] at hrow
  have hcut := own_cut (m := r.length) hrow (by simp)
  rw [stv_take] at hcut
  have hN := h.newRow (w1 := w) (l := r) rfl (fun _ _ _ _ => rfl) hcut
  have hP : Stp b (.slice (some ⟨g, 0, none⟩) (r.length + 1) cap) w (.slice (some ⟨g, 0, none⟩) r.length cap) (w.setCell ⟨b, 2, none⟩ (.slice (some ⟨g, 0, none⟩) r.length cap)) :=
    ⟨rfl, rfl, rfl, by simp [World.setCell], fun k hk hne _ => Below.heap_setCell _ _ _ _ (by simpa using hne), fun _ _ h => h⟩
  have hcI : (cap : Int) ≤ 9223372036854775807 := by unfold maxLen at hc2; omega
  have hq : σ.pop = (if r.length = 0 then { σ with q := .et, top := true, stk := r } else { σ with q := .ev, stk := r }) := by
    unfold Sc.pop
    rw [hs]
    cases r <;> rfl
  rw [hq]
  obtain ⟨m, hm⟩ : ∃ m, r.length = m := ⟨_, rfl⟩
  rw [hm] at c2 hN hP hc1
  rw [hm]
  have hmI : (0 : Int) ≤ (m : Int) := by omega
  have hmc : (m : Int) + 1 ≤ (cap : Int) := by omega
  clear hcut hrow h hc1 hc2 hq hm
  obtain ⟨e3, n3, _, d0, d1, d2, _, _, f3⟩ := hN.cells
  have f30 := f3 0
  have f31 := f3 1
  have hst1 := hN.store 129
  have hst2 := hN.store 113
  clear f0 f3
  by_cases h0 : m = 0
  · subst h0
    rw [if_pos rfl]
    go_enter Tryz.func130, Tryz.ntmps130
    go_upto_region 2 with fail
    clear c2 f2
    generalize w.setCell ⟨b, 2, none⟩ (.slice (some ⟨g, 0, none⟩) 0 cap) = w1 at hN hP d0 d1 d2 f30 f31 hst1 hst2 ⊢
    go_upto_region 4 with fail
    have h1 := hN.setQ .et
    have s1 := hP.trans (Stp.set b _ w1 0 (fv .et))
    have h1' : IsS (w1.setCell ⟨b, 0, none⟩ (.func (.func 129) #[] #[])) b B { σ with q := .et, stk := r } (.slice (some ⟨g, 0, none⟩) 0 cap) := h1
    have s1' : Stp b _ w _ (w1.setCell ⟨b, 0, none⟩ (.func (.func 129) #[] #[])) := s1
    clear h1 s1 hN hP d0 d1 d2 f30 f31 hst1 hst2
    generalize w1.setCell ⟨b, 0, none⟩ (.func (.func 129) #[] #[]) = w2 at h1' s1' ⊢
    obtain ⟨e4, n4, _, _, g1, _, _, _, f4⟩ := h1'.cells
    have f41 := f4 1
    clear f4
    go_wp2_with fail
    go_end0
    exact ⟨⟨_, rfl⟩, _, h1'.setTop true, s1'.trans (Stp.set b _ w2 1 _)⟩
  · have hmb : ((m : Int) == 0) = false := by simp; omega
    rw [if_neg h0]
    go_enter Tryz.func130, Tryz.ntmps130
    go_upto_region 2 with fail
    clear c2 f2
    generalize w.setCell ⟨b, 2, none⟩ (.slice (some ⟨g, 0, none⟩) m cap) = w1 at hN hP d0 d1 d2 f30 f31 hst1 hst2 ⊢
    go_wp2_with fail
    go_end0
    exact ⟨⟨_, rfl⟩, _, hN.setQ .ev, hP.trans (Stp.set b _ w1 0 (fv .ev))⟩
end
section
/- (Sf) The scanner at the end of a value: the function itself. -/
open Go.RowKit Go.Shelf

set_option maxRecDepth 100000 in
set_option maxHeartbeats 2000000 in
theorem end_any (b B : Nat) (σ : Sc) (v : Value) (c : Int) (w : World) (h : IsS w b B σ v) (hw : B ≤ w.heap.size) :
    Calls Tryz.prog 113 #[.pointer (some ⟨b, 0, none⟩), .int .u8 c] w fun e w' => ∃ v', e = .returned (.int .i64 (endQ σ c).1) ∧ IsS w' b B (endQ σ c).2 v' ∧ Stp b v w v' w' := by
  obtain ⟨q, top, stk, bad⟩ := σ
  cases stk with
  | nil =>
    have e1 : endQ ⟨q, top, [], bad⟩ c = topQ ⟨.et, true, [], bad⟩ c := rfl
    rw [e1]
    obtain ⟨ao, cap, hv⟩ := h.slice
    obtain rfl : v = .slice ao 0 cap := hv
    obtain ⟨e, n, _, _, _, c2, _, _, f0⟩ := h.cells
    have hst := h.store 129
    have h1 := h.setQ .et
    have s1 := Stp.set b (.slice ao 0 cap) w 0 (fv .et)
    have h1' : IsS (w.setCell ⟨b, 0, none⟩ (.func (.func 129) #[] #[])) b B ⟨.et, top, [], bad⟩ (.slice ao 0 cap) := h1
    have s1' : Stp b (.slice ao 0 cap) w (.slice ao 0 cap) (w.setCell ⟨b, 0, none⟩ (.func (.func 129) #[] #[])) := s1
    clear h1 s1 f0 e1
    go_enter Tryz.func113, Tryz.ntmps113
    go_upto_region 4 with fail
    clear hst c2 h
    generalize w.setCell ⟨b, 0, none⟩ (.func (.func 129) #[] #[]) = w1 at h1' s1' ⊢
    obtain ⟨e4, n4, _, _, g1, _, _, _, f4⟩ := h1'.cells
    have f41 := f4 1
    have h2 := h1'.setTop true
    have s2 := s1'.trans (Stp.set b _ w1 1 (.bool true))
    clear f4
    go_upto_region 5 with fail
    clear g1 f41 h1' s1'
    generalize w1.setCell ⟨b, 1, none⟩ (.bool true) = w2 at h2 s2 ⊢
    have ht := top_any b B _ _ c w2 h2 (Nat.le_trans hw s2.size)
    go_wp2_with (go_at_call 129; refine ht.mono ?_; rintro e w3 ⟨v', rfl, hS, hP⟩)
    all_goals go_ret
    exact ⟨_, rfl, hS, s2.trans hP⟩
  | cons k r =>
    obtain ⟨g, cap, rfl, hc1, hc2⟩ := h.form (k := k) (r := r) rfl
    have hcI : (cap : Int) ≤ 9223372036854775807 := by unfold maxLen at hc2; omega
    have hhead := fun x => h.setHead (k := k) (r := r) rfl x
    obtain ⟨m, hm⟩ : ∃ m, r.length = m := ⟨_, rfl⟩
    rw [hm] at h hc1 hhead ⊢
    have ck := (hhead 0).1
    have hhead : ∀ x : Int, (w.frozen? ⟨g, m, none⟩ = false ∧ w.cell? ⟨g, m, none⟩ = some (.int .i64 k)) ∧ IsS (w.setCell ⟨g, m, none⟩ (.int .i64 x)) b B ⟨q, top, x :: r, bad⟩ (.slice (some ⟨g, 0, none⟩) (m + 1) cap) ∧ Stp b (.slice (some ⟨g, 0, none⟩) (m + 1) cap) w (.slice (some ⟨g, 0, none⟩) (m + 1) cap) (w.setCell ⟨g, m, none⟩ (.int .i64 x)) := fun x => ⟨⟨(hhead x).2.1, (hhead x).1⟩, (hhead x).2.2⟩
    have hmI : (0 : Int) ≤ (m : Int) := by omega
    have hmc : (m : Int) + 1 ≤ (cap : Int) := by omega
    obtain ⟨e, n, _, _, _, c2, _, _, _⟩ := h.cells
    clear hc1 hc2 hm
    cases hW : isW c
    case true =>
      have e1 : endQ ⟨q, top, k :: r, bad⟩ c = Sc.to ⟨q, top, k :: r, bad⟩ 9 .ev := by unfold endQ; dsimp only; rw [hW]; rfl
      rw [e1]
      have hst := h.store 113
      have h1 := h.setQ .ev
      have s1 := Stp.set b (.slice (some ⟨g, 0, none⟩) (m + 1) cap) w 0 (fv .ev)
      clear h
      go_enter Tryz.func113, Tryz.ntmps113
      go_wp2_with (first | (go_at_call 97; refine (isW_any _ _).mono ?_; rintro e wz ⟨rfl, hz⟩; obtain rfl := hz.symm))
      all_goals go_ret
      first | exact ⟨_, rfl, h1, s1⟩ | exact ⟨_, h1, s1⟩ | exact ⟨rfl, _, h1, s1⟩
    have e0 : endQ ⟨q, top, k :: r, bad⟩ c = (if k = 0 then (if c = 58 then (3, ⟨.bv, top, 1 :: r, bad⟩) else Sc.err ⟨q, top, k :: r, bad⟩)
      else if k = 1 then (if c = 44 then (4, ⟨.bs, top, 0 :: r, bad⟩) else if c = 125 then (5, Sc.pop ⟨q, top, k :: r, bad⟩) else Sc.err ⟨q, top, k :: r, bad⟩)
      else if k = 2 then (if c = 44 then Sc.to ⟨q, top, k :: r, bad⟩ 7 .bv else if c = 93 then (8, Sc.pop ⟨q, top, k :: r, bad⟩) else Sc.err ⟨q, top, k :: r, bad⟩)
      else Sc.err ⟨q, top, k :: r, bad⟩) := by unfold endQ; dsimp only; rw [hW]; rfl
    rw [e0]
    clear e0
    by_cases k0 : k = 0
    · subst k0
      rw [if_pos rfl]
      by_cases c1 : c = 58
      · subst c1
        rw [if_pos rfl]
        obtain ⟨hk2, hH, sH⟩ := hhead 1
        have hkf := hk2.1
        have hkc := hk2.2
        go_enter Tryz.func113, Tryz.ntmps113
        go_upto_region 14 with (go_at_call 97; refine (isW_any _ _).mono ?_; rintro e wz ⟨rfl, hz⟩; obtain rfl := hz.symm)
        clear hkf hkc hk2
        generalize w.setCell ⟨g, m, none⟩ (.int .i64 1) = w1 at hH sH ⊢
        have hst := hH.store 89
        have h1 := hH.setQ .bv
        have s1 := sH.trans (Stp.set b _ w1 0 (fv .bv))
        clear hH sH h
        go_wp2_with fail
        all_goals go_ret
        first | exact ⟨_, rfl, h1, s1⟩ | exact ⟨_, h1, s1⟩ | exact ⟨rfl, _, h1, s1⟩
      · rw [if_neg c1]
        have b1 : (c == 58) = false := by simpa using c1
        clear c1
        go_enter Tryz.func113, Tryz.ntmps113
        go_wp2_with (first | (go_at_call 97; refine (isW_any _ _).mono ?_; rintro e wz ⟨rfl, hz⟩; obtain rfl := hz.symm) | (go_at_call 108; refine (error_any b B _ _ c _ (by decide) _ h hw).mono ?_; rintro e w2 ⟨rfl, hS, hP⟩))
        all_goals go_ret
        first | exact ⟨_, rfl, hS, hP⟩ | exact ⟨_, hS, hP⟩
    have kb0 : (k == 0) = false := by simpa using k0
    rw [if_neg k0]
    by_cases k1 : k = 1
    · subst k1
      rw [if_pos rfl]
      by_cases c1 : c = 44
      · subst c1
        rw [if_pos rfl]
        obtain ⟨hk2, hH, sH⟩ := hhead 0
        have hkf := hk2.1
        have hkc := hk2.2
        go_enter Tryz.func113, Tryz.ntmps113
        go_upto_region 20 with (go_at_call 97; refine (isW_any _ _).mono ?_; rintro e wz ⟨rfl, hz⟩; obtain rfl := hz.symm)
        clear hkf hkc hk2
        generalize w.setCell ⟨g, m, none⟩ (.int .i64 0) = w1 at hH sH ⊢
        have hst := hH.store 114
        have h1 := hH.setQ .bs
        have s1 := sH.trans (Stp.set b _ w1 0 (fv .bs))
        clear hH sH h
        go_wp2_with fail
        all_goals go_ret
        first | exact ⟨_, rfl, h1, s1⟩ | exact ⟨_, h1, s1⟩ | exact ⟨rfl, _, h1, s1⟩
      · rw [if_neg c1]
        have b1 : (c == 44) = false := by simpa using c1
        by_cases c2 : c = 125
        · subst c2
          rw [if_pos rfl]
          clear c1
          have hpop := pop_any b B _ _ _ r w h rfl
          go_enter Tryz.func113, Tryz.ntmps113
          go_wp2_with (first | (go_at_call 97; refine (isW_any _ _).mono ?_; rintro e wz ⟨rfl, hz⟩; obtain rfl := hz.symm) | (go_at_call 130; refine hpop.mono ?_; rintro e w2 ⟨⟨u, rfl⟩, v', hS, hP⟩))
          all_goals go_ret
          first | exact ⟨_, rfl, hS, hP⟩ | exact ⟨_, hS, hP⟩
        · rw [if_neg c2]
          have b2 : (c == 125) = false := by simpa using c2
          clear c1 c2
          go_enter Tryz.func113, Tryz.ntmps113
          go_wp2_with (first | (go_at_call 97; refine (isW_any _ _).mono ?_; rintro e wz ⟨rfl, hz⟩; obtain rfl := hz.symm) | (go_at_call 108; refine (error_any b B _ _ c _ (by decide) _ h hw).mono ?_; rintro e w2 ⟨rfl, hS, hP⟩))
          all_goals go_ret
          first | exact ⟨_, rfl, hS, hP⟩ | exact ⟨_, hS, hP⟩
    have kb1 : (k == 1) = false := by simpa using k1
    rw [if_neg k1]
    by_cases k2 : k = 2
    · subst k2
      rw [if_pos rfl]
      by_cases c1 : c = 44
      · subst c1
        rw [if_pos rfl]
        have hst := h.store 89
        have h1 := h.setQ .bv
        have s1 := Stp.set b (.slice (some ⟨g, 0, none⟩) (m + 1) cap) w 0 (fv .bv)
        clear h
        go_enter Tryz.func113, Tryz.ntmps113
        go_wp2_with (first | (go_at_call 97; refine (isW_any _ _).mono ?_; rintro e wz ⟨rfl, hz⟩; obtain rfl := hz.symm))
        all_goals go_ret
        first | exact ⟨_, rfl, h1, s1⟩ | exact ⟨_, h1, s1⟩ | exact ⟨rfl, _, h1, s1⟩
      · rw [if_neg c1]
        have b1 : (c == 44) = false := by simpa using c1
        by_cases c2 : c = 93
        · subst c2
          rw [if_pos rfl]
          clear c1
          have hpop := pop_any b B _ _ _ r w h rfl
          go_enter Tryz.func113, Tryz.ntmps113
          go_wp2_with (first | (go_at_call 97; refine (isW_any _ _).mono ?_; rintro e wz ⟨rfl, hz⟩; obtain rfl := hz.symm) | (go_at_call 130; refine hpop.mono ?_; rintro e w2 ⟨⟨u, rfl⟩, v', hS, hP⟩))
          all_goals go_ret
          first | exact ⟨_, rfl, hS, hP⟩ | exact ⟨_, hS, hP⟩
        · rw [if_neg c2]
          have b2 : (c == 93) = false := by simpa using c2
          clear c1 c2
          go_enter Tryz.func113, Tryz.ntmps113
          go_wp2_with (first | (go_at_call 97; refine (isW_any _ _).mono ?_; rintro e wz ⟨rfl, hz⟩; obtain rfl := hz.symm) | (go_at_call 108; refine (error_any b B _ _ c _ (by decide) _ h hw).mono ?_; rintro e w2 ⟨rfl, hS, hP⟩))
          all_goals go_ret
          first | exact ⟨_, rfl, hS, hP⟩ | exact ⟨_, hS, hP⟩
    have kb2 : (k == 2) = false := by simpa using k2
    rw [if_neg k2]
    clear k0 k1 k2
    go_enter Tryz.func113, Tryz.ntmps113
    go_wp2_with (first | (go_at_call 97; refine (isW_any _ _).mono ?_; rintro e wz ⟨rfl, hz⟩; obtain rfl := hz.symm) | (go_at_call 108; refine (error_any b B _ _ c _ (by decide) _ h hw).mono ?_; rintro e w2 ⟨rfl, hS, hP⟩))
    all_goals go_ret
    first | exact ⟨_, rfl, hS, hP⟩ | exact ⟨_, hS, hP⟩
end
section
/- (Sg) The scanner's states: beginning of a value, of a name; literals. -/
open Go.RowKit Go.Shelf

set_option maxRecDepth 100000 in
set_option maxHeartbeats 2000000 in
theorem bv_any (b B : Nat) (σ : Sc) (v : Value) (c : Int) (w : World) (h : IsS w b B σ v) (hw : B ≤ w.heap.size) (hl : σ.stk.length < 10000) :
    Calls Tryz.prog 89 #[.pointer (some ⟨b, 0, none⟩), .int .u8 c] w fun e w' => ∃ v', e = .returned (.int .i64 (bvQ σ c).1) ∧ IsS w' b B (bvQ σ c).2 v' ∧ Stp b v w v' w' := by
  cases hW : isW c
  case true =>
    have e1 : bvQ σ c = (9, σ) := by unfold bvQ; rw [hW]; rfl
    rw [e1]
    go_enter Tryz.func89, Tryz.ntmps89
    go_wp2_with (first | (go_at_call 97; refine (isW_any _ _).mono ?_; rintro e wz ⟨rfl, hz⟩; obtain rfl := hz.symm))
    all_goals go_ret
    first | exact ⟨_, rfl, h, Stp.refl _ _ _⟩ | exact ⟨_, h, Stp.refl _ _ _⟩
  by_cases n0 : c = 123
  · subst n0
    have e1 : bvQ σ 123 = (2, { σ.pushed 0 with q := .bsE }) := by unfold bvQ; rw [hW, if_neg (by decide)]; rw [if_pos rfl]
    rw [e1]
    have hst := h.store 98
    have h1 := h.setQ .bsE
    have s1 := Stp.set b v w 0 (fv .bsE)
    have h1' : IsS (w.setCell ⟨b, 0, none⟩ (.func (.func 98) #[] #[])) b B { σ with q := .bsE } v := h1
    have s1' : Stp b v w v (w.setCell ⟨b, 0, none⟩ (.func (.func 98) #[] #[])) := s1
    clear h1 s1 h
    go_enter Tryz.func89, Tryz.ntmps89
    go_upto_region 6 with (go_at_call 97; refine (isW_any _ _).mono ?_; rintro e wz ⟨rfl, hz⟩; obtain rfl := hz.symm)
    clear hst
    generalize w.setCell ⟨b, 0, none⟩ (.func (.func 98) #[] #[]) = w1 at h1' s1' ⊢
    have hpu := fun y x => push_any b B _ _ y 0 x w1 h1' (Nat.le_trans hw s1'.size) hl
    go_wp2_with (go_at_call 99; refine (hpu _ _).mono ?_; rintro e w2 ⟨rfl, v', hS, hP'⟩; have hP := s1'.trans hP')
    all_goals go_ret
    first | exact ⟨_, rfl, hS, hP⟩ | exact ⟨_, hS, hP⟩ | exact ⟨rfl, _, hS, hP⟩
  have n0b : (c == 123) = false := by simpa using n0
  by_cases n1 : c = 91
  · subst n1
    have e1 : bvQ σ 91 = (6, { σ.pushed 2 with q := .bvE }) := by unfold bvQ; rw [hW, if_neg (by decide)]; rw [if_neg n0]; rw [if_pos rfl]
    rw [e1]
    clear n0
    have hst := h.store 100
    have h1 := h.setQ .bvE
    have s1 := Stp.set b v w 0 (fv .bvE)
    have h1' : IsS (w.setCell ⟨b, 0, none⟩ (.func (.func 100) #[] #[])) b B { σ with q := .bvE } v := h1
    have s1' : Stp b v w v (w.setCell ⟨b, 0, none⟩ (.func (.func 100) #[] #[])) := s1
    clear h1 s1 h
    go_enter Tryz.func89, Tryz.ntmps89
    go_upto_region 9 with (go_at_call 97; refine (isW_any _ _).mono ?_; rintro e wz ⟨rfl, hz⟩; obtain rfl := hz.symm)
    clear hst
    generalize w.setCell ⟨b, 0, none⟩ (.func (.func 100) #[] #[]) = w1 at h1' s1' ⊢
    have hpu := fun y x => push_any b B _ _ y 2 x w1 h1' (Nat.le_trans hw s1'.size) hl
    go_wp2_with (go_at_call 99; refine (hpu _ _).mono ?_; rintro e w2 ⟨rfl, v', hS, hP'⟩; have hP := s1'.trans hP')
    all_goals go_ret
    first | exact ⟨_, rfl, hS, hP⟩ | exact ⟨_, hS, hP⟩ | exact ⟨rfl, _, hS, hP⟩
  have n1b : (c == 91) = false := by simpa using n1
  by_cases n2 : c = 34
  · subst n2
    have e1 : bvQ σ 34 = σ.to 1 .str := by unfold bvQ; rw [hW, if_neg (by decide)]; rw [if_neg n0]; rw [if_neg n1]; rw [if_pos rfl]
    rw [e1]
    clear n0 n1
    have hst := h.store 101
    have h1 := h.setQ .str
    have s1 := Stp.set b v w 0 (fv .str)
    clear h
    go_enter Tryz.func89, Tryz.ntmps89
    go_wp2_with (first | (go_at_call 97; refine (isW_any _ _).mono ?_; rintro e wz ⟨rfl, hz⟩; obtain rfl := hz.symm))
    all_goals go_ret
    first | exact ⟨_, rfl, h1, s1⟩ | exact ⟨_, h1, s1⟩ | exact ⟨rfl, _, h1, s1⟩
  have n2b : (c == 34) = false := by simpa using n2
  by_cases n3 : c = 45
  · subst n3
    have e1 : bvQ σ 45 = σ.to 1 .neg := by unfold bvQ; rw [hW, if_neg (by decide)]; rw [if_neg n0]; rw [if_neg n1]; rw [if_neg n2]; rw [if_pos rfl]
    rw [e1]
    clear n0 n1 n2
    have hst := h.store 102
    have h1 := h.setQ .neg
    have s1 := Stp.set b v w 0 (fv .neg)
    clear h
    go_enter Tryz.func89, Tryz.ntmps89
    go_wp2_with (first | (go_at_call 97; refine (isW_any _ _).mono ?_; rintro e wz ⟨rfl, hz⟩; obtain rfl := hz.symm))
    all_goals go_ret
    first | exact ⟨_, rfl, h1, s1⟩ | exact ⟨_, h1, s1⟩ | exact ⟨rfl, _, h1, s1⟩
  have n3b : (c == 45) = false := by simpa using n3
  by_cases n4 : c = 48
  · subst n4
    have e1 : bvQ σ 48 = σ.to 1 .s0 := by unfold bvQ; rw [hW, if_neg (by decide)]; rw [if_neg n0]; rw [if_neg n1]; rw [if_neg n2]; rw [if_neg n3]; rw [if_pos rfl]
    rw [e1]
    clear n0 n1 n2 n3
    have hst := h.store 103
    have h1 := h.setQ .s0
    have s1 := Stp.set b v w 0 (fv .s0)
    clear h
    go_enter Tryz.func89, Tryz.ntmps89
    go_wp2_with (first | (go_at_call 97; refine (isW_any _ _).mono ?_; rintro e wz ⟨rfl, hz⟩; obtain rfl := hz.symm))
    all_goals go_ret
    first | exact ⟨_, rfl, h1, s1⟩ | exact ⟨_, h1, s1⟩ | exact ⟨rfl, _, h1, s1⟩
  have n4b : (c == 48) = false := by simpa using n4
  by_cases n5 : c = 116
  · subst n5
    have e1 : bvQ σ 116 = σ.to 1 .t1 := by unfold bvQ; rw [hW, if_neg (by decide)]; rw [if_neg n0]; rw [if_neg n1]; rw [if_neg n2]; rw [if_neg n3]; rw [if_neg n4]; rw [if_pos rfl]
    rw [e1]
    clear n0 n1 n2 n3 n4
    have hst := h.store 104
    have h1 := h.setQ .t1
    have s1 := Stp.set b v w 0 (fv .t1)
    clear h
    go_enter Tryz.func89, Tryz.ntmps89
    go_wp2_with (first | (go_at_call 97; refine (isW_any _ _).mono ?_; rintro e wz ⟨rfl, hz⟩; obtain rfl := hz.symm))
    all_goals go_ret
    first | exact ⟨_, rfl, h1, s1⟩ | exact ⟨_, h1, s1⟩ | exact ⟨rfl, _, h1, s1⟩
  have n5b : (c == 116) = false := by simpa using n5
  by_cases n6 : c = 102
  · subst n6
    have e1 : bvQ σ 102 = σ.to 1 .f1 := by unfold bvQ; rw [hW, if_neg (by decide)]; rw [if_neg n0]; rw [if_neg n1]; rw [if_neg n2]; rw [if_neg n3]; rw [if_neg n4]; rw [if_neg n5]; rw [if_pos rfl]
    rw [e1]
    clear n0 n1 n2 n3 n4 n5
    have hst := h.store 105
    have h1 := h.setQ .f1
    have s1 := Stp.set b v w 0 (fv .f1)
    clear h
    go_enter Tryz.func89, Tryz.ntmps89
    go_wp2_with (first | (go_at_call 97; refine (isW_any _ _).mono ?_; rintro e wz ⟨rfl, hz⟩; obtain rfl := hz.symm))
    all_goals go_ret
    first | exact ⟨_, rfl, h1, s1⟩ | exact ⟨_, h1, s1⟩ | exact ⟨rfl, _, h1, s1⟩
  have n6b : (c == 102) = false := by simpa using n6
  by_cases n7 : c = 110
  · subst n7
    have e1 : bvQ σ 110 = σ.to 1 .n1 := by unfold bvQ; rw [hW, if_neg (by decide)]; rw [if_neg n0]; rw [if_neg n1]; rw [if_neg n2]; rw [if_neg n3]; rw [if_neg n4]; rw [if_neg n5]; rw [if_neg n6]; rw [if_pos rfl]
    rw [e1]
    clear n0 n1 n2 n3 n4 n5 n6
    have hst := h.store 106
    have h1 := h.setQ .n1
    have s1 := Stp.set b v w 0 (fv .n1)
    clear h
    go_enter Tryz.func89, Tryz.ntmps89
    go_wp2_with (first | (go_at_call 97; refine (isW_any _ _).mono ?_; rintro e wz ⟨rfl, hz⟩; obtain rfl := hz.symm))
    all_goals go_ret
    first | exact ⟨_, rfl, h1, s1⟩ | exact ⟨_, h1, s1⟩ | exact ⟨rfl, _, h1, s1⟩
  have n7b : (c == 110) = false := by simpa using n7
  by_cases n8 : (decide (49 ≤ c) && decide (c ≤ 57)) = true
  · have r1 : 49 ≤ c ∧ c ≤ 57 := by simpa using n8
    obtain ⟨r1, r2⟩ := r1
    have e1 : bvQ σ c = σ.to 1 .s1 := by unfold bvQ; rw [hW, if_neg (by decide)]; rw [if_neg n0]; rw [if_neg n1]; rw [if_neg n2]; rw [if_neg n3]; rw [if_neg n4]; rw [if_neg n5]; rw [if_neg n6]; rw [if_neg n7]; rw [if_pos n8]
    rw [e1]
    clear n0 n1 n2 n3 n4 n5 n6 n7 n8
    have d1 : decide (49 ≤ c) = true := decide_eq_true r1
    have d2 : decide (c ≤ 57) = true := decide_eq_true r2
    clear r1 r2
    have hst := h.store 107
    have h1 := h.setQ .s1
    have s1 := Stp.set b v w 0 (fv .s1)
    clear h
    go_enter Tryz.func89, Tryz.ntmps89
    go_wp2_with (first | (go_at_call 97; refine (isW_any _ _).mono ?_; rintro e wz ⟨rfl, hz⟩; obtain rfl := hz.symm))
    all_goals go_ret
    first | exact ⟨_, rfl, h1, s1⟩ | exact ⟨_, h1, s1⟩ | exact ⟨rfl, _, h1, s1⟩
  have n8r : c < 49 ∨ 57 < c := by have : ¬ (49 ≤ c ∧ c ≤ 57) := fun h => n8 (by simpa [digB] using h); omega
  have e1 : bvQ σ c = σ.err := by unfold bvQ; rw [hW, if_neg (by decide)]; rw [if_neg n0]; rw [if_neg n1]; rw [if_neg n2]; rw [if_neg n3]; rw [if_neg n4]; rw [if_neg n5]; rw [if_neg n6]; rw [if_neg n7]; rw [if_neg n8]; first | done | rfl
  rw [e1]
  rcases n8r with r1 | r1
  · have d1n8 : decide (49 ≤ c) = false := decide_eq_false (by omega)
    have d2n8 : decide (c ≤ 57) = true := decide_eq_true (by omega)
    clear r1
    clear n0 n1 n2 n3 n4 n5 n6 n7 n8
    go_enter Tryz.func89, Tryz.ntmps89
    go_wp2_with (first | (go_at_call 97; refine (isW_any _ _).mono ?_; rintro e wz ⟨rfl, hz⟩; obtain rfl := hz.symm) | (go_at_call 108; refine (error_any b B _ _ c _ (by decide) _ h hw).mono ?_; rintro e w2 ⟨rfl, hS, hP⟩))
    all_goals go_ret
    first | exact ⟨_, rfl, hS, hP⟩ | exact ⟨_, hS, hP⟩
  · have d1n8 : decide (49 ≤ c) = true := decide_eq_true (by omega)
    have d2n8 : decide (c ≤ 57) = false := decide_eq_false (by omega)
    clear r1
    clear n0 n1 n2 n3 n4 n5 n6 n7 n8
    go_enter Tryz.func89, Tryz.ntmps89
    go_wp2_with (first | (go_at_call 97; refine (isW_any _ _).mono ?_; rintro e wz ⟨rfl, hz⟩; obtain rfl := hz.symm) | (go_at_call 108; refine (error_any b B _ _ c _ (by decide) _ h hw).mono ?_; rintro e w2 ⟨rfl, hS, hP⟩))
    all_goals go_ret
    first | exact ⟨_, rfl, hS, hP⟩ | exact ⟨_, hS, hP⟩
set_option maxRecDepth 100000 in
set_option maxHeartbeats 2000000 in
theorem bs_any (b B : Nat) (σ : Sc) (v : Value) (c : Int) (w : World) (h : IsS w b B σ v) (hw : B ≤ w.heap.size) :
    Calls Tryz.prog 114 #[.pointer (some ⟨b, 0, none⟩), .int .u8 c] w fun e w' => ∃ v', e = .returned (.int .i64 (bsQ σ c).1) ∧ IsS w' b B (bsQ σ c).2 v' ∧ Stp b v w v' w' := by
  cases hW : isW c
  case true =>
    have e1 : bsQ σ c = (9, σ) := by unfold bsQ; rw [hW]; rfl
    rw [e1]
    go_enter Tryz.func114, Tryz.ntmps114
    go_wp2_with (first | (go_at_call 97; refine (isW_any _ _).mono ?_; rintro e wz ⟨rfl, hz⟩; obtain rfl := hz.symm))
    all_goals go_ret
    first | exact ⟨_, rfl, h, Stp.refl _ _ _⟩ | exact ⟨_, h, Stp.refl _ _ _⟩
  by_cases n0 : c = 34
  · subst n0
    have e1 : bsQ σ 34 = σ.to 1 .str := by unfold bsQ; rw [hW, if_neg (by decide)]; rw [if_pos rfl]
    rw [e1]
    have hst := h.store 101
    have h1 := h.setQ .str
    have s1 := Stp.set b v w 0 (fv .str)
    clear h
    go_enter Tryz.func114, Tryz.ntmps114
    go_wp2_with (first | (go_at_call 97; refine (isW_any _ _).mono ?_; rintro e wz ⟨rfl, hz⟩; obtain rfl := hz.symm))
    all_goals go_ret
    first | exact ⟨_, rfl, h1, s1⟩ | exact ⟨_, h1, s1⟩ | exact ⟨rfl, _, h1, s1⟩
  have n0b : (c == 34) = false := by simpa using n0
  have e1 : bsQ σ c = σ.err := by unfold bsQ; rw [hW, if_neg (by decide)]; rw [if_neg n0]; first | done | rfl
  rw [e1]
  clear n0
  go_enter Tryz.func114, Tryz.ntmps114
  go_wp2_with (first | (go_at_call 97; refine (isW_any _ _).mono ?_; rintro e wz ⟨rfl, hz⟩; obtain rfl := hz.symm) | (go_at_call 108; refine (error_any b B _ _ c _ (by decide) _ h hw).mono ?_; rintro e w2 ⟨rfl, hS, hP⟩))
  all_goals go_ret
  first | exact ⟨_, rfl, hS, hP⟩ | exact ⟨_, hS, hP⟩
set_option maxRecDepth 100000 in
set_option maxHeartbeats 2000000 in
theorem t1_any (b B : Nat) (σ : Sc) (v : Value) (c : Int) (w : World) (h : IsS w b B σ v) (hw : B ≤ w.heap.size) :
    Calls Tryz.prog 104 #[.pointer (some ⟨b, 0, none⟩), .int .u8 c] w fun e w' => ∃ v', e = .returned (.int .i64 (litQ σ c 114 .t2).1) ∧ IsS w' b B (litQ σ c 114 .t2).2 v' ∧ Stp b v w v' w' := by
  by_cases n0 : c = 114
  · subst n0
    have e1 : litQ σ 114 114 .t2 = σ.to 0 .t2 := by unfold litQ; rw [if_pos rfl]
    rw [e1]
    have hst := h.store 118
    have h1 := h.setQ .t2
    have s1 := Stp.set b v w 0 (fv .t2)
    clear h
    go_enter Tryz.func104, Tryz.ntmps104
    go_wp2_with (first | (go_at_call 97; refine (isW_any _ _).mono ?_; rintro e wz ⟨rfl, hz⟩; obtain rfl := hz.symm))
    all_goals go_ret
    first | exact ⟨_, rfl, h1, s1⟩ | exact ⟨_, h1, s1⟩ | exact ⟨rfl, _, h1, s1⟩
  have n0b : (c == 114) = false := by simpa using n0
  have e1 : litQ σ c 114 .t2 = σ.err := by unfold litQ; rw [if_neg n0]; first | done | rfl
  rw [e1]
  clear n0
  go_enter Tryz.func104, Tryz.ntmps104
  go_wp2_with (first | (go_at_call 97; refine (isW_any _ _).mono ?_; rintro e wz ⟨rfl, hz⟩; obtain rfl := hz.symm) | (go_at_call 108; refine (error_any b B _ _ c _ (by decide) _ h hw).mono ?_; rintro e w2 ⟨rfl, hS, hP⟩))
  all_goals go_ret
  first | exact ⟨_, rfl, hS, hP⟩ | exact ⟨_, hS, hP⟩
set_option maxRecDepth 100000 in
set_option maxHeartbeats 2000000 in
theorem t2_any (b B : Nat) (σ : Sc) (v : Value) (c : Int) (w : World) (h : IsS w b B σ v) (hw : B ≤ w.heap.size) :
    Calls Tryz.prog 118 #[.pointer (some ⟨b, 0, none⟩), .int .u8 c] w fun e w' => ∃ v', e = .returned (.int .i64 (litQ σ c 117 .t3).1) ∧ IsS w' b B (litQ σ c 117 .t3).2 v' ∧ Stp b v w v' w' := by
  by_cases n0 : c = 117
  · subst n0
    have e1 : litQ σ 117 117 .t3 = σ.to 0 .t3 := by unfold litQ; rw [if_pos rfl]
    rw [e1]
    have hst := h.store 134
    have h1 := h.setQ .t3
    have s1 := Stp.set b v w 0 (fv .t3)
    clear h
    go_enter Tryz.func118, Tryz.ntmps118
    go_wp2_with (first | (go_at_call 97; refine (isW_any _ _).mono ?_; rintro e wz ⟨rfl, hz⟩; obtain rfl := hz.symm))
    all_goals go_ret
    first | exact ⟨_, rfl, h1, s1⟩ | exact ⟨_, h1, s1⟩ | exact ⟨rfl, _, h1, s1⟩
  have n0b : (c == 117) = false := by simpa using n0
  have e1 : litQ σ c 117 .t3 = σ.err := by unfold litQ; rw [if_neg n0]; first | done | rfl
  rw [e1]
  clear n0
  go_enter Tryz.func118, Tryz.ntmps118
  go_wp2_with (first | (go_at_call 97; refine (isW_any _ _).mono ?_; rintro e wz ⟨rfl, hz⟩; obtain rfl := hz.symm) | (go_at_call 108; refine (error_any b B _ _ c _ (by decide) _ h hw).mono ?_; rintro e w2 ⟨rfl, hS, hP⟩))
  all_goals go_ret
  first | exact ⟨_, rfl, hS, hP⟩ | exact ⟨_, hS, hP⟩
set_option maxRecDepth 100000 in
set_option maxHeartbeats 2000000 in
theorem t3_any (b B : Nat) (σ : Sc) (v : Value) (c : Int) (w : World) (h : IsS w b B σ v) (hw : B ≤ w.heap.size) :
    Calls Tryz.prog 134 #[.pointer (some ⟨b, 0, none⟩), .int .u8 c] w fun e w' => ∃ v', e = .returned (.int .i64 (litQ σ c 101 .ev).1) ∧ IsS w' b B (litQ σ c 101 .ev).2 v' ∧ Stp b v w v' w' := by
  by_cases n0 : c = 101
  · subst n0
    have e1 : litQ σ 101 101 .ev = σ.to 0 .ev := by unfold litQ; rw [if_pos rfl]
    rw [e1]
    have hst := h.store 113
    have h1 := h.setQ .ev
    have s1 := Stp.set b v w 0 (fv .ev)
    clear h
    go_enter Tryz.func134, Tryz.ntmps134
    go_wp2_with (first | (go_at_call 97; refine (isW_any _ _).mono ?_; rintro e wz ⟨rfl, hz⟩; obtain rfl := hz.symm))
    all_goals go_ret
    first | exact ⟨_, rfl, h1, s1⟩ | exact ⟨_, h1, s1⟩ | exact ⟨rfl, _, h1, s1⟩
  have n0b : (c == 101) = false := by simpa using n0
  have e1 : litQ σ c 101 .ev = σ.err := by unfold litQ; rw [if_neg n0]; first | done | rfl
  rw [e1]
  clear n0
  go_enter Tryz.func134, Tryz.ntmps134
  go_wp2_with (first | (go_at_call 97; refine (isW_any _ _).mono ?_; rintro e wz ⟨rfl, hz⟩; obtain rfl := hz.symm) | (go_at_call 108; refine (error_any b B _ _ c _ (by decide) _ h hw).mono ?_; rintro e w2 ⟨rfl, hS, hP⟩))
  all_goals go_ret
  first | exact ⟨_, rfl, hS, hP⟩ | exact ⟨_, hS, hP⟩
set_option maxRecDepth 100000 in
set_option maxHeartbeats 2000000 in
theorem f1_any (b B : Nat) (σ : Sc) (v : Value) (c : Int) (w : World) (h : IsS w b B σ v) (hw : B ≤ w.heap.size) :
    Calls Tryz.prog 105 #[.pointer (some ⟨b, 0, none⟩), .int .u8 c] w fun e w' => ∃ v', e = .returned (.int .i64 (litQ σ c 97 .f2).1) ∧ IsS w' b B (litQ σ c 97 .f2).2 v' ∧ Stp b v w v' w' := by
  by_cases n0 : c = 97
  · subst n0
    have e1 : litQ σ 97 97 .f2 = σ.to 0 .f2 := by unfold litQ; rw [if_pos rfl]
    rw [e1]
    have hst := h.store 119
    have h1 := h.setQ .f2
    have s1 := Stp.set b v w 0 (fv .f2)
    clear h
    go_enter Tryz.func105, Tryz.ntmps105
    go_wp2_with (first | (go_at_call 97; refine (isW_any _ _).mono ?_; rintro e wz ⟨rfl, hz⟩; obtain rfl := hz.symm))
    all_goals go_ret
    first | exact ⟨_, rfl, h1, s1⟩ | exact ⟨_, h1, s1⟩ | exact ⟨rfl, _, h1, s1⟩
  have n0b : (c == 97) = false := by simpa using n0
  have e1 : litQ σ c 97 .f2 = σ.err := by unfold litQ; rw [if_neg n0]; first | done | rfl
  rw [e1]
  clear n0
  go_enter Tryz.func105, Tryz.ntmps105
  go_wp2_with (first | (go_at_call 97; refine (isW_any _ _).mono ?_; rintro e wz ⟨rfl, hz⟩; obtain rfl := hz.symm) | (go_at_call 108; refine (error_any b B _ _ c _ (by decide) _ h hw).mono ?_; rintro e w2 ⟨rfl, hS, hP⟩))
  all_goals go_ret
  first | exact ⟨_, rfl, hS, hP⟩ | exact ⟨_, hS, hP⟩
set_option maxRecDepth 100000 in
set_option maxHeartbeats 2000000 in
theorem f2_any (b B : Nat) (σ : Sc) (v : Value) (c : Int) (w : World) (h : IsS w b B σ v) (hw : B ≤ w.heap.size) :
    Calls Tryz.prog 119 #[.pointer (some ⟨b, 0, none⟩), .int .u8 c] w fun e w' => ∃ v', e = .returned (.int .i64 (litQ σ c 108 .f3).1) ∧ IsS w' b B (litQ σ c 108 .f3).2 v' ∧ Stp b v w v' w' := by
  by_cases n0 : c = 108
  · subst n0
    have e1 : litQ σ 108 108 .f3 = σ.to 0 .f3 := by unfold litQ; rw [if_pos rfl]
    rw [e1]
    have hst := h.store 135
    have h1 := h.setQ .f3
    have s1 := Stp.set b v w 0 (fv .f3)
    clear h
    go_enter Tryz.func119, Tryz.ntmps119
    go_wp2_with (first | (go_at_call 97; refine (isW_any _ _).mono ?_; rintro e wz ⟨rfl, hz⟩; obtain rfl := hz.symm))
    all_goals go_ret
    first | exact ⟨_, rfl, h1, s1⟩ | exact ⟨_, h1, s1⟩ | exact ⟨rfl, _, h1, s1⟩
  have n0b : (c == 108) = false := by simpa using n0
  have e1 : litQ σ c 108 .f3 = σ.err := by unfold litQ; rw [if_neg n0]; first | done | rfl
  rw [e1]
  clear n0
  go_enter Tryz.func119, Tryz.ntmps119
  go_wp2_with (first | (go_at_call 97; refine (isW_any _ _).mono ?_; rintro e wz ⟨rfl, hz⟩; obtain rfl := hz.symm) | (go_at_call 108; refine (error_any b B _ _ c _ (by decide) _ h hw).mono ?_; rintro e w2 ⟨rfl, hS, hP⟩))
  all_goals go_ret
  first | exact ⟨_, rfl, hS, hP⟩ | exact ⟨_, hS, hP⟩
set_option maxRecDepth 100000 in
set_option maxHeartbeats 2000000 in
theorem f3_any (b B : Nat) (σ : Sc) (v : Value) (c : Int) (w : World) (h : IsS w b B σ v) (hw : B ≤ w.heap.size) :
    Calls Tryz.prog 135 #[.pointer (some ⟨b, 0, none⟩), .int .u8 c] w fun e w' => ∃ v', e = .returned (.int .i64 (litQ σ c 115 .f4).1) ∧ IsS w' b B (litQ σ c 115 .f4).2 v' ∧ Stp b v w v' w' := by
  by_cases n0 : c = 115
  · subst n0
    have e1 : litQ σ 115 115 .f4 = σ.to 0 .f4 := by unfold litQ; rw [if_pos rfl]
    rw [e1]
    have hst := h.store 139
    have h1 := h.setQ .f4
    have s1 := Stp.set b v w 0 (fv .f4)
    clear h
    go_enter Tryz.func135, Tryz.ntmps135
    go_wp2_with (first | (go_at_call 97; refine (isW_any _ _).mono ?_; rintro e wz ⟨rfl, hz⟩; obtain rfl := hz.symm))
    all_goals go_ret
    first | exact ⟨_, rfl, h1, s1⟩ | exact ⟨_, h1, s1⟩ | exact ⟨rfl, _, h1, s1⟩
  have n0b : (c == 115) = false := by simpa using n0
  have e1 : litQ σ c 115 .f4 = σ.err := by unfold litQ; rw [if_neg n0]; first | done | rfl
  rw [e1]
  clear n0
  go_enter Tryz.func135, Tryz.ntmps135
  go_wp2_with (first | (go_at_call 97; refine (isW_any _ _).mono ?_; rintro e wz ⟨rfl, hz⟩; obtain rfl := hz.symm) | (go_at_call 108; refine (error_any b B _ _ c _ (by decide) _ h hw).mono ?_; rintro e w2 ⟨rfl, hS, hP⟩))
  all_goals go_ret
  first | exact ⟨_, rfl, hS, hP⟩ | exact ⟨_, hS, hP⟩
set_option maxRecDepth 100000 in
set_option maxHeartbeats 2000000 in
theorem f4_any (b B : Nat) (σ : Sc) (v : Value) (c : Int) (w : World) (h : IsS w b B σ v) (hw : B ≤ w.heap.size) :
    Calls Tryz.prog 139 #[.pointer (some ⟨b, 0, none⟩), .int .u8 c] w fun e w' => ∃ v', e = .returned (.int .i64 (litQ σ c 101 .ev).1) ∧ IsS w' b B (litQ σ c 101 .ev).2 v' ∧ Stp b v w v' w' := by
  by_cases n0 : c = 101
  · subst n0
    have e1 : litQ σ 101 101 .ev = σ.to 0 .ev := by unfold litQ; rw [if_pos rfl]
    rw [e1]
    have hst := h.store 113
    have h1 := h.setQ .ev
    have s1 := Stp.set b v w 0 (fv .ev)
    clear h
    go_enter Tryz.func139, Tryz.ntmps139
    go_wp2_with (first | (go_at_call 97; refine (isW_any _ _).mono ?_; rintro e wz ⟨rfl, hz⟩; obtain rfl := hz.symm))
    all_goals go_ret
    first | exact ⟨_, rfl, h1, s1⟩ | exact ⟨_, h1, s1⟩ | exact ⟨rfl, _, h1, s1⟩
  have n0b : (c == 101) = false := by simpa using n0
  have e1 : litQ σ c 101 .ev = σ.err := by unfold litQ; rw [if_neg n0]; first | done | rfl
  rw [e1]
  clear n0
  go_enter Tryz.func139, Tryz.ntmps139
  go_wp2_with (first | (go_at_call 97; refine (isW_any _ _).mono ?_; rintro e wz ⟨rfl, hz⟩; obtain rfl := hz.symm) | (go_at_call 108; refine (error_any b B _ _ c _ (by decide) _ h hw).mono ?_; rintro e w2 ⟨rfl, hS, hP⟩))
  all_goals go_ret
  first | exact ⟨_, rfl, hS, hP⟩ | exact ⟨_, hS, hP⟩
set_option maxRecDepth 100000 in
set_option maxHeartbeats 2000000 in
theorem n1_any (b B : Nat) (σ : Sc) (v : Value) (c : Int) (w : World) (h : IsS w b B σ v) (hw : B ≤ w.heap.size) :
    Calls Tryz.prog 106 #[.pointer (some ⟨b, 0, none⟩), .int .u8 c] w fun e w' => ∃ v', e = .returned (.int .i64 (litQ σ c 117 .n2).1) ∧ IsS w' b B (litQ σ c 117 .n2).2 v' ∧ Stp b v w v' w' := by
  by_cases n0 : c = 117
  · subst n0
    have e1 : litQ σ 117 117 .n2 = σ.to 0 .n2 := by unfold litQ; rw [if_pos rfl]
    rw [e1]
    have hst := h.store 120
    have h1 := h.setQ .n2
    have s1 := Stp.set b v w 0 (fv .n2)
    clear h
    go_enter Tryz.func106, Tryz.ntmps106
    go_wp2_with (first | (go_at_call 97; refine (isW_any _ _).mono ?_; rintro e wz ⟨rfl, hz⟩; obtain rfl := hz.symm))
    all_goals go_ret
    first | exact ⟨_, rfl, h1, s1⟩ | exact ⟨_, h1, s1⟩ | exact ⟨rfl, _, h1, s1⟩
  have n0b : (c == 117) = false := by simpa using n0
  have e1 : litQ σ c 117 .n2 = σ.err := by unfold litQ; rw [if_neg n0]; first | done | rfl
  rw [e1]
  clear n0
  go_enter Tryz.func106, Tryz.ntmps106
  go_wp2_with (first | (go_at_call 97; refine (isW_any _ _).mono ?_; rintro e wz ⟨rfl, hz⟩; obtain rfl := hz.symm) | (go_at_call 108; refine (error_any b B _ _ c _ (by decide) _ h hw).mono ?_; rintro e w2 ⟨rfl, hS, hP⟩))
  all_goals go_ret
  first | exact ⟨_, rfl, hS, hP⟩ | exact ⟨_, hS, hP⟩
set_option maxRecDepth 100000 in
set_option maxHeartbeats 2000000 in
theorem n2_any (b B : Nat) (σ : Sc) (v : Value) (c : Int) (w : World) (h : IsS w b B σ v) (hw : B ≤ w.heap.size) :
    Calls Tryz.prog 120 #[.pointer (some ⟨b, 0, none⟩), .int .u8 c] w fun e w' => ∃ v', e = .returned (.int .i64 (litQ σ c 108 .n3).1) ∧ IsS w' b B (litQ σ c 108 .n3).2 v' ∧ Stp b v w v' w' := by
  by_cases n0 : c = 108
  · subst n0
    have e1 : litQ σ 108 108 .n3 = σ.to 0 .n3 := by unfold litQ; rw [if_pos rfl]
    rw [e1]
    have hst := h.store 136
    have h1 := h.setQ .n3
    have s1 := Stp.set b v w 0 (fv .n3)
    clear h
    go_enter Tryz.func120, Tryz.ntmps120
    go_wp2_with (first | (go_at_call 97; refine (isW_any _ _).mono ?_; rintro e wz ⟨rfl, hz⟩; obtain rfl := hz.symm))
    all_goals go_ret
    first | exact ⟨_, rfl, h1, s1⟩ | exact ⟨_, h1, s1⟩ | exact ⟨rfl, _, h1, s1⟩
  have n0b : (c == 108) = false := by simpa using n0
  have e1 : litQ σ c 108 .n3 = σ.err := by unfold litQ; rw [if_neg n0]; first | done | rfl
  rw [e1]
  clear n0
  go_enter Tryz.func120, Tryz.ntmps120
  go_wp2_with (first | (go_at_call 97; refine (isW_any _ _).mono ?_; rintro e wz ⟨rfl, hz⟩; obtain rfl := hz.symm) | (go_at_call 108; refine (error_any b B _ _ c _ (by decide) _ h hw).mono ?_; rintro e w2 ⟨rfl, hS, hP⟩))
  all_goals go_ret
  first | exact ⟨_, rfl, hS, hP⟩ | exact ⟨_, hS, hP⟩
set_option maxRecDepth 100000 in
set_option maxHeartbeats 2000000 in
theorem n3_any (b B : Nat) (σ : Sc) (v : Value) (c : Int) (w : World) (h : IsS w b B σ v) (hw : B ≤ w.heap.size) :
    Calls Tryz.prog 136 #[.pointer (some ⟨b, 0, none⟩), .int .u8 c] w fun e w' => ∃ v', e = .returned (.int .i64 (litQ σ c 108 .ev).1) ∧ IsS w' b B (litQ σ c 108 .ev).2 v' ∧ Stp b v w v' w' := by
  by_cases n0 : c = 108
  · subst n0
    have e1 : litQ σ 108 108 .ev = σ.to 0 .ev := by unfold litQ; rw [if_pos rfl]
    rw [e1]
    have hst := h.store 113
    have h1 := h.setQ .ev
    have s1 := Stp.set b v w 0 (fv .ev)
    clear h
    go_enter Tryz.func136, Tryz.ntmps136
    go_wp2_with (first | (go_at_call 97; refine (isW_any _ _).mono ?_; rintro e wz ⟨rfl, hz⟩; obtain rfl := hz.symm))
    all_goals go_ret
    first | exact ⟨_, rfl, h1, s1⟩ | exact ⟨_, h1, s1⟩ | exact ⟨rfl, _, h1, s1⟩
  have n0b : (c == 108) = false := by simpa using n0
  have e1 : litQ σ c 108 .ev = σ.err := by unfold litQ; rw [if_neg n0]; first | done | rfl
  rw [e1]
  clear n0
  go_enter Tryz.func136, Tryz.ntmps136
  go_wp2_with (first | (go_at_call 97; refine (isW_any _ _).mono ?_; rintro e wz ⟨rfl, hz⟩; obtain rfl := hz.symm) | (go_at_call 108; refine (error_any b B _ _ c _ (by decide) _ h hw).mono ?_; rintro e w2 ⟨rfl, hS, hP⟩))
  all_goals go_ret
  first | exact ⟨_, rfl, hS, hP⟩ | exact ⟨_, hS, hP⟩
end
section
/- (Sh) The scanner's states: numbers, strings. -/
open Go.RowKit Go.Shelf

set_option maxRecDepth 100000 in
set_option maxHeartbeats 2000000 in
theorem esg_any (b B : Nat) (σ : Sc) (v : Value) (c : Int) (w : World) (h : IsS w b B σ v) (hw : B ≤ w.heap.size) :
    Calls Tryz.prog 133 #[.pointer (some ⟨b, 0, none⟩), .int .u8 c] w fun e w' => ∃ v', e = .returned (.int .i64 (esgQ σ c).1) ∧ IsS w' b B (esgQ σ c).2 v' ∧ Stp b v w v' w' := by
  by_cases n0 : digB c = true
  · have r1 : 48 ≤ c ∧ c ≤ 57 := by simpa [digB] using n0
    obtain ⟨r1, r2⟩ := r1
    have e1 : esgQ σ c = σ.to 0 .e0 := by unfold esgQ; rw [if_pos n0]
    rw [e1]
    clear n0
    have d1 : decide (48 ≤ c) = true := decide_eq_true r1
    have d2 : decide (c ≤ 57) = true := decide_eq_true r2
    clear r1 r2
    have hst := h.store 138
    have h1 := h.setQ .e0
    have s1 := Stp.set b v w 0 (fv .e0)
    clear h
    go_enter Tryz.func133, Tryz.ntmps133
    go_wp2_with (first | (go_at_call 97; refine (isW_any _ _).mono ?_; rintro e wz ⟨rfl, hz⟩; obtain rfl := hz.symm))
    all_goals go_ret
    first | exact ⟨_, rfl, h1, s1⟩ | exact ⟨_, h1, s1⟩ | exact ⟨rfl, _, h1, s1⟩
  have n0r : c < 48 ∨ 57 < c := by have : ¬ (48 ≤ c ∧ c ≤ 57) := fun h => n0 (by simpa [digB] using h); omega
  have e1 : esgQ σ c = σ.err := by unfold esgQ; rw [if_neg n0]; first | done | rfl
  rw [e1]
  rcases n0r with r1 | r1
  · have d1n0 : decide (48 ≤ c) = false := decide_eq_false (by omega)
    have d2n0 : decide (c ≤ 57) = true := decide_eq_true (by omega)
    clear r1
    clear n0
    go_enter Tryz.func133, Tryz.ntmps133
    go_wp2_with (first | (go_at_call 97; refine (isW_any _ _).mono ?_; rintro e wz ⟨rfl, hz⟩; obtain rfl := hz.symm) | (go_at_call 108; refine (error_any b B _ _ c _ (by decide) _ h hw).mono ?_; rintro e w2 ⟨rfl, hS, hP⟩))
    all_goals go_ret
    first | exact ⟨_, rfl, hS, hP⟩ | exact ⟨_, hS, hP⟩
  · have d1n0 : decide (48 ≤ c) = true := decide_eq_true (by omega)
    have d2n0 : decide (c ≤ 57) = false := decide_eq_false (by omega)
    clear r1
    clear n0
    go_enter Tryz.func133, Tryz.ntmps133
    go_wp2_with (first | (go_at_call 97; refine (isW_any _ _).mono ?_; rintro e wz ⟨rfl, hz⟩; obtain rfl := hz.symm) | (go_at_call 108; refine (error_any b B _ _ c _ (by decide) _ h hw).mono ?_; rintro e w2 ⟨rfl, hS, hP⟩))
    all_goals go_ret
    first | exact ⟨_, rfl, hS, hP⟩ | exact ⟨_, hS, hP⟩
set_option maxRecDepth 100000 in
set_option maxHeartbeats 2000000 in
theorem dot_any (b B : Nat) (σ : Sc) (v : Value) (c : Int) (w : World) (h : IsS w b B σ v) (hw : B ≤ w.heap.size) :
    Calls Tryz.prog 116 #[.pointer (some ⟨b, 0, none⟩), .int .u8 c] w fun e w' => ∃ v', e = .returned (.int .i64 (dotQ σ c).1) ∧ IsS w' b B (dotQ σ c).2 v' ∧ Stp b v w v' w' := by
  by_cases n0 : digB c = true
  · have r1 : 48 ≤ c ∧ c ≤ 57 := by simpa [digB] using n0
    obtain ⟨r1, r2⟩ := r1
    have e1 : dotQ σ c = σ.to 0 .dot0 := by unfold dotQ; rw [if_pos n0]
    rw [e1]
    clear n0
    have d1 : decide (48 ≤ c) = true := decide_eq_true r1
    have d2 : decide (c ≤ 57) = true := decide_eq_true r2
    clear r1 r2
    have hst := h.store 132
    have h1 := h.setQ .dot0
    have s1 := Stp.set b v w 0 (fv .dot0)
    clear h
    go_enter Tryz.func116, Tryz.ntmps116
    go_wp2_with (first | (go_at_call 97; refine (isW_any _ _).mono ?_; rintro e wz ⟨rfl, hz⟩; obtain rfl := hz.symm))
    all_goals go_ret
    first | exact ⟨_, rfl, h1, s1⟩ | exact ⟨_, h1, s1⟩ | exact ⟨rfl, _, h1, s1⟩
  have n0r : c < 48 ∨ 57 < c := by have : ¬ (48 ≤ c ∧ c ≤ 57) := fun h => n0 (by simpa [digB] using h); omega
  have e1 : dotQ σ c = σ.err := by unfold dotQ; rw [if_neg n0]; first | done | rfl
  rw [e1]
  rcases n0r with r1 | r1
  · have d1n0 : decide (48 ≤ c) = false := decide_eq_false (by omega)
    have d2n0 : decide (c ≤ 57) = true := decide_eq_true (by omega)
    clear r1
    clear n0
    go_enter Tryz.func116, Tryz.ntmps116
    go_wp2_with (first | (go_at_call 97; refine (isW_any _ _).mono ?_; rintro e wz ⟨rfl, hz⟩; obtain rfl := hz.symm) | (go_at_call 108; refine (error_any b B _ _ c _ (by decide) _ h hw).mono ?_; rintro e w2 ⟨rfl, hS, hP⟩))
    all_goals go_ret
    first | exact ⟨_, rfl, hS, hP⟩ | exact ⟨_, hS, hP⟩
  · have d1n0 : decide (48 ≤ c) = true := decide_eq_true (by omega)
    have d2n0 : decide (c ≤ 57) = false := decide_eq_false (by omega)
    clear r1
    clear n0
    go_enter Tryz.func116, Tryz.ntmps116
    go_wp2_with (first | (go_at_call 97; refine (isW_any _ _).mono ?_; rintro e wz ⟨rfl, hz⟩; obtain rfl := hz.symm) | (go_at_call 108; refine (error_any b B _ _ c _ (by decide) _ h hw).mono ?_; rintro e w2 ⟨rfl, hS, hP⟩))
    all_goals go_ret
    first | exact ⟨_, rfl, hS, hP⟩ | exact ⟨_, hS, hP⟩
set_option maxRecDepth 100000 in
set_option maxHeartbeats 2000000 in
theorem s0_any (b B : Nat) (σ : Sc) (v : Value) (c : Int) (w : World) (h : IsS w b B σ v) (hw : B ≤ w.heap.size) :
    Calls Tryz.prog 103 #[.pointer (some ⟨b, 0, none⟩), .int .u8 c] w fun e w' => ∃ v', e = .returned (.int .i64 (s0Q σ c).1) ∧ IsS w' b B (s0Q σ c).2 v' ∧ Stp b v w v' w' := by
  by_cases n0 : c = 46
  · subst n0
    have e1 : s0Q σ 46 = σ.to 0 .dot := by unfold s0Q; rw [if_pos rfl]
    rw [e1]
    have hst := h.store 116
    have h1 := h.setQ .dot
    have s1 := Stp.set b v w 0 (fv .dot)
    clear h
    go_enter Tryz.func103, Tryz.ntmps103
    go_wp2_with (first | (go_at_call 97; refine (isW_any _ _).mono ?_; rintro e wz ⟨rfl, hz⟩; obtain rfl := hz.symm))
    all_goals go_ret
    first | exact ⟨_, rfl, h1, s1⟩ | exact ⟨_, h1, s1⟩ | exact ⟨rfl, _, h1, s1⟩
  have n0b : (c == 46) = false := by simpa using n0
  by_cases n1_101 : c = 101
  · subst n1_101
    have e1 : s0Q σ 101 = σ.to 0 .ee := by unfold s0Q; rw [if_neg n0]; rw [if_pos (by decide)]
    rw [e1]
    clear n0
    have hst := h.store 117
    have h1 := h.setQ .ee
    have s1 := Stp.set b v w 0 (fv .ee)
    clear h
    go_enter Tryz.func103, Tryz.ntmps103
    go_wp2_with (first | (go_at_call 97; refine (isW_any _ _).mono ?_; rintro e wz ⟨rfl, hz⟩; obtain rfl := hz.symm))
    all_goals go_ret
    first | exact ⟨_, rfl, h1, s1⟩ | exact ⟨_, h1, s1⟩ | exact ⟨rfl, _, h1, s1⟩
  have n1_101b : (c == 101) = false := by simpa using n1_101
  by_cases n1_69 : c = 69
  · subst n1_69
    have e1 : s0Q σ 69 = σ.to 0 .ee := by unfold s0Q; rw [if_neg n0]; rw [if_pos (by decide)]
    rw [e1]
    clear n0
    have hst := h.store 117
    have h1 := h.setQ .ee
    have s1 := Stp.set b v w 0 (fv .ee)
    clear h
    go_enter Tryz.func103, Tryz.ntmps103
    go_wp2_with (first | (go_at_call 97; refine (isW_any _ _).mono ?_; rintro e wz ⟨rfl, hz⟩; obtain rfl := hz.symm))
    all_goals go_ret
    first | exact ⟨_, rfl, h1, s1⟩ | exact ⟨_, h1, s1⟩ | exact ⟨rfl, _, h1, s1⟩
  have n1_69b : (c == 69) = false := by simpa using n1_69
  have n1 : ¬ (c = 101 ∨ c = 69) := by omega
  clear n1_101 n1_69
  have e1 : s0Q σ c = endQ σ c := by unfold s0Q; rw [if_neg n0]; rw [if_neg n1]; first | done | rfl
  rw [e1]
  clear n0 n1
  go_enter Tryz.func103, Tryz.ntmps103
  go_wp2_with (first | (go_at_call 97; refine (isW_any _ _).mono ?_; rintro e wz ⟨rfl, hz⟩; obtain rfl := hz.symm) | (go_at_call 113; refine (end_any b B _ _ c _ h hw).mono ?_; rintro e w2 ⟨v', rfl, hS, hP⟩))
  all_goals go_ret
  first | exact ⟨_, rfl, hS, hP⟩ | exact ⟨_, hS, hP⟩ | exact ⟨rfl, _, hS, hP⟩
set_option maxRecDepth 100000 in
set_option maxHeartbeats 2000000 in
theorem s1_any (b B : Nat) (σ : Sc) (v : Value) (c : Int) (w : World) (h : IsS w b B σ v) (hw : B ≤ w.heap.size) :
    Calls Tryz.prog 107 #[.pointer (some ⟨b, 0, none⟩), .int .u8 c] w fun e w' => ∃ v', e = .returned (.int .i64 (s1Q σ c).1) ∧ IsS w' b B (s1Q σ c).2 v' ∧ Stp b v w v' w' := by
  by_cases n0 : digB c = true
  · have r1 : 48 ≤ c ∧ c ≤ 57 := by simpa [digB] using n0
    obtain ⟨r1, r2⟩ := r1
    have e1 : s1Q σ c = σ.to 0 .s1 := by unfold s1Q; rw [if_pos n0]
    rw [e1]
    clear n0
    have d1 : decide (48 ≤ c) = true := decide_eq_true r1
    have d2 : decide (c ≤ 57) = true := decide_eq_true r2
    clear r1 r2
    have hst := h.store 107
    have h1 := h.setQ .s1
    have s1 := Stp.set b v w 0 (fv .s1)
    clear h
    go_enter Tryz.func107, Tryz.ntmps107
    go_wp2_with (first | (go_at_call 97; refine (isW_any _ _).mono ?_; rintro e wz ⟨rfl, hz⟩; obtain rfl := hz.symm))
    all_goals go_ret
    first | exact ⟨_, rfl, h1, s1⟩ | exact ⟨_, h1, s1⟩ | exact ⟨rfl, _, h1, s1⟩
  have n0r : c < 48 ∨ 57 < c := by have : ¬ (48 ≤ c ∧ c ≤ 57) := fun h => n0 (by simpa [digB] using h); omega
  have e1 : s1Q σ c = s0Q σ c := by unfold s1Q; rw [if_neg n0]; first | done | rfl
  rw [e1]
  rcases n0r with r1 | r1
  · have d1n0 : decide (48 ≤ c) = false := decide_eq_false (by omega)
    have d2n0 : decide (c ≤ 57) = true := decide_eq_true (by omega)
    clear r1
    clear n0
    go_enter Tryz.func107, Tryz.ntmps107
    go_wp2_with (first | (go_at_call 97; refine (isW_any _ _).mono ?_; rintro e wz ⟨rfl, hz⟩; obtain rfl := hz.symm) | (go_at_call 103; refine (s0_any b B _ _ c _ h hw).mono ?_; rintro e w2 ⟨v', rfl, hS, hP⟩))
    all_goals go_ret
    first | exact ⟨_, rfl, hS, hP⟩ | exact ⟨_, hS, hP⟩ | exact ⟨rfl, _, hS, hP⟩
  · have d1n0 : decide (48 ≤ c) = true := decide_eq_true (by omega)
    have d2n0 : decide (c ≤ 57) = false := decide_eq_false (by omega)
    clear r1
    clear n0
    go_enter Tryz.func107, Tryz.ntmps107
    go_wp2_with (first | (go_at_call 97; refine (isW_any _ _).mono ?_; rintro e wz ⟨rfl, hz⟩; obtain rfl := hz.symm) | (go_at_call 103; refine (s0_any b B _ _ c _ h hw).mono ?_; rintro e w2 ⟨v', rfl, hS, hP⟩))
    all_goals go_ret
    first | exact ⟨_, rfl, hS, hP⟩ | exact ⟨_, hS, hP⟩ | exact ⟨rfl, _, hS, hP⟩
set_option maxRecDepth 100000 in
set_option maxHeartbeats 2000000 in
theorem dot0_any (b B : Nat) (σ : Sc) (v : Value) (c : Int) (w : World) (h : IsS w b B σ v) (hw : B ≤ w.heap.size) :
    Calls Tryz.prog 132 #[.pointer (some ⟨b, 0, none⟩), .int .u8 c] w fun e w' => ∃ v', e = .returned (.int .i64 (dot0Q σ c).1) ∧ IsS w' b B (dot0Q σ c).2 v' ∧ Stp b v w v' w' := by
  by_cases n0 : digB c = true
  · have r1 : 48 ≤ c ∧ c ≤ 57 := by simpa [digB] using n0
    obtain ⟨r1, r2⟩ := r1
    have e1 : dot0Q σ c = (0, σ) := by unfold dot0Q; rw [if_pos n0]
    rw [e1]
    clear n0
    have d1 : decide (48 ≤ c) = true := decide_eq_true r1
    have d2 : decide (c ≤ 57) = true := decide_eq_true r2
    clear r1 r2
    go_enter Tryz.func132, Tryz.ntmps132
    go_wp2_with (first | (go_at_call 97; refine (isW_any _ _).mono ?_; rintro e wz ⟨rfl, hz⟩; obtain rfl := hz.symm))
    all_goals go_ret
    first | exact ⟨_, rfl, h, Stp.refl _ _ _⟩ | exact ⟨_, h, Stp.refl _ _ _⟩
  have n0r : c < 48 ∨ 57 < c := by have : ¬ (48 ≤ c ∧ c ≤ 57) := fun h => n0 (by simpa [digB] using h); omega
  by_cases n1_101 : c = 101
  · subst n1_101
    have e1 : dot0Q σ 101 = σ.to 0 .ee := by unfold dot0Q; rw [if_neg n0]; rw [if_pos (by decide)]
    rw [e1]
    clear n0
    have hst := h.store 117
    have h1 := h.setQ .ee
    have s1 := Stp.set b v w 0 (fv .ee)
    clear h
    go_enter Tryz.func132, Tryz.ntmps132
    go_wp2_with (first | (go_at_call 97; refine (isW_any _ _).mono ?_; rintro e wz ⟨rfl, hz⟩; obtain rfl := hz.symm))
    all_goals go_ret
    first | exact ⟨_, rfl, h1, s1⟩ | exact ⟨_, h1, s1⟩ | exact ⟨rfl, _, h1, s1⟩
  have n1_101b : (c == 101) = false := by simpa using n1_101
  by_cases n1_69 : c = 69
  · subst n1_69
    have e1 : dot0Q σ 69 = σ.to 0 .ee := by unfold dot0Q; rw [if_neg n0]; rw [if_pos (by decide)]
    rw [e1]
    clear n0
    have hst := h.store 117
    have h1 := h.setQ .ee
    have s1 := Stp.set b v w 0 (fv .ee)
    clear h
    go_enter Tryz.func132, Tryz.ntmps132
    go_wp2_with (first | (go_at_call 97; refine (isW_any _ _).mono ?_; rintro e wz ⟨rfl, hz⟩; obtain rfl := hz.symm))
    all_goals go_ret
    first | exact ⟨_, rfl, h1, s1⟩ | exact ⟨_, h1, s1⟩ | exact ⟨rfl, _, h1, s1⟩
  have n1_69b : (c == 69) = false := by simpa using n1_69
  have n1 : ¬ (c = 101 ∨ c = 69) := by omega
  clear n1_101 n1_69
  have e1 : dot0Q σ c = endQ σ c := by unfold dot0Q; rw [if_neg n0]; rw [if_neg n1]; first | done | rfl
  rw [e1]
  rcases n0r with r1 | r1
  · have d1n0 : decide (48 ≤ c) = false := decide_eq_false (by omega)
    have d2n0 : decide (c ≤ 57) = true := decide_eq_true (by omega)
    clear r1
    clear n0 n1
    go_enter Tryz.func132, Tryz.ntmps132
    go_wp2_with (first | (go_at_call 97; refine (isW_any _ _).mono ?_; rintro e wz ⟨rfl, hz⟩; obtain rfl := hz.symm) | (go_at_call 113; refine (end_any b B _ _ c _ h hw).mono ?_; rintro e w2 ⟨v', rfl, hS, hP⟩))
    all_goals go_ret
    first | exact ⟨_, rfl, hS, hP⟩ | exact ⟨_, hS, hP⟩ | exact ⟨rfl, _, hS, hP⟩
  · have d1n0 : decide (48 ≤ c) = true := decide_eq_true (by omega)
    have d2n0 : decide (c ≤ 57) = false := decide_eq_false (by omega)
    clear r1
    clear n0 n1
    go_enter Tryz.func132, Tryz.ntmps132
    go_wp2_with (first | (go_at_call 97; refine (isW_any _ _).mono ?_; rintro e wz ⟨rfl, hz⟩; obtain rfl := hz.symm) | (go_at_call 113; refine (end_any b B _ _ c _ h hw).mono ?_; rintro e w2 ⟨v', rfl, hS, hP⟩))
    all_goals go_ret
    first | exact ⟨_, rfl, hS, hP⟩ | exact ⟨_, hS, hP⟩ | exact ⟨rfl, _, hS, hP⟩
set_option maxRecDepth 100000 in
set_option maxHeartbeats 2000000 in
theorem ee_any (b B : Nat) (σ : Sc) (v : Value) (c : Int) (w : World) (h : IsS w b B σ v) (hw : B ≤ w.heap.size) :
    Calls Tryz.prog 117 #[.pointer (some ⟨b, 0, none⟩), .int .u8 c] w fun e w' => ∃ v', e = .returned (.int .i64 (eeQ σ c).1) ∧ IsS w' b B (eeQ σ c).2 v' ∧ Stp b v w v' w' := by
  by_cases n0_43 : c = 43
  · subst n0_43
    have e1 : eeQ σ 43 = σ.to 0 .esg := by unfold eeQ; rw [if_pos (by decide)]
    rw [e1]
    have hst := h.store 133
    have h1 := h.setQ .esg
    have s1 := Stp.set b v w 0 (fv .esg)
    clear h
    go_enter Tryz.func117, Tryz.ntmps117
    go_wp2_with (first | (go_at_call 97; refine (isW_any _ _).mono ?_; rintro e wz ⟨rfl, hz⟩; obtain rfl := hz.symm))
    all_goals go_ret
    first | exact ⟨_, rfl, h1, s1⟩ | exact ⟨_, h1, s1⟩ | exact ⟨rfl, _, h1, s1⟩
  have n0_43b : (c == 43) = false := by simpa using n0_43
  by_cases n0_45 : c = 45
  · subst n0_45
    have e1 : eeQ σ 45 = σ.to 0 .esg := by unfold eeQ; rw [if_pos (by decide)]
    rw [e1]
    have hst := h.store 133
    have h1 := h.setQ .esg
    have s1 := Stp.set b v w 0 (fv .esg)
    clear h
    go_enter Tryz.func117, Tryz.ntmps117
    go_wp2_with (first | (go_at_call 97; refine (isW_any _ _).mono ?_; rintro e wz ⟨rfl, hz⟩; obtain rfl := hz.symm))
    all_goals go_ret
    first | exact ⟨_, rfl, h1, s1⟩ | exact ⟨_, h1, s1⟩ | exact ⟨rfl, _, h1, s1⟩
  have n0_45b : (c == 45) = false := by simpa using n0_45
  have n0 : ¬ (c = 43 ∨ c = 45) := by omega
  clear n0_43 n0_45
  have e1 : eeQ σ c = esgQ σ c := by unfold eeQ; rw [if_neg n0]; first | done | rfl
  rw [e1]
  clear n0
  go_enter Tryz.func117, Tryz.ntmps117
  go_wp2_with (first | (go_at_call 97; refine (isW_any _ _).mono ?_; rintro e wz ⟨rfl, hz⟩; obtain rfl := hz.symm) | (go_at_call 133; refine (esg_any b B _ _ c _ h hw).mono ?_; rintro e w2 ⟨v', rfl, hS, hP⟩))
  all_goals go_ret
  first | exact ⟨_, rfl, hS, hP⟩ | exact ⟨_, hS, hP⟩ | exact ⟨rfl, _, hS, hP⟩
set_option maxRecDepth 100000 in
set_option maxHeartbeats 2000000 in
theorem e0_any (b B : Nat) (σ : Sc) (v : Value) (c : Int) (w : World) (h : IsS w b B σ v) (hw : B ≤ w.heap.size) :
    Calls Tryz.prog 138 #[.pointer (some ⟨b, 0, none⟩), .int .u8 c] w fun e w' => ∃ v', e = .returned (.int .i64 (e0Q σ c).1) ∧ IsS w' b B (e0Q σ c).2 v' ∧ Stp b v w v' w' := by
  by_cases n0 : digB c = true
  · have r1 : 48 ≤ c ∧ c ≤ 57 := by simpa [digB] using n0
    obtain ⟨r1, r2⟩ := r1
    have e1 : e0Q σ c = (0, σ) := by unfold e0Q; rw [if_pos n0]
    rw [e1]
    clear n0
    have d1 : decide (48 ≤ c) = true := decide_eq_true r1
    have d2 : decide (c ≤ 57) = true := decide_eq_true r2
    clear r1 r2
    go_enter Tryz.func138, Tryz.ntmps138
    go_wp2_with (first | (go_at_call 97; refine (isW_any _ _).mono ?_; rintro e wz ⟨rfl, hz⟩; obtain rfl := hz.symm))
    all_goals go_ret
    first | exact ⟨_, rfl, h, Stp.refl _ _ _⟩ | exact ⟨_, h, Stp.refl _ _ _⟩
  have n0r : c < 48 ∨ 57 < c := by have : ¬ (48 ≤ c ∧ c ≤ 57) := fun h => n0 (by simpa [digB] using h); omega
  have e1 : e0Q σ c = endQ σ c := by unfold e0Q; rw [if_neg n0]; first | done | rfl
  rw [e1]
  rcases n0r with r1 | r1
  · have d1n0 : decide (48 ≤ c) = false := decide_eq_false (by omega)
    have d2n0 : decide (c ≤ 57) = true := decide_eq_true (by omega)
    clear r1
    clear n0
    go_enter Tryz.func138, Tryz.ntmps138
    go_wp2_with (first | (go_at_call 97; refine (isW_any _ _).mono ?_; rintro e wz ⟨rfl, hz⟩; obtain rfl := hz.symm) | (go_at_call 113; refine (end_any b B _ _ c _ h hw).mono ?_; rintro e w2 ⟨v', rfl, hS, hP⟩))
    all_goals go_ret
    first | exact ⟨_, rfl, hS, hP⟩ | exact ⟨_, hS, hP⟩ | exact ⟨rfl, _, hS, hP⟩
  · have d1n0 : decide (48 ≤ c) = true := decide_eq_true (by omega)
    have d2n0 : decide (c ≤ 57) = false := decide_eq_false (by omega)
    clear r1
    clear n0
    go_enter Tryz.func138, Tryz.ntmps138
    go_wp2_with (first | (go_at_call 97; refine (isW_any _ _).mono ?_; rintro e wz ⟨rfl, hz⟩; obtain rfl := hz.symm) | (go_at_call 113; refine (end_any b B _ _ c _ h hw).mono ?_; rintro e w2 ⟨v', rfl, hS, hP⟩))
    all_goals go_ret
    first | exact ⟨_, rfl, hS, hP⟩ | exact ⟨_, hS, hP⟩ | exact ⟨rfl, _, hS, hP⟩
set_option maxRecDepth 100000 in
set_option maxHeartbeats 2000000 in
theorem neg_any (b B : Nat) (σ : Sc) (v : Value) (c : Int) (w : World) (h : IsS w b B σ v) (hw : B ≤ w.heap.size) :
    Calls Tryz.prog 102 #[.pointer (some ⟨b, 0, none⟩), .int .u8 c] w fun e w' => ∃ v', e = .returned (.int .i64 (negQ σ c).1) ∧ IsS w' b B (negQ σ c).2 v' ∧ Stp b v w v' w' := by
  by_cases n0 : c = 48
  · subst n0
    have e1 : negQ σ 48 = σ.to 0 .s0 := by unfold negQ; rw [if_pos rfl]
    rw [e1]
    have hst := h.store 103
    have h1 := h.setQ .s0
    have s1 := Stp.set b v w 0 (fv .s0)
    clear h
    go_enter Tryz.func102, Tryz.ntmps102
    go_wp2_with (first | (go_at_call 97; refine (isW_any _ _).mono ?_; rintro e wz ⟨rfl, hz⟩; obtain rfl := hz.symm))
    all_goals go_ret
    first | exact ⟨_, rfl, h1, s1⟩ | exact ⟨_, h1, s1⟩ | exact ⟨rfl, _, h1, s1⟩
  have n0b : (c == 48) = false := by simpa using n0
  by_cases n1 : (decide (49 ≤ c) && decide (c ≤ 57)) = true
  · have r1 : 49 ≤ c ∧ c ≤ 57 := by simpa using n1
    obtain ⟨r1, r2⟩ := r1
    have e1 : negQ σ c = σ.to 0 .s1 := by unfold negQ; rw [if_neg n0]; rw [if_pos n1]
    rw [e1]
    clear n0 n1
    have d1 : decide (49 ≤ c) = true := decide_eq_true r1
    have d2 : decide (c ≤ 57) = true := decide_eq_true r2
    clear r1 r2
    have hst := h.store 107
    have h1 := h.setQ .s1
    have s1 := Stp.set b v w 0 (fv .s1)
    clear h
    go_enter Tryz.func102, Tryz.ntmps102
    go_wp2_with (first | (go_at_call 97; refine (isW_any _ _).mono ?_; rintro e wz ⟨rfl, hz⟩; obtain rfl := hz.symm))
    all_goals go_ret
    first | exact ⟨_, rfl, h1, s1⟩ | exact ⟨_, h1, s1⟩ | exact ⟨rfl, _, h1, s1⟩
  have n1r : c < 49 ∨ 57 < c := by have : ¬ (49 ≤ c ∧ c ≤ 57) := fun h => n1 (by simpa [digB] using h); omega
  have e1 : negQ σ c = σ.err := by unfold negQ; rw [if_neg n0]; rw [if_neg n1]; first | done | rfl
  rw [e1]
  rcases n1r with r1 | r1
  · have d1n1 : decide (49 ≤ c) = false := decide_eq_false (by omega)
    have d2n1 : decide (c ≤ 57) = true := decide_eq_true (by omega)
    clear r1
    clear n0 n1
    go_enter Tryz.func102, Tryz.ntmps102
    go_wp2_with (first | (go_at_call 97; refine (isW_any _ _).mono ?_; rintro e wz ⟨rfl, hz⟩; obtain rfl := hz.symm) | (go_at_call 108; refine (error_any b B _ _ c _ (by decide) _ h hw).mono ?_; rintro e w2 ⟨rfl, hS, hP⟩))
    all_goals go_ret
    first | exact ⟨_, rfl, hS, hP⟩ | exact ⟨_, hS, hP⟩
  · have d1n1 : decide (49 ≤ c) = true := decide_eq_true (by omega)
    have d2n1 : decide (c ≤ 57) = false := decide_eq_false (by omega)
    clear r1
    clear n0 n1
    go_enter Tryz.func102, Tryz.ntmps102
    go_wp2_with (first | (go_at_call 97; refine (isW_any _ _).mono ?_; rintro e wz ⟨rfl, hz⟩; obtain rfl := hz.symm) | (go_at_call 108; refine (error_any b B _ _ c _ (by decide) _ h hw).mono ?_; rintro e w2 ⟨rfl, hS, hP⟩))
    all_goals go_ret
    first | exact ⟨_, rfl, hS, hP⟩ | exact ⟨_, hS, hP⟩
set_option maxRecDepth 100000 in
set_option maxHeartbeats 2000000 in
theorem str_any (b B : Nat) (σ : Sc) (v : Value) (c : Int) (w : World) (h : IsS w b B σ v) (hw : B ≤ w.heap.size) :
    Calls Tryz.prog 101 #[.pointer (some ⟨b, 0, none⟩), .int .u8 c] w fun e w' => ∃ v', e = .returned (.int .i64 (strQ σ c).1) ∧ IsS w' b B (strQ σ c).2 v' ∧ Stp b v w v' w' := by
  by_cases n0 : c = 34
  · subst n0
    have e1 : strQ σ 34 = σ.to 0 .ev := by unfold strQ; rw [if_pos rfl]
    rw [e1]
    have hst := h.store 113
    have h1 := h.setQ .ev
    have s1 := Stp.set b v w 0 (fv .ev)
    clear h
    go_enter Tryz.func101, Tryz.ntmps101
    go_wp2_with (first | (go_at_call 97; refine (isW_any _ _).mono ?_; rintro e wz ⟨rfl, hz⟩; obtain rfl := hz.symm))
    all_goals go_ret
    first | exact ⟨_, rfl, h1, s1⟩ | exact ⟨_, h1, s1⟩ | exact ⟨rfl, _, h1, s1⟩
  have n0b : (c == 34) = false := by simpa using n0
  by_cases n1 : c = 92
  · subst n1
    have e1 : strQ σ 92 = σ.to 0 .esc := by unfold strQ; rw [if_neg n0]; rw [if_pos rfl]
    rw [e1]
    clear n0
    have hst := h.store 115
    have h1 := h.setQ .esc
    have s1 := Stp.set b v w 0 (fv .esc)
    clear h
    go_enter Tryz.func101, Tryz.ntmps101
    go_wp2_with (first | (go_at_call 97; refine (isW_any _ _).mono ?_; rintro e wz ⟨rfl, hz⟩; obtain rfl := hz.symm))
    all_goals go_ret
    first | exact ⟨_, rfl, h1, s1⟩ | exact ⟨_, h1, s1⟩ | exact ⟨rfl, _, h1, s1⟩
  have n1b : (c == 92) = false := by simpa using n1
  by_cases n2 : c < 32
  · have e1 : strQ σ c = σ.err := by unfold strQ; rw [if_neg n0]; rw [if_neg n1]; rw [if_pos n2]
    rw [e1]
    clear n0 n1
    go_enter Tryz.func101, Tryz.ntmps101
    go_wp2_with (first | (go_at_call 97; refine (isW_any _ _).mono ?_; rintro e wz ⟨rfl, hz⟩; obtain rfl := hz.symm) | (go_at_call 108; refine (error_any b B _ _ c _ (by decide) _ h hw).mono ?_; rintro e w2 ⟨rfl, hS, hP⟩))
    all_goals go_ret
    first | exact ⟨_, rfl, hS, hP⟩ | exact ⟨_, hS, hP⟩
  have n2l : 32 ≤ c := by omega
  have e1 : strQ σ c = (0, σ) := by unfold strQ; rw [if_neg n0]; rw [if_neg n1]; rw [if_neg n2]; first | done | rfl
  rw [e1]
  clear n0 n1 n2
  go_enter Tryz.func101, Tryz.ntmps101
  go_wp2_with (first | (go_at_call 97; refine (isW_any _ _).mono ?_; rintro e wz ⟨rfl, hz⟩; obtain rfl := hz.symm))
  all_goals go_ret
  first | exact ⟨_, rfl, h, Stp.refl _ _ _⟩ | exact ⟨_, h, Stp.refl _ _ _⟩
set_option maxRecDepth 100000 in
set_option maxHeartbeats 2000000 in
theorem esc_any (b B : Nat) (σ : Sc) (v : Value) (c : Int) (w : World) (h : IsS w b B σ v) (hw : B ≤ w.heap.size) :
    Calls Tryz.prog 115 #[.pointer (some ⟨b, 0, none⟩), .int .u8 c] w fun e w' => ∃ v', e = .returned (.int .i64 (escQ σ c).1) ∧ IsS w' b B (escQ σ c).2 v' ∧ Stp b v w v' w' := by
  by_cases n0_98 : c = 98
  · subst n0_98
    have e1 : escQ σ 98 = σ.to 0 .str := by unfold escQ; rw [if_pos (by decide)]
    rw [e1]
    have hst := h.store 101
    have h1 := h.setQ .str
    have s1 := Stp.set b v w 0 (fv .str)
    clear h
    go_enter Tryz.func115, Tryz.ntmps115
    go_wp2_with (first | (go_at_call 97; refine (isW_any _ _).mono ?_; rintro e wz ⟨rfl, hz⟩; obtain rfl := hz.symm))
    all_goals go_ret
    first | exact ⟨_, rfl, h1, s1⟩ | exact ⟨_, h1, s1⟩ | exact ⟨rfl, _, h1, s1⟩
  have n0_98b : (c == 98) = false := by simpa using n0_98
  by_cases n0_102 : c = 102
  · subst n0_102
    have e1 : escQ σ 102 = σ.to 0 .str := by unfold escQ; rw [if_pos (by decide)]
    rw [e1]
    have hst := h.store 101
    have h1 := h.setQ .str
    have s1 := Stp.set b v w 0 (fv .str)
    clear h
    go_enter Tryz.func115, Tryz.ntmps115
    go_wp2_with (first | (go_at_call 97; refine (isW_any _ _).mono ?_; rintro e wz ⟨rfl, hz⟩; obtain rfl := hz.symm))
    all_goals go_ret
    first | exact ⟨_, rfl, h1, s1⟩ | exact ⟨_, h1, s1⟩ | exact ⟨rfl, _, h1, s1⟩
  have n0_102b : (c == 102) = false := by simpa using n0_102
  by_cases n0_110 : c = 110
  · subst n0_110
    have e1 : escQ σ 110 = σ.to 0 .str := by unfold escQ; rw [if_pos (by decide)]
    rw [e1]
    have hst := h.store 101
    have h1 := h.setQ .str
    have s1 := Stp.set b v w 0 (fv .str)
    clear h
    go_enter Tryz.func115, Tryz.ntmps115
    go_wp2_with (first | (go_at_call 97; refine (isW_any _ _).mono ?_; rintro e wz ⟨rfl, hz⟩; obtain rfl := hz.symm))
    all_goals go_ret
    first | exact ⟨_, rfl, h1, s1⟩ | exact ⟨_, h1, s1⟩ | exact ⟨rfl, _, h1, s1⟩
  have n0_110b : (c == 110) = false := by simpa using n0_110
  by_cases n0_114 : c = 114
  · subst n0_114
    have e1 : escQ σ 114 = σ.to 0 .str := by unfold escQ; rw [if_pos (by decide)]
    rw [e1]
    have hst := h.store 101
    have h1 := h.setQ .str
    have s1 := Stp.set b v w 0 (fv .str)
    clear h
    go_enter Tryz.func115, Tryz.ntmps115
    go_wp2_with (first | (go_at_call 97; refine (isW_any _ _).mono ?_; rintro e wz ⟨rfl, hz⟩; obtain rfl := hz.symm))
    all_goals go_ret
    first | exact ⟨_, rfl, h1, s1⟩ | exact ⟨_, h1, s1⟩ | exact ⟨rfl, _, h1, s1⟩
  have n0_114b : (c == 114) = false := by simpa using n0_114
  by_cases n0_116 : c = 116
  · subst n0_116
    have e1 : escQ σ 116 = σ.to 0 .str := by unfold escQ; rw [if_pos (by decide)]
    rw [e1]
    have hst := h.store 101
    have h1 := h.setQ .str
    have s1 := Stp.set b v w 0 (fv .str)
    clear h
    go_enter Tryz.func115, Tryz.ntmps115
    go_wp2_with (first | (go_at_call 97; refine (isW_any _ _).mono ?_; rintro e wz ⟨rfl, hz⟩; obtain rfl := hz.symm))
    all_goals go_ret
    first | exact ⟨_, rfl, h1, s1⟩ | exact ⟨_, h1, s1⟩ | exact ⟨rfl, _, h1, s1⟩
  have n0_116b : (c == 116) = false := by simpa using n0_116
  by_cases n0_92 : c = 92
  · subst n0_92
    have e1 : escQ σ 92 = σ.to 0 .str := by unfold escQ; rw [if_pos (by decide)]
    rw [e1]
    have hst := h.store 101
    have h1 := h.setQ .str
    have s1 := Stp.set b v w 0 (fv .str)
    clear h
    go_enter Tryz.func115, Tryz.ntmps115
    go_wp2_with (first | (go_at_call 97; refine (isW_any _ _).mono ?_; rintro e wz ⟨rfl, hz⟩; obtain rfl := hz.symm))
    all_goals go_ret
    first | exact ⟨_, rfl, h1, s1⟩ | exact ⟨_, h1, s1⟩ | exact ⟨rfl, _, h1, s1⟩
  have n0_92b : (c == 92) = false := by simpa using n0_92
  by_cases n0_47 : c = 47
  · subst n0_47
    have e1 : escQ σ 47 = σ.to 0 .str := by unfold escQ; rw [if_pos (by decide)]
    rw [e1]
    have hst := h.store 101
    have h1 := h.setQ .str
    have s1 := Stp.set b v w 0 (fv .str)
    clear h
    go_enter Tryz.func115, Tryz.ntmps115
    go_wp2_with (first | (go_at_call 97; refine (isW_any _ _).mono ?_; rintro e wz ⟨rfl, hz⟩; obtain rfl := hz.symm))
    all_goals go_ret
    first | exact ⟨_, rfl, h1, s1⟩ | exact ⟨_, h1, s1⟩ | exact ⟨rfl, _, h1, s1⟩
  have n0_47b : (c == 47) = false := by simpa using n0_47
  by_cases n0_34 : c = 34
  · subst n0_34
    have e1 : escQ σ 34 = σ.to 0 .str := by unfold escQ; rw [if_pos (by decide)]
    rw [e1]
    have hst := h.store 101
    have h1 := h.setQ .str
    have s1 := Stp.set b v w 0 (fv .str)
    clear h
    go_enter Tryz.func115, Tryz.ntmps115
    go_wp2_with (first | (go_at_call 97; refine (isW_any _ _).mono ?_; rintro e wz ⟨rfl, hz⟩; obtain rfl := hz.symm))
    all_goals go_ret
    first | exact ⟨_, rfl, h1, s1⟩ | exact ⟨_, h1, s1⟩ | exact ⟨rfl, _, h1, s1⟩
  have n0_34b : (c == 34) = false := by simpa using n0_34
  have n0 : ¬ (c = 98 ∨ c = 102 ∨ c = 110 ∨ c = 114 ∨ c = 116 ∨ c = 92 ∨ c = 47 ∨ c = 34) := by omega
  clear n0_98 n0_102 n0_110 n0_114 n0_116 n0_92 n0_47 n0_34
  by_cases n1 : c = 117
  · subst n1
    have e1 : escQ σ 117 = σ.to 0 .u0 := by unfold escQ; rw [if_neg n0]; rw [if_pos rfl]
    rw [e1]
    clear n0
    have hst := h.store 131
    have h1 := h.setQ .u0
    have s1 := Stp.set b v w 0 (fv .u0)
    clear h
    go_enter Tryz.func115, Tryz.ntmps115
    go_wp2_with (first | (go_at_call 97; refine (isW_any _ _).mono ?_; rintro e wz ⟨rfl, hz⟩; obtain rfl := hz.symm))
    all_goals go_ret
    first | exact ⟨_, rfl, h1, s1⟩ | exact ⟨_, h1, s1⟩ | exact ⟨rfl, _, h1, s1⟩
  have n1b : (c == 117) = false := by simpa using n1
  have e1 : escQ σ c = σ.err := by unfold escQ; rw [if_neg n0]; rw [if_neg n1]; first | done | rfl
  rw [e1]
  clear n0 n1
  go_enter Tryz.func115, Tryz.ntmps115
  go_wp2_with (first | (go_at_call 97; refine (isW_any _ _).mono ?_; rintro e wz ⟨rfl, hz⟩; obtain rfl := hz.symm) | (go_at_call 108; refine (error_any b B _ _ c _ (by decide) _ h hw).mono ?_; rintro e w2 ⟨rfl, hS, hP⟩))
  all_goals go_ret
  first | exact ⟨_, rfl, hS, hP⟩ | exact ⟨_, hS, hP⟩
set_option maxRecDepth 100000 in
set_option maxHeartbeats 2000000 in
theorem bvE_any (b B : Nat) (σ : Sc) (v : Value) (c : Int) (w : World) (h : IsS w b B σ v) (hw : B ≤ w.heap.size) (hl : σ.stk.length < 10000) :
    Calls Tryz.prog 100 #[.pointer (some ⟨b, 0, none⟩), .int .u8 c] w fun e w' => ∃ v', e = .returned (.int .i64 (bvEQ σ c).1) ∧ IsS w' b B (bvEQ σ c).2 v' ∧ Stp b v w v' w' := by
  cases hW : isW c
  case true =>
    have e1 : bvEQ σ c = (9, σ) := by unfold bvEQ; rw [hW]; rfl
    rw [e1]
    go_enter Tryz.func100, Tryz.ntmps100
    go_wp2_with (first | (go_at_call 97; refine (isW_any _ _).mono ?_; rintro e wz ⟨rfl, hz⟩; obtain rfl := hz.symm))
    all_goals go_ret
    first | exact ⟨_, rfl, h, Stp.refl _ _ _⟩ | exact ⟨_, h, Stp.refl _ _ _⟩
  by_cases n0 : c = 93
  · subst n0
    have e1 : bvEQ σ 93 = endQ σ 93 := by unfold bvEQ; rw [hW, if_neg (by decide)]; rw [if_pos rfl]
    rw [e1]
    go_enter Tryz.func100, Tryz.ntmps100
    go_wp2_with (first | (go_at_call 97; refine (isW_any _ _).mono ?_; rintro e wz ⟨rfl, hz⟩; obtain rfl := hz.symm) | (go_at_call 113; refine (end_any b B _ _ _ _ h hw).mono ?_; rintro e w2 ⟨v', rfl, hS, hP⟩))
    all_goals go_ret
    first | exact ⟨_, rfl, hS, hP⟩ | exact ⟨_, hS, hP⟩ | exact ⟨rfl, _, hS, hP⟩
  have n0b : (c == 93) = false := by simpa using n0
  have e1 : bvEQ σ c = bvQ σ c := by unfold bvEQ; rw [hW, if_neg (by decide)]; rw [if_neg n0]; first | done | rfl
  rw [e1]
  clear n0
  go_enter Tryz.func100, Tryz.ntmps100
  go_wp2_with (first | (go_at_call 97; refine (isW_any _ _).mono ?_; rintro e wz ⟨rfl, hz⟩; obtain rfl := hz.symm) | (go_at_call 89; refine (bv_any b B _ _ c _ h hw hl).mono ?_; rintro e w2 ⟨v', rfl, hS, hP⟩))
  all_goals go_ret
  first | exact ⟨_, rfl, hS, hP⟩ | exact ⟨_, hS, hP⟩ | exact ⟨rfl, _, hS, hP⟩
end
section
/- (Si) The scanner's states: digits of an escape, a closing brace; one step. -/
open Go.RowKit Go.Shelf

set_option maxRecDepth 100000 in
set_option maxHeartbeats 2000000 in
theorem u0_any (b B : Nat) (σ : Sc) (v : Value) (c : Int) (w : World) (h : IsS w b B σ v) (hw : B ≤ w.heap.size) :
    Calls Tryz.prog 131 #[.pointer (some ⟨b, 0, none⟩), .int .u8 c] w fun e w' => ∃ v', e = .returned (.int .i64 (hexQ σ c .u1).1) ∧ IsS w' b B (hexQ σ c .u1).2 v' ∧ Stp b v w v' w' := by
  have hcl : c < 48 ∨ (48 ≤ c ∧ c ≤ 57) ∨ (57 < c ∧ c < 65) ∨ (65 ≤ c ∧ c ≤ 70) ∨ (70 < c ∧ c < 97) ∨ (97 ≤ c ∧ c ≤ 102) ∨ 102 < c := by omega
  rcases hcl with x | ⟨x, y⟩ | ⟨x, y⟩ | ⟨x, y⟩ | ⟨x, y⟩ | ⟨x, y⟩ | x
  · have l48 : decide (48 ≤ c) = false := decide_eq_false (by omega)
    have u57 : decide (c ≤ 57) = true := decide_eq_true (by omega)
    have l65 : decide (65 ≤ c) = false := decide_eq_false (by omega)
    have u70 : decide (c ≤ 70) = true := decide_eq_true (by omega)
    have l97 : decide (97 ≤ c) = false := decide_eq_false (by omega)
    have u102 : decide (c ≤ 102) = true := decide_eq_true (by omega)
    have e1 : hexQ σ c .u1 = σ.err := by unfold hexQ hexB digB; rw [l48, u57, l65, u70, l97, u102]; rfl
    rw [e1]
    try clear y
    clear x
    go_enter Tryz.func131, Tryz.ntmps131
    go_wp2_with (first | (go_at_call 97; refine (isW_any _ _).mono ?_; rintro e wz ⟨rfl, hz⟩; obtain rfl := hz.symm) | (go_at_call 108; refine (error_any b B _ _ c _ (by decide) _ h hw).mono ?_; rintro e w2 ⟨rfl, hS, hP⟩))
    all_goals go_ret
    first | exact ⟨_, rfl, hS, hP⟩ | exact ⟨_, hS, hP⟩
  · have l48 : decide (48 ≤ c) = true := decide_eq_true (by omega)
    have u57 : decide (c ≤ 57) = true := decide_eq_true (by omega)
    have l65 : decide (65 ≤ c) = false := decide_eq_false (by omega)
    have u70 : decide (c ≤ 70) = true := decide_eq_true (by omega)
    have l97 : decide (97 ≤ c) = false := decide_eq_false (by omega)
    have u102 : decide (c ≤ 102) = true := decide_eq_true (by omega)
    have e1 : hexQ σ c .u1 = σ.to 0 .u1 := by unfold hexQ hexB digB; rw [l48, u57, l65, u70, l97, u102]; rfl
    rw [e1]
    try clear y
    clear x
    have hst := h.store 137
    have h1 := h.setQ .u1
    have s1 := Stp.set b v w 0 (fv .u1)
    clear h
    go_enter Tryz.func131, Tryz.ntmps131
    go_wp2_with (first | (go_at_call 97; refine (isW_any _ _).mono ?_; rintro e wz ⟨rfl, hz⟩; obtain rfl := hz.symm))
    all_goals go_ret
    first | exact ⟨_, rfl, h1, s1⟩ | exact ⟨_, h1, s1⟩ | exact ⟨rfl, _, h1, s1⟩
  · have l48 : decide (48 ≤ c) = true := decide_eq_true (by omega)
    have u57 : decide (c ≤ 57) = false := decide_eq_false (by omega)
    have l65 : decide (65 ≤ c) = false := decide_eq_false (by omega)
    have u70 : decide (c ≤ 70) = true := decide_eq_true (by omega)
    have l97 : decide (97 ≤ c) = false := decide_eq_false (by omega)
    have u102 : decide (c ≤ 102) = true := decide_eq_true (by omega)
    have e1 : hexQ σ c .u1 = σ.err := by unfold hexQ hexB digB; rw [l48, u57, l65, u70, l97, u102]; rfl
    rw [e1]
    try clear y
    clear x
    go_enter Tryz.func131, Tryz.ntmps131
    go_wp2_with (first | (go_at_call 97; refine (isW_any _ _).mono ?_; rintro e wz ⟨rfl, hz⟩; obtain rfl := hz.symm) | (go_at_call 108; refine (error_any b B _ _ c _ (by decide) _ h hw).mono ?_; rintro e w2 ⟨rfl, hS, hP⟩))
    all_goals go_ret
    first | exact ⟨_, rfl, hS, hP⟩ | exact ⟨_, hS, hP⟩
  · have l48 : decide (48 ≤ c) = true := decide_eq_true (by omega)
    have u57 : decide (c ≤ 57) = false := decide_eq_false (by omega)
    have l65 : decide (65 ≤ c) = true := decide_eq_true (by omega)
    have u70 : decide (c ≤ 70) = true := decide_eq_true (by omega)
    have l97 : decide (97 ≤ c) = false := decide_eq_false (by omega)
    have u102 : decide (c ≤ 102) = true := decide_eq_true (by omega)
    have e1 : hexQ σ c .u1 = σ.to 0 .u1 := by unfold hexQ hexB digB; rw [l48, u57, l65, u70, l97, u102]; rfl
    rw [e1]
    try clear y
    clear x
    have hst := h.store 137
    have h1 := h.setQ .u1
    have s1 := Stp.set b v w 0 (fv .u1)
    clear h
    go_enter Tryz.func131, Tryz.ntmps131
    go_wp2_with (first | (go_at_call 97; refine (isW_any _ _).mono ?_; rintro e wz ⟨rfl, hz⟩; obtain rfl := hz.symm))
    all_goals go_ret
    first | exact ⟨_, rfl, h1, s1⟩ | exact ⟨_, h1, s1⟩ | exact ⟨rfl, _, h1, s1⟩
  · have l48 : decide (48 ≤ c) = true := decide_eq_true (by omega)
    have u57 : decide (c ≤ 57) = false := decide_eq_false (by omega)
    have l65 : decide (65 ≤ c) = true := decide_eq_true (by omega)
    have u70 : decide (c ≤ 70) = false := decide_eq_false (by omega)
    have l97 : decide (97 ≤ c) = false := decide_eq_false (by omega)
    have u102 : decide (c ≤ 102) = true := decide_eq_true (by omega)
    have e1 : hexQ σ c .u1 = σ.err := by unfold hexQ hexB digB; rw [l48, u57, l65, u70, l97, u102]; rfl
    rw [e1]
    try clear y
    clear x
    go_enter Tryz.func131, Tryz.ntmps131
    go_wp2_with (first | (go_at_call 97; refine (isW_any _ _).mono ?_; rintro e wz ⟨rfl, hz⟩; obtain rfl := hz.symm) | (go_at_call 108; refine (error_any b B _ _ c _ (by decide) _ h hw).mono ?_; rintro e w2 ⟨rfl, hS, hP⟩))
    all_goals go_ret
    first | exact ⟨_, rfl, hS, hP⟩ | exact ⟨_, hS, hP⟩
  · have l48 : decide (48 ≤ c) = true := decide_eq_true (by omega)
    have u57 : decide (c ≤ 57) = false := decide_eq_false (by omega)
    have l65 : decide (65 ≤ c) = true := decide_eq_true (by omega)
    have u70 : decide (c ≤ 70) = false := decide_eq_false (by omega)
    have l97 : decide (97 ≤ c) = true := decide_eq_true (by omega)
    have u102 : decide (c ≤ 102) = true := decide_eq_true (by omega)
    have e1 : hexQ σ c .u1 = σ.to 0 .u1 := by unfold hexQ hexB digB; rw [l48, u57, l65, u70, l97, u102]; rfl
    rw [e1]
    try clear y
    clear x
    have hst := h.store 137
    have h1 := h.setQ .u1
    have s1 := Stp.set b v w 0 (fv .u1)
    clear h
    go_enter Tryz.func131, Tryz.ntmps131
    go_wp2_with (first | (go_at_call 97; refine (isW_any _ _).mono ?_; rintro e wz ⟨rfl, hz⟩; obtain rfl := hz.symm))
    all_goals go_ret
    first | exact ⟨_, rfl, h1, s1⟩ | exact ⟨_, h1, s1⟩ | exact ⟨rfl, _, h1, s1⟩
  · have l48 : decide (48 ≤ c) = true := decide_eq_true (by omega)
    have u57 : decide (c ≤ 57) = false := decide_eq_false (by omega)
    have l65 : decide (65 ≤ c) = true := decide_eq_true (by omega)
    have u70 : decide (c ≤ 70) = false := decide_eq_false (by omega)
    have l97 : decide (97 ≤ c) = true := decide_eq_true (by omega)
    have u102 : decide (c ≤ 102) = false := decide_eq_false (by omega)
    have e1 : hexQ σ c .u1 = σ.err := by unfold hexQ hexB digB; rw [l48, u57, l65, u70, l97, u102]; rfl
    rw [e1]
    try clear y
    clear x
    go_enter Tryz.func131, Tryz.ntmps131
    go_wp2_with (first | (go_at_call 97; refine (isW_any _ _).mono ?_; rintro e wz ⟨rfl, hz⟩; obtain rfl := hz.symm) | (go_at_call 108; refine (error_any b B _ _ c _ (by decide) _ h hw).mono ?_; rintro e w2 ⟨rfl, hS, hP⟩))
    all_goals go_ret
    first | exact ⟨_, rfl, hS, hP⟩ | exact ⟨_, hS, hP⟩

set_option maxRecDepth 100000 in
set_option maxHeartbeats 2000000 in
theorem u1_any (b B : Nat) (σ : Sc) (v : Value) (c : Int) (w : World) (h : IsS w b B σ v) (hw : B ≤ w.heap.size) :
    Calls Tryz.prog 137 #[.pointer (some ⟨b, 0, none⟩), .int .u8 c] w fun e w' => ∃ v', e = .returned (.int .i64 (hexQ σ c .u2).1) ∧ IsS w' b B (hexQ σ c .u2).2 v' ∧ Stp b v w v' w' := by
  have hcl : c < 48 ∨ (48 ≤ c ∧ c ≤ 57) ∨ (57 < c ∧ c < 65) ∨ (65 ≤ c ∧ c ≤ 70) ∨ (70 < c ∧ c < 97) ∨ (97 ≤ c ∧ c ≤ 102) ∨ 102 < c := by omega
  rcases hcl with x | ⟨x, y⟩ | ⟨x, y⟩ | ⟨x, y⟩ | ⟨x, y⟩ | ⟨x, y⟩ | x
  · have l48 : decide (48 ≤ c) = false := decide_eq_false (by omega)
    have u57 : decide (c ≤ 57) = true := decide_eq_true (by omega)
    have l65 : decide (65 ≤ c) = false := decide_eq_false (by omega)
    have u70 : decide (c ≤ 70) = true := decide_eq_true (by omega)
    have l97 : decide (97 ≤ c) = false := decide_eq_false (by omega)
    have u102 : decide (c ≤ 102) = true := decide_eq_true (by omega)
    have e1 : hexQ σ c .u2 = σ.err := by unfold hexQ hexB digB; rw [l48, u57, l65, u70, l97, u102]; rfl
    rw [e1]
    try clear y
    clear x
    go_enter Tryz.func137, Tryz.ntmps137
    go_wp2_with (first | (go_at_call 97; refine (isW_any _ _).mono ?_; rintro e wz ⟨rfl, hz⟩; obtain rfl := hz.symm) | (go_at_call 108; refine (error_any b B _ _ c _ (by decide) _ h hw).mono ?_; rintro e w2 ⟨rfl, hS, hP⟩))
    all_goals go_ret
    first | exact ⟨_, rfl, hS, hP⟩ | exact ⟨_, hS, hP⟩
  · have l48 : decide (48 ≤ c) = true := decide_eq_true (by omega)
    have u57 : decide (c ≤ 57) = true := decide_eq_true (by omega)
    have l65 : decide (65 ≤ c) = false := decide_eq_false (by omega)
    have u70 : decide (c ≤ 70) = true := decide_eq_true (by omega)
    have l97 : decide (97 ≤ c) = false := decide_eq_false (by omega)
    have u102 : decide (c ≤ 102) = true := decide_eq_true (by omega)
    have e1 : hexQ σ c .u2 = σ.to 0 .u2 := by unfold hexQ hexB digB; rw [l48, u57, l65, u70, l97, u102]; rfl
    rw [e1]
    try clear y
    clear x
    have hst := h.store 140
    have h1 := h.setQ .u2
    have s1 := Stp.set b v w 0 (fv .u2)
    clear h
    go_enter Tryz.func137, Tryz.ntmps137
    go_wp2_with (first | (go_at_call 97; refine (isW_any _ _).mono ?_; rintro e wz ⟨rfl, hz⟩; obtain rfl := hz.symm))
    all_goals go_ret
    first | exact ⟨_, rfl, h1, s1⟩ | exact ⟨_, h1, s1⟩ | exact ⟨rfl, _, h1, s1⟩
  · have l48 : decide (48 ≤ c) = true := decide_eq_true (by omega)
    have u57 : decide (c ≤ 57) = false := decide_eq_false (by omega)
    have l65 : decide (65 ≤ c) = false := decide_eq_false (by omega)
    have u70 : decide (c ≤ 70) = true := decide_eq_true (by omega)
    have l97 : decide (97 ≤ c) = false := decide_eq_false (by omega)
    have u102 : decide (c ≤ 102) = true := decide_eq_true (by omega)
    have e1 : hexQ σ c .u2 = σ.err := by unfold hexQ hexB digB; rw [l48, u57, l65, u70, l97, u102]; rfl
    rw [e1]
    try clear y
    clear x
    go_enter Tryz.func137, Tryz.ntmps137
    go_wp2_with (first | (go_at_call 97; refine (isW_any _ _).mono ?_; rintro e wz ⟨rfl, hz⟩; obtain rfl := hz.symm) | (go_at_call 108; refine (error_any b B _ _ c _ (by decide) _ h hw).mono ?_; rintro e w2 ⟨rfl, hS, hP⟩))
    all_goals go_ret
    first | exact ⟨_, rfl, hS, hP⟩ | exact ⟨_, hS, hP⟩
  · have l48 : decide (48 ≤ c) = true := decide_eq_true (by omega)
    have u57 : decide (c ≤ 57) = false := decide_eq_false (by omega)
    have l65 : decide (65 ≤ c) = true := decide_eq_true (by omega)
    have u70 : decide (c ≤ 70) = true := decide_eq_true (by omega)
    have l97 : decide (97 ≤ c) = false := decide_eq_false (by omega)
    have u102 : decide (c ≤ 102) = true := decide_eq_true (by omega)
    have e1 : hexQ σ c .u2 = σ.to 0 .u2 := by unfold hexQ hexB digB; rw [l48, u57, l65, u70, l97, u102]; rfl
    rw [e1]
    try clear y
    clear x
    have hst := h.store 140
    have h1 := h.setQ .u2
    have s1 := Stp.set b v w 0 (fv .u2)
    clear h
    go_enter Tryz.func137, Tryz.ntmps137
    go_wp2_with (first | (go_at_call 97; refine (isW_any _ _).mono ?_; rintro e wz ⟨rfl, hz⟩; obtain rfl := hz.symm))
    all_goals go_ret
    first | exact ⟨_, rfl, h1, s1⟩ | exact ⟨_, h1, s1⟩ | exact ⟨rfl, _, h1, s1⟩
  · have l48 : decide (48 ≤ c) = true := decide_eq_true (by omega)
    have u57 : decide (c ≤ 57) = false := decide_eq_false (by omega)
    have l65 : decide (65 ≤ c) = true := decide_eq_true (by omega)
    have u70 : decide (c ≤ 70) = false := decide_eq_false (by omega)
    have l97 : decide (97 ≤ c) = false := decide_eq_false (by omega)
    have u102 : decide (c ≤ 102) = true := decide_eq_true (by omega)
    have e1 : hexQ σ c .u2 = σ.err := by unfold hexQ hexB digB; rw [l48, u57, l65, u70, l97, u102]; rfl
    rw [e1]
    try clear y
    clear x
    go_enter Tryz.func137, Tryz.ntmps137
    go_wp2_with (first | (go_at_call 97; refine (isW_any _ _).mono ?_; rintro e wz ⟨rfl, hz⟩; obtain rfl := hz.symm) | (go_at_call 108; refine (error_any b B _ _ c _ (by decide) _ h hw).mono ?_; rintro e w2 ⟨rfl, hS, hP⟩))
    all_goals go_ret
    first | exact ⟨_, rfl, hS, hP⟩ | exact ⟨_, hS, hP⟩
  · have l48 : decide (48 ≤ c) = true := decide_eq_true (by omega)
    have u57 : decide (c ≤ 57) = false := decide_eq_false (by omega)
    have l65 : decide (65 ≤ c) = true := decide_eq_true (by omega)
    have u70 : decide (c ≤ 70) = false := decide_eq_false (by omega)
    have l97 : decide (97 ≤ c) = true := decide_eq_true (by omega)
    have u102 : decide (c ≤ 102) = true := decide_eq_true (by omega)
    have e1 : hexQ σ c .u2 = σ.to 0 .u2 := by unfold hexQ hexB digB; rw [l48, u57, l65, u70, l97, u102]; rfl
    rw [e1]
    try clear y
    clear x
    have hst := h.store 140
    have h1 := h.setQ .u2
    have s1 := Stp.set b v w 0 (fv .u2)
    clear h
    go_enter Tryz.func137, Tryz.ntmps137
    go_wp2_with (first | (go_at_call 97; refine (isW_any _ _).mono ?_; rintro e wz ⟨rfl, hz⟩; obtain rfl := hz.symm))
    all_goals go_ret
    first | exact ⟨_, rfl, h1, s1⟩ | exact ⟨_, h1, s1⟩ | exact ⟨rfl, _, h1, s1⟩
  · have l48 : decide (48 ≤ c) = true := decide_eq_true (by omega)
    have u57 : decide (c ≤ 57) = false := decide_eq_false (by omega)
    have l65 : decide (65 ≤ c) = true := decide_eq_true (by omega)
    have u70 : decide (c ≤ 70) = false := decide_eq_false (by omega)
    have l97 : decide (97 ≤ c) = true := decide_eq_true (by omega)
    have u102 : decide (c ≤ 102) = false := decide_eq_false (by omega)
    have e1 : hexQ σ c .u2 = σ.err := by unfold hexQ hexB digB; rw [l48, u57, l65, u70, l97, u102]; rfl
    rw [e1]
    try clear y
    clear x
    go_enter Tryz.func137, Tryz.ntmps137
    go_wp2_with (first | (go_at_call 97; refine (isW_any _ _).mono ?_; rintro e wz ⟨rfl, hz⟩; obtain rfl := hz.symm) | (go_at_call 108; refine (error_any b B _ _ c _ (by decide) _ h hw).mono ?_; rintro e w2 ⟨rfl, hS, hP⟩))
    all_goals go_ret
    first | exact ⟨_, rfl, hS, hP⟩ | exact ⟨_, hS, hP⟩

set_option maxRecDepth 100000 in
set_option maxHeartbeats 2000000 in
theorem u2_any (b B : Nat) (σ : Sc) (v : Value) (c : Int) (w : World) (h : IsS w b B σ v) (hw : B ≤ w.heap.size) :
    Calls Tryz.prog 140 #[.pointer (some ⟨b, 0, none⟩), .int .u8 c] w fun e w' => ∃ v', e = .returned (.int .i64 (hexQ σ c .u3).1) ∧ IsS w' b B (hexQ σ c .u3).2 v' ∧ Stp b v w v' w' := by
  have hcl : c < 48 ∨ (48 ≤ c ∧ c ≤ 57) ∨ (57 < c ∧ c < 65) ∨ (65 ≤ c ∧ c ≤ 70) ∨ (70 < c ∧ c < 97) ∨ (97 ≤ c ∧ c ≤ 102) ∨ 102 < c := by omega
  rcases hcl with x | ⟨x, y⟩ | ⟨x, y⟩ | ⟨x, y⟩ | ⟨x, y⟩ | ⟨x, y⟩ | x
  · have l48 : decide (48 ≤ c) = false := decide_eq_false (by omega)
    have u57 : decide (c ≤ 57) = true := decide_eq_true (by omega)
    have l65 : decide (65 ≤ c) = false := decide_eq_false (by omega)
    have u70 : decide (c ≤ 70) = true := decide_eq_true (by omega)
    have l97 : decide (97 ≤ c) = false := decide_eq_false (by omega)
    have u102 : decide (c ≤ 102) = true := decide_eq_true (by omega)
    have e1 : hexQ σ c .u3 = σ.err := by unfold hexQ hexB digB; rw [l48, u57, l65, u70, l97, u102]; rfl
    rw [e1]
    try clear y
    clear x
    go_enter Tryz.func140, Tryz.ntmps140
    go_wp2_with (first | (go_at_call 97; refine (isW_any _ _).mono ?_; rintro e wz ⟨rfl, hz⟩; obtain rfl := hz.symm) | (go_at_call 108; refine (error_any b B _ _ c _ (by decide) _ h hw).mono ?_; rintro e w2 ⟨rfl, hS, hP⟩))
    all_goals go_ret
    first | exact ⟨_, rfl, hS, hP⟩ | exact ⟨_, hS, hP⟩
  · have l48 : decide (48 ≤ c) = true := decide_eq_true (by omega)
    have u57 : decide (c ≤ 57) = true := decide_eq_true (by omega)
    have l65 : decide (65 ≤ c) = false := decide_eq_false (by omega)
    have u70 : decide (c ≤ 70) = true := decide_eq_true (by omega)
    have l97 : decide (97 ≤ c) = false := decide_eq_false (by omega)
    have u102 : decide (c ≤ 102) = true := decide_eq_true (by omega)
    have e1 : hexQ σ c .u3 = σ.to 0 .u3 := by unfold hexQ hexB digB; rw [l48, u57, l65, u70, l97, u102]; rfl
    rw [e1]
    try clear y
    clear x
    have hst := h.store 141
    have h1 := h.setQ .u3
    have s1 := Stp.set b v w 0 (fv .u3)
    clear h
    go_enter Tryz.func140, Tryz.ntmps140
    go_wp2_with (first | (go_at_call 97; refine (isW_any _ _).mono ?_; rintro e wz ⟨rfl, hz⟩; obtain rfl := hz.symm))
    all_goals go_ret
    first | exact ⟨_, rfl, h1, s1⟩ | exact ⟨_, h1, s1⟩ | exact ⟨rfl, _, h1, s1⟩
  · have l48 : decide (48 ≤ c) = true := decide_eq_true (by omega)
    have u57 : decide (c ≤ 57) = false := decide_eq_false (by omega)
    have l65 : decide (65 ≤ c) = false := decide_eq_false (by omega)
    have u70 : decide (c ≤ 70) = true := decide_eq_true (by omega)
    have l97 : decide (97 ≤ c) = false := decide_eq_false (by omega)
    have u102 : decide (c ≤ 102) = true := decide_eq_true (by omega)
    have e1 : hexQ σ c .u3 = σ.err := by unfold hexQ hexB digB; rw [l48, u57, l65, u70, l97, u102]; rfl
    rw [e1]
    try clear y
    clear x
    go_enter Tryz.func140, Tryz.ntmps140
    go_wp2_with (first | (go_at_call 97; refine (isW_any _ _).mono ?_; rintro e wz ⟨rfl, hz⟩; obtain rfl := hz.symm) | (go_at_call 108; refine (error_any b B _ _ c _ (by decide) _ h hw).mono ?_; rintro e w2 ⟨rfl, hS, hP⟩))
    all_goals go_ret
    first | exact ⟨_, rfl, hS, hP⟩ | exact ⟨_, hS, hP⟩
  · have l48 : decide (48 ≤ c) = true := decide_eq_true (by omega)
    have u57 : decide (c ≤ 57) = false := decide_eq_false (by omega)
    have l65 : decide (65 ≤ c) = true := decide_eq_true (by omega)
    have u70 : decide (c ≤ 70) = true := decide_eq_true (by omega)
    have l97 : decide (97 ≤ c) = false := decide_eq_false (by omega)
    have u102 : decide (c ≤ 102) = true := decide_eq_true (by omega)
    have e1 : hexQ σ c .u3 = σ.to 0 .u3 := by unfold hexQ hexB digB; rw [l48, u57, l65, u70, l97, u102]; rfl
    rw [e1]
    try clear y
    clear x
    have hst := h.store 141
    have h1 := h.setQ .u3
    have s1 := Stp.set b v w 0 (fv .u3)
    clear h
    go_enter Tryz.func140, Tryz.ntmps140
    go_wp2_with (first | (go_at_call 97; refine (isW_any _ _).mono ?_; rintro e wz ⟨rfl, hz⟩; obtain rfl := hz.symm))
    all_goals go_ret
    first | exact ⟨_, rfl, h1, s1⟩ | exact ⟨_, h1, s1⟩ | exact ⟨rfl, _, h1, s1⟩
  · have l48 : decide (48 ≤ c) = true := decide_eq_true (by omega)
    have u57 : decide (c ≤ 57) = false := decide_eq_false (by omega)
    have l65 : decide (65 ≤ c) = true := decide_eq_true (by omega)
    have u70 : decide (c ≤ 70) = false := decide_eq_false (by omega)
    have l97 : decide (97 ≤ c) = false := decide_eq_false (by omega)
    have u102 : decide (c ≤ 102) = true := decide_eq_true (by omega)
    have e1 : hexQ σ c .u3 = σ.err := by unfold hexQ hexB digB; rw [l48, u57, l65, u70, l97, u102]; rfl
    rw [e1]
    try clear y
    clear x
    go_enter Tryz.func140, Tryz.ntmps140
    go_wp2_with (first | (go_at_call 97; refine (isW_any _ _).mono ?_; rintro e wz ⟨rfl, hz⟩; obtain rfl := hz.symm) | (go_at_call 108; refine (error_any b B _ _ c _ (by decide) _ h hw).mono ?_; rintro e w2 ⟨rfl, hS, hP⟩))
    all_goals go_ret
    first | exact ⟨_, rfl, hS, hP⟩ | exact ⟨_, hS, hP⟩
  · have l48 : decide (48 ≤ c) = true := decide_eq_true (by omega)
    have u57 : decide (c ≤ 57) = false := decide_eq_false (by omega)
    have l65 : decide (65 ≤ c) = true := decide_eq_true (by omega)
    have u70 : decide (c ≤ 70) = false := decide_eq_false (by omega)
    have l97 : decide (97 ≤ c) = true := decide_eq_true (by omega)
    have u102 : decide (c ≤ 102) = true := decide_eq_true (by omega)
    have e1 : hexQ σ c .u3 = σ.to 0 .u3 := by unfold hexQ hexB digB; rw [l48, u57, l65, u70, l97, u102]; rfl
    rw [e1]
    try clear y
    clear x
    have hst := h.store 141
    have h1 := h.setQ .u3
    have s1 := Stp.set b v w 0 (fv .u3)
    clear h
    go_enter Tryz.func140, Tryz.ntmps140
    go_wp2_with (first | (go_at_call 97; refine (isW_any _ _).mono ?_; rintro e wz ⟨rfl, hz⟩; obtain rfl := hz.symm))
    all_goals go_ret
    first | exact ⟨_, rfl, h1, s1⟩ | exact ⟨_, h1, s1⟩ | exact ⟨rfl, _, h1, s1⟩
  · have l48 : decide (48 ≤ c) = true := decide_eq_true (by omega)
    have u57 : decide (c ≤ 57) = false := decide_eq_false (by omega)
    have l65 : decide (65 ≤ c) = true := decide_eq_true (by omega)
    have u70 : decide (c ≤ 70) = false := decide_eq_false (by omega)
    have l97 : decide (97 ≤ c) = true := decide_eq_true (by omega)
    have u102 : decide (c ≤ 102) = false := decide_eq_false (by omega)
    have e1 : hexQ σ c .u3 = σ.err := by unfold hexQ hexB digB; rw [l48, u57, l65, u70, l97, u102]; rfl
    rw [e1]
    try clear y
    clear x
    go_enter Tryz.func140, Tryz.ntmps140
    go_wp2_with (first | (go_at_call 97; refine (isW_any _ _).mono ?_; rintro e wz ⟨rfl, hz⟩; obtain rfl := hz.symm) | (go_at_call 108; refine (error_any b B _ _ c _ (by decide) _ h hw).mono ?_; rintro e w2 ⟨rfl, hS, hP⟩))
    all_goals go_ret
    first | exact ⟨_, rfl, hS, hP⟩ | exact ⟨_, hS, hP⟩

set_option maxRecDepth 100000 in
set_option maxHeartbeats 2000000 in
theorem u3_any (b B : Nat) (σ : Sc) (v : Value) (c : Int) (w : World) (h : IsS w b B σ v) (hw : B ≤ w.heap.size) :
    Calls Tryz.prog 141 #[.pointer (some ⟨b, 0, none⟩), .int .u8 c] w fun e w' => ∃ v', e = .returned (.int .i64 (hexQ σ c .str).1) ∧ IsS w' b B (hexQ σ c .str).2 v' ∧ Stp b v w v' w' := by
  have hcl : c < 48 ∨ (48 ≤ c ∧ c ≤ 57) ∨ (57 < c ∧ c < 65) ∨ (65 ≤ c ∧ c ≤ 70) ∨ (70 < c ∧ c < 97) ∨ (97 ≤ c ∧ c ≤ 102) ∨ 102 < c := by omega
  rcases hcl with x | ⟨x, y⟩ | ⟨x, y⟩ | ⟨x, y⟩ | ⟨x, y⟩ | ⟨x, y⟩ | x
  · have l48 : decide (48 ≤ c) = false := decide_eq_false (by omega)
    have u57 : decide (c ≤ 57) = true := decide_eq_true (by omega)
    have l65 : decide (65 ≤ c) = false := decide_eq_false (by omega)
    have u70 : decide (c ≤ 70) = true := decide_eq_true (by omega)
    have l97 : decide (97 ≤ c) = false := decide_eq_false (by omega)
    have u102 : decide (c ≤ 102) = true := decide_eq_true (by omega)
    have e1 : hexQ σ c .str = σ.err := by unfold hexQ hexB digB; rw [l48, u57, l65, u70, l97, u102]; rfl
    rw [e1]
    try clear y
    clear x
    go_enter Tryz.func141, Tryz.ntmps141
    go_wp2_with (first | (go_at_call 97; refine (isW_any _ _).mono ?_; rintro e wz ⟨rfl, hz⟩; obtain rfl := hz.symm) | (go_at_call 108; refine (error_any b B _ _ c _ (by decide) _ h hw).mono ?_; rintro e w2 ⟨rfl, hS, hP⟩))
    all_goals go_ret
    first | exact ⟨_, rfl, hS, hP⟩ | exact ⟨_, hS, hP⟩
  · have l48 : decide (48 ≤ c) = true := decide_eq_true (by omega)
    have u57 : decide (c ≤ 57) = true := decide_eq_true (by omega)
    have l65 : decide (65 ≤ c) = false := decide_eq_false (by omega)
    have u70 : decide (c ≤ 70) = true := decide_eq_true (by omega)
    have l97 : decide (97 ≤ c) = false := decide_eq_false (by omega)
    have u102 : decide (c ≤ 102) = true := decide_eq_true (by omega)
    have e1 : hexQ σ c .str = σ.to 0 .str := by unfold hexQ hexB digB; rw [l48, u57, l65, u70, l97, u102]; rfl
    rw [e1]
    try clear y
    clear x
    have hst := h.store 101
    have h1 := h.setQ .str
    have s1 := Stp.set b v w 0 (fv .str)
    clear h
    go_enter Tryz.func141, Tryz.ntmps141
    go_wp2_with (first | (go_at_call 97; refine (isW_any _ _).mono ?_; rintro e wz ⟨rfl, hz⟩; obtain rfl := hz.symm))
    all_goals go_ret
    first | exact ⟨_, rfl, h1, s1⟩ | exact ⟨_, h1, s1⟩ | exact ⟨rfl, _, h1, s1⟩
  · have l48 : decide (48 ≤ c) = true := decide_eq_true (by omega)
    have u57 : decide (c ≤ 57) = false := decide_eq_false (by omega)
    have l65 : decide (65 ≤ c) = false := decide_eq_false (by omega)
    have u70 : decide (c ≤ 70) = true := decide_eq_true (by omega)
    have l97 : decide (97 ≤ c) = false := decide_eq_false (by omega)
    have u102 : decide (c ≤ 102) = true := decide_eq_true (by omega)
    have e1 : hexQ σ c .str = σ.err := by unfold hexQ hexB digB; rw [l48, u57, l65, u70, l97, u102]; rfl
    rw [e1]
    try clear y
    clear x
    go_enter Tryz.func141, Tryz.ntmps141
    go_wp2_with (first | (go_at_call 97; refine (isW_any _ _).mono ?_; rintro e wz ⟨rfl, hz⟩; obtain rfl := hz.symm) | (go_at_call 108; refine (error_any b B _ _ c _ (by decide) _ h hw).mono ?_; rintro e w2 ⟨rfl, hS, hP⟩))
    all_goals go_ret
    first | exact ⟨_, rfl, hS, hP⟩ | exact ⟨_, hS, hP⟩
  · have l48 : decide (48 ≤ c) = true := decide_eq_true (by omega)
    have u57 : decide (c ≤ 57) = false := decide_eq_false (by omega)
    have l65 : decide (65 ≤ c) = true := decide_eq_true (by omega)
    have u70 : decide (c ≤ 70) = true := decide_eq_true (by omega)
    have l97 : decide (97 ≤ c) = false := decide_eq_false (by omega)
    have u102 : decide (c ≤ 102) = true := decide_eq_true (by omega)
    have e1 : hexQ σ c .str = σ.to 0 .str := by unfold hexQ hexB digB; rw [l48, u57, l65, u70, l97, u102]; rfl
    rw [e1]
    try clear y
    clear x
    have hst := h.store 101
    have h1 := h.setQ .str
    have s1 := Stp.set b v w 0 (fv .str)
    clear h
    go_enter Tryz.func141, Tryz.ntmps141
    go_wp2_with (first | (go_at_call 97; refine (isW_any _ _).mono ?_; rintro e wz ⟨rfl, hz⟩; obtain rfl := hz.symm))
    all_goals go_ret
    first | exact ⟨_, rfl, h1, s1⟩ | exact ⟨_, h1, s1⟩ | exact ⟨rfl, _, h1, s1⟩
  · have l48 : decide (48 ≤ c) = true := decide_eq_true (by omega)
    have u57 : decide (c ≤ 57) = false := decide_eq_false (by omega)
    have l65 : decide (65 ≤ c) = true := decide_eq_true (by omega)
    have u70 : decide (c ≤ 70) = false := decide_eq_false (by omega)
    have l97 : decide (97 ≤ c) = false := decide_eq_false (by omega)
    have u102 : decide (c ≤ 102) = true := decide_eq_true (by omega)
    have e1 : hexQ σ c .str = σ.err := by unfold hexQ hexB digB; rw [l48, u57, l65, u70, l97, u102]; rfl
    rw [e1]
    try clear y
    clear x
    go_enter Tryz.func141, Tryz.ntmps141
    go_wp2_with (first | (go_at_call 97; refine (isW_any _ _).mono ?_; rintro e wz ⟨rfl, hz⟩; obtain rfl := hz.symm) | (go_at_call 108; refine (error_any b B _ _ c _ (by decide) _ h hw).mono ?_; rintro e w2 ⟨rfl, hS, hP⟩))
    all_goals go_ret
    first | exact ⟨_, rfl, hS, hP⟩ | exact ⟨_, hS, hP⟩
  · have l48 : decide (48 ≤ c) = true := decide_eq_true (by omega)
    have u57 : decide (c ≤ 57) = false := decide_eq_false (by omega)
    have l65 : decide (65 ≤ c) = true := decide_eq_true (by omega)
    have u70 : decide (c ≤ 70) = false := decide_eq_false (by omega)
    have l97 : decide (97 ≤ c) = true := decide_eq_true (by omega)
    have u102 : decide (c ≤ 102) = true := decide_eq_true (by omega)
    have e1 : hexQ σ c .str = σ.to 0 .str := by unfold hexQ hexB digB; rw [l48, u57, l65, u70, l97, u102]; rfl
    rw [e1]
    try clear y
    clear x
    have hst := h.store 101
    have h1 := h.setQ .str
    have s1 := Stp.set b v w 0 (fv .str)
    clear h
    go_enter Tryz.func141, Tryz.ntmps141
    go_wp2_with (first | (go_at_call 97; refine (isW_any _ _).mono ?_; rintro e wz ⟨rfl, hz⟩; obtain rfl := hz.symm))
    all_goals go_ret
    first | exact ⟨_, rfl, h1, s1⟩ | exact ⟨_, h1, s1⟩ | exact ⟨rfl, _, h1, s1⟩
  · have l48 : decide (48 ≤ c) = true := decide_eq_true (by omega)
    have u57 : decide (c ≤ 57) = false := decide_eq_false (by omega)
    have l65 : decide (65 ≤ c) = true := decide_eq_true (by omega)
    have u70 : decide (c ≤ 70) = false := decide_eq_false (by omega)
    have l97 : decide (97 ≤ c) = true := decide_eq_true (by omega)
    have u102 : decide (c ≤ 102) = false := decide_eq_false (by omega)
    have e1 : hexQ σ c .str = σ.err := by unfold hexQ hexB digB; rw [l48, u57, l65, u70, l97, u102]; rfl
    rw [e1]
    try clear y
    clear x
    go_enter Tryz.func141, Tryz.ntmps141
    go_wp2_with (first | (go_at_call 97; refine (isW_any _ _).mono ?_; rintro e wz ⟨rfl, hz⟩; obtain rfl := hz.symm) | (go_at_call 108; refine (error_any b B _ _ c _ (by decide) _ h hw).mono ?_; rintro e w2 ⟨rfl, hS, hP⟩))
    all_goals go_ret
    first | exact ⟨_, rfl, hS, hP⟩ | exact ⟨_, hS, hP⟩

set_option maxRecDepth 100000 in
set_option maxHeartbeats 2000000 in
theorem bsE_any (b B : Nat) (σ : Sc) (v : Value) (c : Int) (w : World) (h : IsS w b B σ v) (hw : B ≤ w.heap.size) (hne : σ.stk ≠ []) :
    Calls Tryz.prog 98 #[.pointer (some ⟨b, 0, none⟩), .int .u8 c] w fun e w' => ∃ v', e = .returned (.int .i64 (bsEQ σ c).1) ∧ IsS w' b B (bsEQ σ c).2 v' ∧ Stp b v w v' w' := by
  cases hW : isW c
  case true =>
    have e1 : bsEQ σ c = (9, σ) := by unfold bsEQ; rw [hW]; rfl
    rw [e1]
    go_enter Tryz.func98, Tryz.ntmps98
    go_wp2_with (first | (go_at_call 97; refine (isW_any _ _).mono ?_; rintro e wz ⟨rfl, hz⟩; obtain rfl := hz.symm))
    all_goals go_ret
    first | exact ⟨_, rfl, h, Stp.refl _ _ _⟩ | exact ⟨_, h, Stp.refl _ _ _⟩
  by_cases n0 : c = 125
  · subst n0
    obtain ⟨q, top, stk, bad⟩ := σ
    cases stk with
    | nil => exact absurd rfl hne
    | cons k r =>
      have e1 : bsEQ ⟨q, top, k :: r, bad⟩ 125 = endQ ⟨q, top, 1 :: r, bad⟩ 125 := rfl
      rw [e1]
      obtain ⟨g, cap, rfl, hc1, hc2⟩ := h.form (k := k) (r := r) rfl
      have hcI : (cap : Int) ≤ 9223372036854775807 := by unfold maxLen at hc2; omega
      have hh := h.setHead (k := k) (r := r) rfl 1
      obtain ⟨m, hm⟩ : ∃ m, r.length = m := ⟨_, rfl⟩
      rw [hm] at h hc1 hh ⊢
      obtain ⟨ck, cf, hH, sH⟩ := hh
      have hmI : (0 : Int) ≤ (m : Int) := by omega
      have hmc : (m : Int) + 1 ≤ (cap : Int) := by omega
      obtain ⟨e, n, _, _, _, c2, _, _, _⟩ := h.cells
      clear hc1 hc2 hm hne h
      go_enter Tryz.func98, Tryz.ntmps98
      go_upto_region 6 with (go_at_call 97; refine (isW_any _ _).mono ?_; rintro e wz ⟨rfl, hz⟩; obtain rfl := hz.symm)
      clear ck cf c2
      generalize w.setCell ⟨g, m, none⟩ (.int .i64 1) = w1 at hH sH ⊢
      have hn := end_any b B _ _ 125 w1 hH (Nat.le_trans hw sH.size)
      go_wp2_with (go_at_call 113; refine hn.mono ?_; rintro e w2 ⟨v', rfl, hS, hP'⟩; have hP := sH.trans hP')
      all_goals go_ret
      first | exact ⟨_, rfl, hS, hP⟩ | exact ⟨_, hS, hP⟩ | exact ⟨rfl, _, hS, hP⟩
  · have n0b : (c == 125) = false := by simpa using n0
    have e1 : bsEQ σ c = bsQ σ c := by unfold bsEQ; rw [hW, if_neg (by decide), if_neg n0]
    rw [e1]
    clear n0
    go_enter Tryz.func98, Tryz.ntmps98
    go_wp2_with (first | (go_at_call 97; refine (isW_any _ _).mono ?_; rintro e wz ⟨rfl, hz⟩; obtain rfl := hz.symm) | (go_at_call 114; refine (bs_any b B _ _ c _ h hw).mono ?_; rintro e w2 ⟨v', rfl, hS, hP⟩))
    all_goals go_ret
    first | exact ⟨_, rfl, hS, hP⟩ | exact ⟨_, hS, hP⟩ | exact ⟨rfl, _, hS, hP⟩

set_option maxRecDepth 100000 in
set_option maxHeartbeats 2000000 in
theorem er_any (b B : Nat) (σ : Sc) (v : Value) (c : Int) (w : World) (h : IsS w b B σ v) (hw : B ≤ w.heap.size) :
    Calls Tryz.prog 121 #[.pointer (some ⟨b, 0, none⟩), .int .u8 c] w fun e w' => ∃ v', e = .returned (.int .i64 (((11, σ) : Int × Sc)).1) ∧ IsS w' b B (((11, σ) : Int × Sc)).2 v' ∧ Stp b v w v' w' := by
  go_enter Tryz.func121, Tryz.ntmps121
  go_wp2_with (first | (go_at_call 97; refine (isW_any _ _).mono ?_; rintro e wz ⟨rfl, hz⟩; obtain rfl := hz.symm))
  all_goals go_ret
  first | exact ⟨_, rfl, h, Stp.refl _ _ _⟩ | exact ⟨_, h, Stp.refl _ _ _⟩

/-- One step of the scanner. -/
theorem step_any (b B : Nat) (σ : Sc) (v : Value) (c : Int) (w : World) (h : IsS w b B σ v) (hw : B ≤ w.heap.size) (hl : σ.stk.length < 10000) (hne : σ.q = .bsE → σ.stk ≠ []) :
    Calls Tryz.prog (fnQ σ.q) #[.pointer (some ⟨b, 0, none⟩), .int .u8 c] w fun e w' => ∃ v', e = .returned (.int .i64 (stepQ σ c).1) ∧ IsS w' b B (stepQ σ c).2 v' ∧ Stp b v w v' w' := by
  obtain ⟨q, top, stk, bad⟩ := σ
  cases q
  · exact bv_any b B _ v c w h hw hl
  · exact bvE_any b B _ v c w h hw hl
  · exact bsE_any b B _ v c w h hw (hne rfl)
  · exact bs_any b B _ v c w h hw
  · exact end_any b B _ v c w h hw
  · exact top_any b B _ v c w h hw
  · exact str_any b B _ v c w h hw
  · exact esc_any b B _ v c w h hw
  · exact u0_any b B _ v c w h hw
  · exact u1_any b B _ v c w h hw
  · exact u2_any b B _ v c w h hw
  · exact u3_any b B _ v c w h hw
  · exact neg_any b B _ v c w h hw
  · exact s1_any b B _ v c w h hw
  · exact s0_any b B _ v c w h hw
  · exact dot_any b B _ v c w h hw
  · exact dot0_any b B _ v c w h hw
  · exact ee_any b B _ v c w h hw
  · exact esg_any b B _ v c w h hw
  · exact e0_any b B _ v c w h hw
  · exact t1_any b B _ v c w h hw
  · exact t2_any b B _ v c w h hw
  · exact t3_any b B _ v c w h hw
  · exact f1_any b B _ v c w h hw
  · exact f2_any b B _ v c w h hw
  · exact f3_any b B _ v c w h hw
  · exact f4_any b B _ v c w h hw
  · exact n1_any b B _ v c w h hw
  · exact n2_any b B _ v c w h hw
  · exact n3_any b B _ v c w h hw
  · exact er_any b B _ v c w h hw
end
end Go.Proofs.YtjbffgjclnjkoaaGreatDoor
