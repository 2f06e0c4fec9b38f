/- The scanner at the end of a value: the function itself. -/
import Derived.Test.YtjbffgjclnjkoaaGreatDoorSe
namespace Go.Proofs.YtjbffgjclnjkoaaGreatDoor
set_option linter.unusedVariables false
set_option linter.unusedSimpArgs false
open Go.RowKit Go.Shelf

set_option maxRecDepth 100000 in
set_option maxHeartbeats 2000000 in
theorem end_any (b B : Nat) (σ : Sc) (v : Value) (c : Int) (w : World) (h : IsS w b B σ v) (hw : B ≤ w.heap.size) :
    Calls Tryz.prog 113 #[.pointer (some ⟨b, 0, none⟩), .int .u8 c] w fun e w' => ∃ v', e = .returned (.int .i64 (endQ σ c).1) ∧ IsS w' b B (endQ σ c).2 v' ∧ Stp b v w v' w' := by
  obtain ⟨q, top, stk, bad⟩ := σ
  cases stk with
  | nil =>
    have e1 : endQ ⟨q, top, [], bad⟩ c = topQ ⟨.et, true, [], bad⟩ c := rfl
    rw [e1]
    obtain ⟨ao, cap, hv⟩ := h.slice
    obtain rfl : v = .slice ao 0 cap := hv
    obtain ⟨e, n, _, _, _, c2, _, _, f0⟩ := h.cells
    have hst := h.store 129
    have h1 := h.setQ .et
    have s1 := Stp.set b (.slice ao 0 cap) w 0 (fv .et)
    have h1' : IsS (w.setCell ⟨b, 0, none⟩ (.func (.func 129) #[] #[])) b B ⟨.et, top, [], bad⟩ (.slice ao 0 cap) := h1
    have s1' : Stp b (.slice ao 0 cap) w (.slice ao 0 cap) (w.setCell ⟨b, 0, none⟩ (.func (.func 129) #[] #[])) := s1
    clear h1 s1 f0 e1
    go_enter Tryz.func113, Tryz.ntmps113
    go_upto_region 4 with fail
    clear hst c2 h
    generalize w.setCell ⟨b, 0, none⟩ (.func (.func 129) #[] #[]) = w1 at h1' s1' ⊢
    obtain ⟨e4, n4, _, _, g1, _, _, _, f4⟩ := h1'.cells
    have f41 := f4 1
    have h2 := h1'.setTop true
    have s2 := s1'.trans (Stp.set b _ w1 1 (.bool true))
    clear f4
    go_upto_region 5 with fail
    clear g1 f41 h1' s1'
    generalize w1.setCell ⟨b, 1, none⟩ (.bool true) = w2 at h2 s2 ⊢
    have ht := top_any b B _ _ c w2 h2 (Nat.le_trans hw s2.size)
    go_wp2_with (go_at_call 129; refine ht.mono ?_; rintro e w3 ⟨v', rfl, hS, hP⟩)
    all_goals go_ret
    exact ⟨_, rfl, hS, s2.trans hP⟩
  | cons k r =>
    obtain ⟨g, cap, rfl, hc1, hc2⟩ := h.form (k := k) (r := r) rfl
    have hcI : (cap : Int) ≤ 9223372036854775807 := by unfold maxLen at hc2; omega
    have hhead := fun x => h.setHead (k := k) (r := r) rfl x
    obtain ⟨m, hm⟩ : ∃ m, r.length = m := ⟨_, rfl⟩
    rw [hm] at h hc1 hhead ⊢
    have ck := (hhead 0).1
    have hhead : ∀ x : Int, (w.frozen? ⟨g, m, none⟩ = false ∧ w.cell? ⟨g, m, none⟩ = some (.int .i64 k)) ∧ IsS (w.setCell ⟨g, m, none⟩ (.int .i64 x)) b B ⟨q, top, x :: r, bad⟩ (.slice (some ⟨g, 0, none⟩) (m + 1) cap) ∧ Stp b (.slice (some ⟨g, 0, none⟩) (m + 1) cap) w (.slice (some ⟨g, 0, none⟩) (m + 1) cap) (w.setCell ⟨g, m, none⟩ (.int .i64 x)) := fun x => ⟨⟨(hhead x).2.1, (hhead x).1⟩, (hhead x).2.2⟩
    have hmI : (0 : Int) ≤ (m : Int) := by omega
    have hmc : (m : Int) + 1 ≤ (cap : Int) := by omega
    obtain ⟨e, n, _, _, _, c2, _, _, _⟩ := h.cells
    clear hc1 hc2 hm
    cases hW : isW c
    case true =>
      have e1 : endQ ⟨q, top, k :: r, bad⟩ c = Sc.to ⟨q, top, k :: r, bad⟩ 9 .ev := by unfold endQ; dsimp only; rw [hW]; rfl
      rw [e1]
      have hst := h.store 113
      have h1 := h.setQ .ev
      have s1 := Stp.set b (.slice (some ⟨g, 0, none⟩) (m + 1) cap) w 0 (fv .ev)
      clear h
      go_enter Tryz.func113, Tryz.ntmps113
      go_wp2_with (first | (go_at_call 97; refine (isW_any _ _).mono ?_; rintro e wz ⟨rfl, hz⟩; obtain rfl := hz.symm))
      all_goals go_ret
      first | exact ⟨_, rfl, h1, s1⟩ | exact ⟨_, h1, s1⟩ | exact ⟨rfl, _, h1, s1⟩
    have e0 : endQ ⟨q, top, k :: r, bad⟩ c = (if k = 0 then (if c = 58 then (3, ⟨.bv, top, 1 :: r, bad⟩) else Sc.err ⟨q, top, k :: r, bad⟩)
      else if k = 1 then (if c = 44 then (4, ⟨.bs, top, 0 :: r, bad⟩) else if c = 125 then (5, Sc.pop ⟨q, top, k :: r, bad⟩) else Sc.err ⟨q, top, k :: r, bad⟩)
      else if k = 2 then (if c = 44 then Sc.to ⟨q, top, k :: r, bad⟩ 7 .bv else if c = 93 then (8, Sc.pop ⟨q, top, k :: r, bad⟩) else Sc.err ⟨q, top, k :: r, bad⟩)
      else Sc.err ⟨q, top, k :: r, bad⟩) := by unfold endQ; dsimp only; rw [hW]; rfl
    rw [e0]
    clear e0
    by_cases k0 : k = 0
    · subst k0
      rw [if_pos rfl]
      by_cases c1 : c = 58
      · subst c1
        rw [if_pos rfl]
        obtain ⟨hk2, hH, sH⟩ := hhead 1
        have hkf := hk2.1
        have hkc := hk2.2
        go_enter Tryz.func113, Tryz.ntmps113
        go_upto_region 14 with (go_at_call 97; refine (isW_any _ _).mono ?_; rintro e wz ⟨rfl, hz⟩; obtain rfl := hz.symm)
        clear hkf hkc hk2
        generalize w.setCell ⟨g, m, none⟩ (.int .i64 1) = w1 at hH sH ⊢
        have hst := hH.store 89
        have h1 := hH.setQ .bv
        have s1 := sH.trans (Stp.set b _ w1 0 (fv .bv))
        clear hH sH h
        go_wp2_with fail
        all_goals go_ret
        first | exact ⟨_, rfl, h1, s1⟩ | exact ⟨_, h1, s1⟩ | exact ⟨rfl, _, h1, s1⟩
      · rw [if_neg c1]
        have b1 : (c == 58) = false := by simpa using c1
        clear c1
        go_enter Tryz.func113, Tryz.ntmps113
        go_wp2_with (first | (go_at_call 97; refine (isW_any _ _).mono ?_; rintro e wz ⟨rfl, hz⟩; obtain rfl := hz.symm) | (go_at_call 108; refine (error_any b B _ _ c _ (by decide) _ h hw).mono ?_; rintro e w2 ⟨rfl, hS, hP⟩))
        all_goals go_ret
        first | exact ⟨_, rfl, hS, hP⟩ | exact ⟨_, hS, hP⟩
    have kb0 : (k == 0) = false := by simpa using k0
    rw [if_neg k0]
    by_cases k1 : k = 1
    · subst k1
      rw [if_pos rfl]
      by_cases c1 : c = 44
      · subst c1
        rw [if_pos rfl]
        obtain ⟨hk2, hH, sH⟩ := hhead 0
        have hkf := hk2.1
        have hkc := hk2.2
        go_enter Tryz.func113, Tryz.ntmps113
        go_upto_region 20 with (go_at_call 97; refine (isW_any _ _).mono ?_; rintro e wz ⟨rfl, hz⟩; obtain rfl := hz.symm)
        clear hkf hkc hk2
        generalize w.setCell ⟨g, m, none⟩ (.int .i64 0) = w1 at hH sH ⊢
        have hst := hH.store 114
        have h1 := hH.setQ .bs
        have s1 := sH.trans (Stp.set b _ w1 0 (fv .bs))
        clear hH sH h
        go_wp2_with fail
        all_goals go_ret
        first | exact ⟨_, rfl, h1, s1⟩ | exact ⟨_, h1, s1⟩ | exact ⟨rfl, _, h1, s1⟩
      · rw [if_neg c1]
        have b1 : (c == 44) = false := by simpa using c1
        by_cases c2 : c = 125
        · subst c2
          rw [if_pos rfl]
          clear c1
          have hpop := pop_any b B _ _ _ r w h rfl
          go_enter Tryz.func113, Tryz.ntmps113
          go_wp2_with (first | (go_at_call 97; refine (isW_any _ _).mono ?_; rintro e wz ⟨rfl, hz⟩; obtain rfl := hz.symm) | (go_at_call 130; refine hpop.mono ?_; rintro e w2 ⟨⟨u, rfl⟩, v', hS, hP⟩))
          all_goals go_ret
          first | exact ⟨_, rfl, hS, hP⟩ | exact ⟨_, hS, hP⟩
        · rw [if_neg c2]
          have b2 : (c == 125) = false := by simpa using c2
          clear c1 c2
          go_enter Tryz.func113, Tryz.ntmps113
          go_wp2_with (first | (go_at_call 97; refine (isW_any _ _).mono ?_; rintro e wz ⟨rfl, hz⟩; obtain rfl := hz.symm) | (go_at_call 108; refine (error_any b B _ _ c _ (by decide) _ h hw).mono ?_; rintro e w2 ⟨rfl, hS, hP⟩))
          all_goals go_ret
          first | exact ⟨_, rfl, hS, hP⟩ | exact ⟨_, hS, hP⟩
    have kb1 : (k == 1) = false := by simpa using k1
    rw [if_neg k1]
    by_cases k2 : k = 2
    · subst k2
      rw [if_pos rfl]
      by_cases c1 : c = 44
      · subst c1
        rw [if_pos rfl]
        have hst := h.store 89
        have h1 := h.setQ .bv
        have s1 := Stp.set b (.slice (some ⟨g, 0, none⟩) (m + 1) cap) w 0 (fv .bv)
        clear h
        go_enter Tryz.func113, Tryz.ntmps113
        go_wp2_with (first | (go_at_call 97; refine (isW_any _ _).mono ?_; rintro e wz ⟨rfl, hz⟩; obtain rfl := hz.symm))
        all_goals go_ret
        first | exact ⟨_, rfl, h1, s1⟩ | exact ⟨_, h1, s1⟩ | exact ⟨rfl, _, h1, s1⟩
      · rw [if_neg c1]
        have b1 : (c == 44) = false := by simpa using c1
        by_cases c2 : c = 93
        · subst c2
          rw [if_pos rfl]
          clear c1
          have hpop := pop_any b B _ _ _ r w h rfl
          go_enter Tryz.func113, Tryz.ntmps113
          go_wp2_with (first | (go_at_call 97; refine (isW_any _ _).mono ?_; rintro e wz ⟨rfl, hz⟩; obtain rfl := hz.symm) | (go_at_call 130; refine hpop.mono ?_; rintro e w2 ⟨⟨u, rfl⟩, v', hS, hP⟩))
          all_goals go_ret
          first | exact ⟨_, rfl, hS, hP⟩ | exact ⟨_, hS, hP⟩
        · rw [if_neg c2]
          have b2 : (c == 93) = false := by simpa using c2
          clear c1 c2
          go_enter Tryz.func113, Tryz.ntmps113
          go_wp2_with (first | (go_at_call 97; refine (isW_any _ _).mono ?_; rintro e wz ⟨rfl, hz⟩; obtain rfl := hz.symm) | (go_at_call 108; refine (error_any b B _ _ c _ (by decide) _ h hw).mono ?_; rintro e w2 ⟨rfl, hS, hP⟩))
          all_goals go_ret
          first | exact ⟨_, rfl, hS, hP⟩ | exact ⟨_, hS, hP⟩
    have kb2 : (k == 2) = false := by simpa using k2
    rw [if_neg k2]
    clear k0 k1 k2
    go_enter Tryz.func113, Tryz.ntmps113
    go_wp2_with (first | (go_at_call 97; refine (isW_any _ _).mono ?_; rintro e wz ⟨rfl, hz⟩; obtain rfl := hz.symm) | (go_at_call 108; refine (error_any b B _ _ c _ (by decide) _ h hw).mono ?_; rintro e w2 ⟨rfl, hS, hP⟩))
    all_goals go_ret
    first | exact ⟨_, rfl, hS, hP⟩ | exact ⟨_, hS, hP⟩
end Go.Proofs.YtjbffgjclnjkoaaGreatDoor
