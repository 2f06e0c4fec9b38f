/- The scanner at the end of a value. -/
import Derived.Test.YtjbffgjclnjkoaaGreatDoorSp
namespace Go.Proofs.YtjbffgjclnjkoaaGreatDoor
set_option linter.unusedVariables false
set_option linter.unusedSimpArgs false
open Go.RowKit Go.Shelf

theorem IsS.slice {w : World} {b B : Nat} {σ : Sc} {v : Value} (h : IsS w b B σ v) : ∃ ao cap, v = .slice ao σ.stk.length cap := by
  rcases h.row.2 with ⟨rfl, h0⟩ | ⟨g, cap, cur, rfl, _⟩
  · exact ⟨none, 0, by rw [h0]⟩
  · exact ⟨_, cap, rfl⟩
set_option maxRecDepth 100000 in
set_option maxHeartbeats 2000000 in
theorem top_any (b B : Nat) (σ : Sc) (v : Value) (c : Int) (w : World) (h : IsS w b B σ v) (hw : B ≤ w.heap.size) :
    Calls Tryz.prog 129 #[.pointer (some ⟨b, 0, none⟩), .int .u8 c] w fun e w' => ∃ v', e = .returned (.int .i64 (topQ σ c).1) ∧ IsS w' b B (topQ σ c).2 v' ∧ Stp b v w v' w' := by
  cases hW : isW c
  · have e1 : topQ σ c = (10, σ.err.2) := by unfold topQ; rw [hW]; rfl
    rw [e1]
    go_enter Tryz.func129, Tryz.ntmps129
    go_wp2_with (first | (go_at_call 97; refine (isW_any _ _).mono ?_; rintro e wz ⟨rfl, hz⟩; obtain rfl := hz.symm) | (go_at_call 108; refine (error_any b B _ _ c _ (by decide) _ h hw).mono ?_; rintro e w2 ⟨rfl, hS, hP⟩))
    all_goals go_ret
    first | exact ⟨_, rfl, hS, hP⟩ | exact ⟨_, hS, hP⟩
  · have e1 : topQ σ c = (10, σ) := by unfold topQ; rw [hW]; rfl
    rw [e1]
    go_enter Tryz.func129, Tryz.ntmps129
    go_wp2_with (first | (go_at_call 97; refine (isW_any _ _).mono ?_; rintro e wz ⟨rfl, hz⟩; obtain rfl := hz.symm))
    all_goals go_ret
    first | exact ⟨_, rfl, h, Stp.refl _ _ _⟩ | exact ⟨_, h, Stp.refl _ _ _⟩
set_option maxRecDepth 100000 in
set_option maxHeartbeats 2000000 in
theorem pop_any (b B : Nat) (σ : Sc) (v : Value) (k : Int) (r : List Int) (w : World) (h : IsS w b B σ v) (hs : σ.stk = k :: r) :
    Calls Tryz.prog 130 #[.pointer (some ⟨b, 0, none⟩)] w fun e w' => (∃ u, e = .returned u) ∧ ∃ v', IsS w' b B σ.pop v' ∧ Stp b v w v' w' := by
  obtain ⟨g, cap, rfl, hc1, hc2⟩ := h.form hs
  obtain ⟨e, n, _, _, _, c2, _, _, f0⟩ := h.cells
  have f2 := f0 2
  have hrow := h.row
  rw [hs] at hrow
  have hcut := own_cut (m := r.length) hrow (by simp)
  rw [stv_take] at hcut
  have hN := h.newRow (w1 := w) (l := r) rfl (fun _ _ _ _ => rfl) hcut
  have hP : Stp b (.slice (some ⟨g, 0, none⟩) (r.length + 1) cap) w (.slice (some ⟨g, 0, none⟩) r.length cap) (w.setCell ⟨b, 2, none⟩ (.slice (some ⟨g, 0, none⟩) r.length cap)) :=
    ⟨rfl, rfl, rfl, by simp [World.setCell], fun k hk hne _ => Below.heap_setCell _ _ _ _ (by simpa using hne), fun _ _ h => h⟩
  have hcI : (cap : Int) ≤ 9223372036854775807 := by unfold maxLen at hc2; omega
  have hq : σ.pop = (if r.length = 0 then { σ with q := .et, top := true, stk := r } else { σ with q := .ev, stk := r }) := by
    unfold Sc.pop
    rw [hs]
    cases r <;> rfl
  rw [hq]
  obtain ⟨m, hm⟩ : ∃ m, r.length = m := ⟨_, rfl⟩
  rw [hm] at c2 hN hP hc1
  rw [hm]
  have hmI : (0 : Int) ≤ (m : Int) := by omega
  have hmc : (m : Int) + 1 ≤ (cap : Int) := by omega
  clear hcut hrow h hc1 hc2 hq hm
  obtain ⟨e3, n3, _, d0, d1, d2, _, _, f3⟩ := hN.cells
  have f30 := f3 0
  have f31 := f3 1
  have hst1 := hN.store 129
  have hst2 := hN.store 113
  clear f0 f3
  by_cases h0 : m = 0
  · subst h0
    rw [if_pos rfl]
    go_enter Tryz.func130, Tryz.ntmps130
    go_upto_region 2 with fail
    clear c2 f2
    generalize w.setCell ⟨b, 2, none⟩ (.slice (some ⟨g, 0, none⟩) 0 cap) = w1 at hN hP d0 d1 d2 f30 f31 hst1 hst2 ⊢
    go_upto_region 4 with fail
    have h1 := hN.setQ .et
    have s1 := hP.trans (Stp.set b _ w1 0 (fv .et))
    have h1' : IsS (w1.setCell ⟨b, 0, none⟩ (.func (.func 129) #[] #[])) b B { σ with q := .et, stk := r } (.slice (some ⟨g, 0, none⟩) 0 cap) := h1
    have s1' : Stp b _ w _ (w1.setCell ⟨b, 0, none⟩ (.func (.func 129) #[] #[])) := s1
    clear h1 s1 hN hP d0 d1 d2 f30 f31 hst1 hst2
    generalize w1.setCell ⟨b, 0, none⟩ (.func (.func 129) #[] #[]) = w2 at h1' s1' ⊢
    obtain ⟨e4, n4, _, _, g1, _, _, _, f4⟩ := h1'.cells
    have f41 := f4 1
    clear f4
    go_wp2_with fail
    go_end0
    exact ⟨⟨_, rfl⟩, _, h1'.setTop true, s1'.trans (Stp.set b _ w2 1 _)⟩
  · have hmb : ((m : Int) == 0) = false := by simp; omega
    rw [if_neg h0]
    go_enter Tryz.func130, Tryz.ntmps130
    go_upto_region 2 with fail
    clear c2 f2
    generalize w.setCell ⟨b, 2, none⟩ (.slice (some ⟨g, 0, none⟩) m cap) = w1 at hN hP d0 d1 d2 f30 f31 hst1 hst2 ⊢
    go_wp2_with fail
    go_end0
    exact ⟨⟨_, rfl⟩, _, hN.setQ .ev, hP.trans (Stp.set b _ w1 0 (fv .ev))⟩
end Go.Proofs.YtjbffgjclnjkoaaGreatDoor
