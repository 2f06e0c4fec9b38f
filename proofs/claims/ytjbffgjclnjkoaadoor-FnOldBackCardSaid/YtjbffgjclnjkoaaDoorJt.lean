/- The reader of the reference at any text, exactly: Parse, Taken. Lines by program (mkjt.py). -/
import Derived.Test.YtjbffgjclnjkoaaDoorJv
import Derived.Test.YtjbffgjclnjkoaaDoorPs
import Derived.RegionTactic
import Derived.BigRegion
import Derived.ChangeAlike
namespace Go.Proofs.YtjbffgjclnjkoaaDoor
set_option linter.unusedVariables false
set_option linter.unusedSimpArgs false
open Go.RowKit

/-- What reading a whole text comes to. -/
def FinR (s : ByteArray) (tw lo : Bool) (σ' : St) : Prop := (s.size = 0 → σ'.fault ≠ 0) ∧ ∃ (r : Bool) (σ1 : St), RdR s tw lo .val ⟨0, 0, false⟩ r σ1 ∧ σ' = if r then (if (St.sp s σ1).at_ < s.size then (St.sp s σ1).fail 4 else St.sp s σ1) else σ1
set_option maxRecDepth 100000 in
set_option maxHeartbeats 4000000 in
theorem parse_ex (Nq : Value → Prop) (s : ByteArray) (tw lo : Bool) (w : World) (hs0 : s.size ≤ 2147483647)
    (hQ : ∀ σ σ', St.quoted s lo σ = (true, σ') → Nq (.string (s.extract σ.at_ (σ'.at_ + 1)))) (hag : tw = false → ∀ B, AgK Nq (w.heap.size + 1 + 1 + 1) B s lo) :
    Calls Tryd.prog 17 #[.string s, .agg #[.bool tw, .bool lo]] w fun e w' => (∃ (k1 : Int) (t1 : ByteArray) (na : Option Addr) (nl nc : Nat) (ka : Option Addr) (kl kc : Nat) (σF : St), e = .returned (.tuple #[.agg #[.int .u8 k1, .string t1, .slice na nl nc, .slice ka kl kc], .agg #[.int .i64 σF.fault, .int .i64 σF.at_, .bool σF.opn]]) ∧ FinR s tw lo σF) ∧ Below w.heap.size w w' := by
  have hs : s.size ≤ maxLen := by unfold maxLen; omega
  go_enter Tryd.func17, Tryd.ntmps17
  go_upto_region 2 with fail
  have hWB : Below w.heap.size w _ := (((((Below.refl _ w).alloc (Nat.le_refl _) (.cells #[.bool tw, .bool lo] 30)).alloc (by simp) (.cells #[.int .u8 0, .string ⟨#[]⟩, .slice none 0 0, .slice none 0 0] 47)).alloc (by simp; omega) (.cells #[.int .i64 0, .int .i64 0, .bool false] 49)).alloc (by simp; omega) (.cells #[.string s, .int .i64 0, .bool tw, .bool lo, .int .i64 0, .bool false] 69))
  have hR0 := newR (((w.alloc (.cells #[.bool tw, .bool lo] 30)).alloc (.cells #[.int .u8 0, .string ⟨#[]⟩, .slice none 0 0, .slice none 0 0] 47)).alloc (.cells #[.int .i64 0, .int .i64 0, .bool false] 49)) s tw lo 69
  have hN0 : NodeB ((((w.alloc (.cells #[.bool tw, .bool lo] 30)).alloc (.cells #[.int .u8 0, .string ⟨#[]⟩, .slice none 0 0, .slice none 0 0] 47)).alloc (.cells #[.int .i64 0, .int .i64 0, .bool false] 49)).alloc (.cells #[.string s, .int .i64 0, .bool tw, .bool lo, .int .i64 0, .bool false] 69)) (w.heap.size + 1) 0 ⟨#[]⟩ (.slice none 0 0) (.slice none 0 0) := by
    refine ⟨47, (Below.heap_alloc _ _ _ (by simp)).trans ((Below.heap_alloc _ _ _ (by simp)).trans ?_)⟩
    have := heap_alloc_new (w.alloc (.cells #[.bool tw, .bool lo] 30)) (.cells #[.int .u8 0, .string ⟨#[]⟩, .slice none 0 0, .slice none 0 0] 47)
    simpa using this
  have hO0 : OutB ((((w.alloc (.cells #[.bool tw, .bool lo] 30)).alloc (.cells #[.int .u8 0, .string ⟨#[]⟩, .slice none 0 0, .slice none 0 0] 47)).alloc (.cells #[.int .i64 0, .int .i64 0, .bool false] 49)).alloc (.cells #[.string s, .int .i64 0, .bool tw, .bool lo, .int .i64 0, .bool false] 69)) (w.heap.size + 1 + 1) 0 0 false := by
    refine ⟨49, (Below.heap_alloc _ _ _ (by simp)).trans ?_⟩
    have := heap_alloc_new ((w.alloc (.cells #[.bool tw, .bool lo] 30)).alloc (.cells #[.int .u8 0, .string ⟨#[]⟩, .slice none 0 0, .slice none 0 0] 47)) (.cells #[.int .i64 0, .int .i64 0, .bool false] 49)
    simpa using this
  revert hWB hR0 hN0 hO0
  simp only [World.size_alloc]
  generalize ((((w.alloc (.cells #[.bool tw, .bool lo] 30)).alloc (.cells #[.int .u8 0, .string ⟨#[]⟩, .slice none 0 0, .slice none 0 0] 47)).alloc (.cells #[.int .i64 0, .int .i64 0, .bool false] 49)).alloc (.cells #[.string s, .int .i64 0, .bool tw, .bool lo, .int .i64 0, .bool false] 69)) = w0
  intro hWB hR0 hN0 hO0
  have hlt0 := hR0.lt
  have hv := value_ex Nq (w.heap.size + 1 + 1 + 1) s tw lo hs0 hQ hag s.size ⟨0, 0, false⟩ (by simp) (Nat.zero_le _)
  go_upto_if 16 with (first
    | (go_at_call 24; refine (hv _ hR0).mono ?_; rintro e w1 ⟨k1, t1, na, nl, nc, ka, kl, kc, r, σ1, rfl, hR1, hM1, _, hle1, hz0, hv1⟩; have hz1 := And.intro hz0 hv1; clear hz0 hv1))
  have hs1 := hM1.size
  have hRA : IsR (w1.alloc (.cells #[.int .u8 k1, .string t1, .slice na nl nc, .slice ka kl kc] 47)) (w.heap.size + 1 + 1 + 1) s tw lo σ1 := hR1.other (Below.heap_alloc _ _ _ hR1.lt)
  have hnA : NodeB (w1.alloc (.cells #[.int .u8 k1, .string t1, .slice na nl nc, .slice ka kl kc] 47)) w1.heap.size k1 t1 (.slice na nl nc) (.slice ka kl kc) := ⟨_, heap_alloc_new _ _⟩
  have hl1 := hN0.lt
  have hl2 := hO0.lt
  have hNA := (hN0.mv hM1 (by omega)).other (Below.heap_alloc w1 (.cells #[.int .u8 k1, .string t1, .slice na nl nc, .slice ka kl kc] 47) (w.heap.size + 1) (by omega))
  have hOA := (hO0.other (hM1.block _ hl2 (by simp))).other (Below.heap_alloc w1 (.cells #[.int .u8 k1, .string t1, .slice na nl nc, .slice ka kl kc] 47) (w.heap.size + 1 + 1) (by omega))
  have hBA := (hWB.trans (hM1.below (B := w.heap.size) (by omega) (by omega))).alloc (by have := hWB.size; omega) (.cells #[.int .u8 k1, .string t1, .slice na nl nc, .slice ka kl kc] 47)
  have hne1 : w.heap.size + 1 + 1 + 1 < w1.heap.size := hR1.lt
  have keep : ∀ {u v : World}, Mv (w.heap.size + 1 + 1 + 1) u v → NodeB u (w.heap.size + 1) 0 ⟨#[]⟩ (.slice none 0 0) (.slice none 0 0) ∧ OutB u (w.heap.size + 1 + 1) 0 0 false ∧ NodeB u w1.heap.size k1 t1 (.slice na nl nc) (.slice ka kl kc) ∧ Below w.heap.size w u →
      NodeB v (w.heap.size + 1) 0 ⟨#[]⟩ (.slice none 0 0) (.slice none 0 0) ∧ OutB v (w.heap.size + 1 + 1) 0 0 false ∧ NodeB v w1.heap.size k1 t1 (.slice na nl nc) (.slice ka kl kc) ∧ Below w.heap.size w v := fun hm ⟨k1, k2, k3, k4⟩ =>
    ⟨k1.mv hm (by omega), k2.other (hm.block _ k2.lt (by simp)), k3.mv hm (by omega), k4.trans (hm.below (by omega) k4.size)⟩
  have hAll := And.intro hNA (And.intro hOA (And.intro hnA hBA))
  revert hRA hAll
  generalize (w1.alloc (.cells #[.int .u8 k1, .string t1, .slice na nl nc, .slice ka kl kc] 47)) = wA
  intro hRA hAll
  clear hNA hOA hnA hBA hv hN0 hO0 hR0 hWB hM1 hR1
  have HZ := Lib.hid hz1
  clear hz1
  go_cut [] (fun wx => ∃ σF : St, FinR s tw lo σF ∧ IsR wx (w.heap.size + 1 + 1 + 1) s tw lo σF ∧ NodeB wx (w.heap.size + 1) 0 ⟨#[]⟩ (.slice none 0 0) (.slice none 0 0) ∧ OutB wx (w.heap.size + 1 + 1) 0 0 false ∧ NodeB wx w1.heap.size k1 t1 (.slice na nl nc) (.slice ka kl kc) ∧ Below w.heap.size w wx)
  case first =>
    cases r
    · go_wp2_with fail
      go_meet
      exact ⟨σ1, ⟨HZ.out.1, false, σ1, HZ.out.2, rfl⟩, hRA, hAll⟩
    · obtain ⟨τ, HT⟩ : ∃ τ, Hid (St.space s (s.size - σ1.at_) σ1 = τ) := ⟨_, Lib.hid rfl⟩
      have hle2 : τ.at_ ≤ s.size := by rw [← HT.out, space_eq]; exact (spEnd_le s _ _ hle1).2
      have hsp : ∀ w', IsR w' (w.heap.size + 1 + 1 + 1) s tw lo σ1 → Calls Tryd.prog 25 #[.pointer (some ⟨w.heap.size + 1 + 1 + 1, 0, none⟩)] w' fun e w'' => e = .returned (.tuple #[]) ∧ IsR w'' (w.heap.size + 1 + 1 + 1) s tw lo τ ∧ Mv (w.heap.size + 1 + 1 + 1) w' w'' := fun w' h => by
        have := rspace_any _ s tw lo σ1 w' h hs hle1
        rwa [HT.out] at this
      by_cases hlt : τ.at_ < s.size
      · have hz2 : FinR s tw lo (τ.fail 4) := ⟨fun h => by omega, true, σ1, HZ.out.2, by
          have e : St.sp s σ1 = τ := HT.out
          rw [if_pos rfl, e, if_pos hlt]⟩
        have HZ2 := Lib.hid hz2
        clear hz2
        have hltI : (τ.at_ : Int) < (s.size : Int) := by omega
        clear hlt
        go_wp2_with (first
          | (go_at_call 25; refine (hsp _ hRA).mono ?_; rintro e w2 ⟨rfl, hR2, hM2⟩; obtain ⟨c0, c1, c2, c3, c4, c5, f1, f4, f5⟩ := hR2.cells)
          | (go_at_call 26; refine (fail_any _ s tw lo τ _ _ hR2).mono ?_; rintro e w3 ⟨rfl, hR3, hM3⟩))
        go_meet
        exact ⟨_, HZ2.out, hR3, keep (hM2.trans hM3) hAll⟩
      · have HZ2 : Hid (FinR s tw lo τ) := Lib.hid ⟨by rw [← HT.out, space_eq]; exact HZ.out.1, true, σ1, HZ.out.2, by
          have e : St.sp s σ1 = τ := HT.out
          rw [if_pos rfl, e, if_neg hlt]⟩
        have hltI : (s.size : Int) ≤ (τ.at_ : Int) := by omega
        clear hlt
        go_wp2_with (first
          | (go_at_call 25; refine (hsp _ hRA).mono ?_; rintro e w2 ⟨rfl, hR2, hM2⟩; obtain ⟨c0, c1, c2, c3, c4, c5, f1, f4, f5⟩ := hR2.cells))
        go_meet
        exact ⟨_, HZ2.out, hR2, keep hM2 hAll⟩
  case rest =>
    obtain ⟨σF, hzF, hRc, hNc, hOc, hnc, hBc⟩ := hcut
    have HZF := Lib.hid hzF
    clear hzF hQ hag HZ hs0
    go_upto_region 7 with fail
    have hRd : IsR wc.drew (w.heap.size + 1 + 1 + 1) s tw lo σF := hRc
    have hNd : NodeB wc.drew (w.heap.size + 1) 0 ⟨#[]⟩ (.slice none 0 0) (.slice none 0 0) := hNc
    have hOd : OutB wc.drew (w.heap.size + 1 + 1) 0 0 false := hOc
    have hnd : NodeB wc.drew w1.heap.size k1 t1 (.slice na nl nc) (.slice ka kl kc) := hnc
    have hBd : Below w.heap.size w wc.drew := ⟨hBc.os, hBc.tape, hBc.output, hBc.size, hBc.block⟩
    refine wp_region_held (S := fun wx => IsR wx (w.heap.size + 1 + 1 + 1) s tw lo σF ∧ NodeB wx w1.heap.size k1 t1 (.slice na nl nc) (.slice ka kl kc)) (by kernel_rfl) ?_
    try (change wpAnyH _ _ _ _ _ _ _ _ (World.drew _))
    generalize wc.drew = wd at hRd hNd hOd hnd hBd ⊢
    have hS : IsR wd (w.heap.size + 1 + 1 + 1) s tw lo σF ∧ NodeB wd w1.heap.size k1 t1 (.slice na nl nc) (.slice ka kl kc) := ⟨hRd, hnd⟩
    have HS := Lib.hid hS
    clear hS
    clear hRc hNc hOc hnc hBc hRA hAll keep
    refine wpAnyH_take (i := 1) (v := ?_) rfl (by kernel_rfl) (by kernel_rfl) (by kernel_rfl) (fun _ _ _ h => h) (Or.inl ⟨by rfl, ?_⟩) HS.out ?_
    rotate_left
    · intro wx hx; go_simp; try with_reducible rfl
    rotate_left
    refine wpAnyH_take (i := 3) (v := ?_) rfl (by kernel_rfl) (by kernel_rfl) (by kernel_rfl) (fun _ _ _ h => h) (Or.inl ⟨by rfl, ?_⟩) HS.out ?_
    rotate_left
    · intro wx hx; go_simp; try with_reducible rfl
    rotate_left
    refine wpAnyH_take (i := 5) (v := ?_) rfl (by kernel_rfl) (by kernel_rfl) (by kernel_rfl) (fun _ _ _ h => h) (Or.inl ⟨by rfl, ?_⟩) HS.out ?_
    rotate_left
    · intro wx hx; go_simp; try with_reducible rfl
    rotate_left
    refine wpAnyH_take (i := 0) (v := (.agg #[.int .u8 k1, .string t1, .slice na nl nc, .slice ka kl kc])) rfl (by kernel_rfl) (by kernel_rfl) (by kernel_rfl) (fun _ _ _ h => h) (Or.inl ⟨by rfl, ?_⟩) HS.out ?_
    · intro wx hx; obtain ⟨q0, q1, q2, q3, _, _, _, _⟩ := hx.2.cells; go_simp; try with_reducible rfl
    refine wpAnyH_take (i := 2) (v := (.int .i64 σF.fault)) rfl (by kernel_rfl) (by kernel_rfl) (by kernel_rfl) (fun _ _ _ h => h) (Or.inl ⟨by rfl, ?_⟩) HS.out ?_
    · intro wx hx; obtain ⟨q0, q1, q2, q3, q4, q5, _, _, _⟩ := hx.1.cells; go_simp; try with_reducible rfl
    refine wpAnyH_take (i := 4) (v := (.int .i64 (σF.at_ : Nat))) rfl (by kernel_rfl) (by kernel_rfl) (by kernel_rfl) (fun _ _ _ h => h) (Or.inl ⟨by rfl, ?_⟩) HS.out ?_
    · intro wx hx; obtain ⟨q0, q1, q2, q3, q4, q5, _, _, _⟩ := hx.1.cells; go_simp; try with_reducible rfl
    refine wpAnyH_take (i := 6) (v := (.bool σF.opn)) rfl (by kernel_rfl) (by kernel_rfl) (by kernel_rfl) (fun _ _ _ h => h) (Or.inl ⟨by rfl, ?_⟩) HS.out ?_
    · intro wx hx; obtain ⟨q0, q1, q2, q3, q4, q5, _, _, _⟩ := hx.1.cells; go_simp; try with_reducible rfl
    simp only [List.getElem_toArray, List.getElem_cons_succ, List.getElem_cons_zero, Act.put, List.setIfInBounds_toArray, List.set_cons_succ, List.set_cons_zero]
    refine wpAnyH_take (i := 7) (v := (.agg #[.int .i64 σF.fault, .int .i64 (σF.at_ : Nat), .bool σF.opn])) rfl (by kernel_rfl) (by kernel_rfl) (by kernel_rfl) (fun _ _ _ h => h) (Or.inl ⟨by rfl, ?_⟩) HS.out ?_
    · intro wx hx; go_simp; try with_reducible rfl
    simp only [List.getElem_toArray, List.getElem_cons_succ, List.getElem_cons_zero, Act.put, List.setIfInBounds_toArray, List.set_cons_succ, List.set_cons_zero]
    obtain ⟨m0, m1, m2, m3, fm0, fm1, fm2, fm3⟩ := hNd.cells
    refine wpAnyH_all (rs := [8]) (by kernel_rfl) (by decide) ?_
    intro i hi
    simp only [List.mem_cons, List.not_mem_nil, or_false] at hi
    subst hi
    refine wpOp_skip (i := 8) (w' := ((((wd.setCell ⟨w.heap.size + 1, 0, none⟩ (.int .u8 k1)).setCell ⟨w.heap.size + 1, 1, none⟩ (.string t1)).setCell ⟨w.heap.size + 1, 2, none⟩ (.slice na nl nc)).setCell ⟨w.heap.size + 1, 3, none⟩ (.slice ka kl kc))) rfl (by rfl) (by go_simp) ?_
    have hNf := hNd.putNode k1 t1 (.slice na nl nc) (.slice ka kl kc)
    have hBf := Below.fourCells hBd (n := w.heap.size + 1) (by omega) (.int .u8 k1) (.string t1) (.slice na nl nc) (.slice ka kl kc)
    have hOf := hOd.fourCells (m := w.heap.size + 1) (by omega) (.int .u8 k1) (.string t1) (.slice na nl nc) (.slice ka kl kc)
    have hRf := IsR.newCells hRd (n := w.heap.size + 1) (by omega) (.int .u8 k1) (.string t1) (.slice na nl nc) (.slice ka kl kc)
    have hnf : NodeB ((((wd.setCell ⟨w.heap.size + 1, 0, none⟩ (.int .u8 k1)).setCell ⟨w.heap.size + 1, 1, none⟩ (.string t1)).setCell ⟨w.heap.size + 1, 2, none⟩ (.slice na nl nc)).setCell ⟨w.heap.size + 1, 3, none⟩ (.slice ka kl kc)) w1.heap.size k1 t1 (.slice na nl nc) (.slice ka kl kc) := by
      have q : ∀ {v : World} (j : Nat) (x : Value), NodeB v w1.heap.size k1 t1 (.slice na nl nc) (.slice ka kl kc) → NodeB (v.setCell ⟨w.heap.size + 1, j, none⟩ x) w1.heap.size k1 t1 (.slice na nl nc) (.slice ka kl kc) := fun j x hv => hv.other (Below.heap_setCell _ _ _ _ (by simp; omega))
      exact q 3 _ (q 2 _ (q 1 _ (q 0 _ hnd)))
    clear m0 m1 m2 m3 fm0 fm1 fm2 fm3 HS hRd hNd hOd hnd hBd
    revert hNf hBf hOf hRf hnf
    generalize ((((wd.setCell ⟨w.heap.size + 1, 0, none⟩ (.int .u8 k1)).setCell ⟨w.heap.size + 1, 1, none⟩ (.string t1)).setCell ⟨w.heap.size + 1, 2, none⟩ (.slice na nl nc)).setCell ⟨w.heap.size + 1, 3, none⟩ (.slice ka kl kc)) = we
    intro hNf hBf hOf hRf hnf
    refine ⟨⟨hRf, hnf⟩, ?_⟩
    obtain ⟨o0, o1, o2, fo0, fo1, fo2⟩ := hOf.cells
    simp only [List.getElem_toArray, List.getElem_cons_succ, List.getElem_cons_zero, Act.put, List.setIfInBounds_toArray, List.set_cons_succ, List.set_cons_zero]
    refine wpAnyH_all (rs := [9]) (by kernel_rfl) (by decide) ?_
    intro i hi
    simp only [List.mem_cons, List.not_mem_nil, or_false] at hi
    subst hi
    refine wpOp_skip (i := 9) (w' := (((we.setCell ⟨w.heap.size + 1 + 1, 0, none⟩ (.int .i64 σF.fault)).setCell ⟨w.heap.size + 1 + 1, 1, none⟩ (.int .i64 σF.at_)).setCell ⟨w.heap.size + 1 + 1, 2, none⟩ (.bool σF.opn))) rfl (by rfl) (by go_simp) ?_
    obtain ⟨hOg, hNg, hBg⟩ := hOf.put hNf (by omega) hBf (by omega) σF.fault σF.at_ σF.opn
    have hRg : IsR (((we.setCell ⟨w.heap.size + 1 + 1, 0, none⟩ (.int .i64 σF.fault)).setCell ⟨w.heap.size + 1 + 1, 1, none⟩ (.int .i64 σF.at_)).setCell ⟨w.heap.size + 1 + 1, 2, none⟩ (.bool σF.opn)) (w.heap.size + 1 + 1 + 1) s tw lo σF := by
      have q : ∀ {v : World} (j : Nat) (x : Value), IsR v (w.heap.size + 1 + 1 + 1) s tw lo σF → IsR (v.setCell ⟨w.heap.size + 1 + 1, j, none⟩ x) (w.heap.size + 1 + 1 + 1) s tw lo σF := fun j x hv => hv.other (Below.heap_setCell _ _ _ _ (by simp))
      exact q 2 _ (q 1 _ (q 0 _ hRf))
    have hng : NodeB (((we.setCell ⟨w.heap.size + 1 + 1, 0, none⟩ (.int .i64 σF.fault)).setCell ⟨w.heap.size + 1 + 1, 1, none⟩ (.int .i64 σF.at_)).setCell ⟨w.heap.size + 1 + 1, 2, none⟩ (.bool σF.opn)) w1.heap.size k1 t1 (.slice na nl nc) (.slice ka kl kc) := by
      have q : ∀ {v : World} (j : Nat) (x : Value), NodeB v w1.heap.size k1 t1 (.slice na nl nc) (.slice ka kl kc) → NodeB (v.setCell ⟨w.heap.size + 1 + 1, j, none⟩ x) w1.heap.size k1 t1 (.slice na nl nc) (.slice ka kl kc) := fun j x hv => hv.other (Below.heap_setCell _ _ _ _ (by simp; omega))
      exact q 2 _ (q 1 _ (q 0 _ hnf))
    clear o0 o1 o2 fo0 fo1 fo2
    revert hOg hNg hBg hRg hng
    generalize (((we.setCell ⟨w.heap.size + 1 + 1, 0, none⟩ (.int .i64 σF.fault)).setCell ⟨w.heap.size + 1 + 1, 1, none⟩ (.int .i64 σF.at_)).setCell ⟨w.heap.size + 1 + 1, 2, none⟩ (.bool σF.opn)) = w7
    intro hOg hNg hBg hRg hng
    refine ⟨⟨hRg, hng⟩, wpAnyH_done (by kernel_rfl) ?_ _⟩
    go_wp2_with fail
    obtain ⟨q0, q1, q2, q3, _, _, _, _⟩ := hNg.cells
    obtain ⟨p0, p1, p2, _, _, _⟩ := hOg.cells
    refine bodyPost_ret (v := .tuple #[.agg #[.int .u8 k1, .string t1, .slice na nl nc, .slice ka kl kc], .agg #[.int .i64 σF.fault, .int .i64 σF.at_, .bool σF.opn]]) (by simp [results, Tryd.results17, go_sem, q0, q1, q2, q3, p0, p1, p2]; try rfl) rfl ?_
    exact ⟨⟨k1, t1, na, nl, nc, ka, kl, kc, σF, rfl, HZF.out⟩, hBg⟩

set_option maxRecDepth 100000 in
theorem taken_ex (Nq : Value → Prop) (s : ByteArray) (tw lo : Bool) (w : World) (hs0 : s.size ≤ 2147483647)
    (hQ : ∀ σ σ', St.quoted s lo σ = (true, σ') → Nq (.string (s.extract σ.at_ (σ'.at_ + 1)))) (hag : tw = false → ∀ b B, AgK Nq b B s lo) :
    Calls Tryd.prog 8 #[.string s, .agg #[.bool tw, .bool lo]] w fun e w' => (∃ t o σF, e = .returned (.tuple #[.bool t, .bool o]) ∧ FinR s tw lo σF ∧ t = (σF.fault == 0)) ∧ Below w.heap.size w w' := by
  have hp := fun w' => parse_ex Nq s tw lo w' hs0 hQ (fun h B => hag h _ B)
  go_enter Tryd.func8, Tryd.ntmps8
  go_upto_region 2 with (first
    | (go_at_call 17; refine (hp _).mono ?_; rintro e w1 ⟨⟨k1, t1, na, nl, nc, ka, kl, kc, σF, rfl, hzF⟩, hb1⟩))
  have HZF := Lib.hid hzF
  clear hzF
  have hb2 : Below w.heap.size w _ := ((((Below.refl _ w).alloc (Nat.le_refl _) (.cells #[.bool tw, .bool lo] 30)).trans (hb1.mono (by simp))).alloc (by have := hb1.size; simp at this; omega) (.cells #[.int .u8 k1, .string t1, .slice na nl nc, .slice ka kl kc] 47)).alloc (by have := hb1.size; simp at this; simp; omega) (.cells #[.int .i64 σF.fault, .int .i64 σF.at_, .bool σF.opn] 49)
  have hOb : OutB ((w1.alloc (.cells #[.int .u8 k1, .string t1, .slice na nl nc, .slice ka kl kc] 47)).alloc (.cells #[.int .i64 σF.fault, .int .i64 σF.at_, .bool σF.opn] 49)) (w1.heap.size + 1) σF.fault σF.at_ σF.opn := by
    have := heap_alloc_new (w1.alloc (.cells #[.int .u8 k1, .string t1, .slice na nl nc, .slice ka kl kc] 47)) (.cells #[.int .i64 σF.fault, .int .i64 σF.at_, .bool σF.opn] 49)
    exact ⟨49, by simpa using this⟩
  revert hb2 hOb
  generalize ((w1.alloc (.cells #[.int .u8 k1, .string t1, .slice na nl nc, .slice ka kl kc] 47)).alloc (.cells #[.int .i64 σF.fault, .int .i64 σF.at_, .bool σF.opn] 49)) = w2
  intro hb2 hOb
  obtain ⟨p0, p1, p2, _, _, _⟩ := hOb.cells
  clear hp
  go_quiet (fail)
  go_wp2
  all_goals go_ret2
  exact ⟨⟨_, _, σF, rfl, HZF.out, rfl⟩, ⟨hb2.os, hb2.tape, hb2.output, hb2.size, hb2.block⟩⟩
end Go.Proofs.YtjbffgjclnjkoaaDoor
