/- The reference's scanner: one step. Printed by genrs.py. -/
import Derived.Test.YtjbffgjclnjkoaaRm
import Derived.Test.YtjbffgjclnjkoaaRd
import Derived.RegionTactic
import Derived.BigRegion
import Derived.ChangeAlike
import Derived.Deep.DeepCutAuto
namespace Go.Proofs.Ytjbffgjclnjkoaa
set_option linter.unusedVariables false
set_option linter.unusedSimpArgs false
open Go.RowKit Go.Shelf

theorem Stp.ap {b : Nat} {v v' x : Value} {w w' : World} {o : Obj} (h : Ap v (w.alloc o) v' w') (p : Nat) : Stp b v w v' (w'.setCell ⟨b, p, none⟩ x) := by
  refine ⟨h.gr.os, h.gr.tape, h.gr.output, ?_, fun k hk hne hv => ?_, fun k hk hv => h.ne (by simp; omega) hv⟩
  · have := h.size; simp [World.setCell] at this ⊢; omega
  · exact (Below.heap_setCell _ _ _ _ (by simpa using hne)).trans ((h.block (by simp; omega) hv).trans (Below.heap_alloc _ _ _ hk))
theorem Stp.setv {b : Nat} {v v' : Value} {w : World} (hv : v'.ownBlock = v.ownBlock) (p : Nat) (x : Value) : Stp b v w v' (w.setCell ⟨b, p, none⟩ x) :=
  ⟨rfl, rfl, rfl, by simp [World.setCell], fun k _ hne _ => Below.heap_setCell _ _ _ _ (by simpa using hne), fun k _ h e => h (hv ▸ e)⟩
/-- What a step answers. -/
def StepR (b B : Nat) (v : Value) (w : World) (r : Int × Sp) (e : Ending) (w' : World) : Prop := ∃ v', e = .returned (.int .i64 r.1) ∧ IsP w' b B r.2 v' ∧ Stp b v w v' w'
theorem inn_false {p : Sp} {c : Int} (h : (innS p c).1 = false) : innS p c = (false, { p with st := 0 }) := by
  unfold innS at h ⊢
  split at h
  · cases h
  · rename_i h1
    split at h
    · cases h
    · rename_i h2
      split at h
      · cases h
      · rename_i h3
        rw [if_neg h1, if_neg h2, if_neg h3]
set_option maxRecDepth 100000 in
set_option maxHeartbeats 2000000 in
theorem step_in_any (b B : Nat) (p : Sp) (v : Value) (c : Int) (w : World) (h : IsP w b B p v) (hi : (innS p c).1 = true) :
    Calls Try.prog 19 #[.pointer (some ⟨b, 0, none⟩), .int .u8 c] w (StepR b B v w (0, (innS p c).2)) := by
  have hin := inner_any b B p v c w h
  rw [hi] at hin
  generalize (innS p c).2 = p1 at hin ⊢
  clear hi h
  go_enter Try.func19, Try.ntmps19
  go_wp2_with (first | (go_at_call 30; refine hin.mono ?_; rintro e w1 ⟨rfl, hI, hP⟩))
  all_goals go_ret
  exact ⟨_, rfl, hI, hP⟩
set_option maxRecDepth 100000 in
set_option maxHeartbeats 2000000 in
theorem step_sp_any (b B : Nat) (p : Sp) (v : Value) (c : Int) (w : World) (hw : B ≤ w.heap.size) (hn : p.opn.length ≤ 10000) (hin : Calls Try.prog 30 #[.pointer (some ⟨b, 0, none⟩), .int .u8 c] w fun e w' => e = .returned (.bool false) ∧ IsP w' b B { p with st := 0 } v ∧ Stp b v w v w') (hs : isSp c = true) :
    Calls Try.prog 19 #[.pointer (some ⟨b, 0, none⟩), .int .u8 c] w (StepR b B v w (if p.bg = true ∧ p.opn = [] then 10 else 9, { p with st := 0 })) := by
  have hsp : ∀ w : World, Calls Try.prog 31 #[.int .u8 c] w fun e w' => e = .returned (.bool true) ∧ w' = w := fun w => by have := isSpace c w; rwa [hs] at this
  clear hs
  have hform : ∀ w', IsP w' b B { p with st := 0 } v → ∃ ao cap, v = .slice ao p.opn.length cap := fun w' h => by obtain ⟨ao, cap, e, _⟩ := h.row.form; rw [List.length_reverse] at e; exact ⟨ao, cap, e⟩
  have keep : ∀ {w1 w2 : World}, IsP w1 b B { p with st := 0 } v → Stp b v w v w1 → w2 = w1 → IsP w2 b B { p with st := 0 } v ∧ Stp b v w v w2 := fun h k e => by subst e; exact ⟨h, k⟩
  by_cases hbt : p.bg = true
  case neg =>
    have hb : p.bg = false := by simpa using hbt
    rw [if_neg (fun k => hbt k.1)]
    clear hbt
    go_enter Try.func19, Try.ntmps19
    go_wp2_with (first | (go_at_call 30; refine hin.mono ?_; rintro e w1 ⟨rfl, hI, hP⟩; obtain ⟨c0, c1, c2, f0⟩ := hI.cells; have f2 := f0 2; dsimp only at c2; rw [hb] at c2) | (go_at_call 31; refine (hsp _).mono ?_; rintro e w5 ⟨rfl, hw5⟩; obtain rfl := hw5.symm))
    all_goals go_ret
    exact ⟨_, rfl, hI, hP⟩
  case pos =>
    have hb := hbt
    by_cases hnil : p.opn = []
    · rw [if_pos ⟨hbt, hnil⟩]
      clear hbt
      have h0 : p.opn.length = 0 := by rw [hnil]; rfl
      rw [h0] at hform
      clear h0
      go_enter Try.func19, Try.ntmps19
      go_wp2_with (first | (go_at_call 30; refine hin.mono ?_; rintro e w1 ⟨rfl, hI, hP⟩; obtain ⟨c0, c1, c2, f0⟩ := hI.cells; have f2 := f0 2; dsimp only at c2; rw [hb] at c2; obtain ⟨ao, cap, rfl⟩ := hform _ hI) | (go_at_call 31; refine (hsp _).mono ?_; rintro e w5 ⟨rfl, hw5⟩; obtain rfl := hw5.symm))
      all_goals go_ret
      exact ⟨_, rfl, hI, hP⟩
    · rw [if_neg (fun k => hnil k.2)]
      clear hbt
      have h0 : p.opn.length ≠ 0 := fun e => hnil (List.eq_nil_of_length_eq_zero e)
      obtain ⟨n, hln⟩ : ∃ n, p.opn.length = n := ⟨_, rfl⟩
      rw [hln] at h0 hform
      have h0' : ((n : Int) == 0) = false := by simp; omega
      clear h0 hln hn
      go_enter Try.func19, Try.ntmps19
      go_wp2_with (first | (go_at_call 30; refine hin.mono ?_; rintro e w1 ⟨rfl, hI, hP⟩; obtain ⟨c0, c1, c2, f0⟩ := hI.cells; have f2 := f0 2; dsimp only at c2; rw [hb] at c2; obtain ⟨ao, cap, rfl⟩ := hform _ hI) | (go_at_call 31; refine (hsp _).mono ?_; rintro e w5 ⟨rfl, hw5⟩; obtain rfl := hw5.symm))
      all_goals go_ret
      exact ⟨_, rfl, hI, hP⟩
set_option maxRecDepth 100000 in
set_option maxHeartbeats 2000000 in
theorem step123_any (b B : Nat) (p : Sp) (v : Value) (c : Int) (w : World) (hw : B ≤ w.heap.size) (hn : p.opn.length ≤ 10000) (hin : Calls Try.prog 30 #[.pointer (some ⟨b, 0, none⟩), .int .u8 c] w fun e w' => e = .returned (.bool false) ∧ IsP w' b B { p with st := 0 } v ∧ Stp b v w v w') (hc : c = 123) :
    Calls Try.prog 19 #[.pointer (some ⟨b, 0, none⟩), .int .u8 c] w (StepR b B v w (2, ⟨123 :: p.opn, 0, true⟩)) := by
  subst hc
  have hs : isSp 123 = false := rfl
  obtain ⟨i0, hi, hz0, hz1, hz2⟩ := info_parts Try.infoU8
  have hsp : ∀ w : World, Calls Try.prog 31 #[.int .u8 123] w fun e w' => e = .returned (.bool false) ∧ w' = w := fun w => by have := isSpace 123 w; rwa [hs] at this
  go_enter Try.func19, Try.ntmps19
  go_upto_region 8 with (first | (go_at_call 30; refine hin.mono ?_; rintro e w1 ⟨rfl, hI, hP⟩; obtain ⟨c0, c1, c2, f0⟩ := hI.cells; have f2 := f0 2) | (go_at_call 31; refine (hsp _).mono ?_; rintro e w5 ⟨rfl, hw5⟩; obtain rfl := hw5.symm))
  have hI2 := hI.setBg true
  have hP2 := hP.trans (Stp.set b v w1 2 (.bool true))
  have hw2 : B ≤ (w1.setCell ⟨b, 2, none⟩ (.bool true)).heap.size := Nat.le_trans hw hP2.size
  clear hI hP c0 c1 c2 f0 f2 hin hsp
  generalize w1.setCell ⟨b, 2, none⟩ (.bool true) = w2 at hI2 hP2 hw2 ⊢
  obtain ⟨c0, c1, c2, f0⟩ := hI2.cells
  dsimp only at c1 c2
  have f00 := f0 0
  have f01 := f0 1
  clear f0
  have hrow : Bs w2 B v p.opn.reverse := hI2.row
  have hbnd : (p.opn.reverse.length : Int) ≤ 10000 := by rw [List.length_reverse]; omega
  have hln : p.opn.reverse.length ≤ 10000 := by rw [List.length_reverse]; exact hn
  have hbl := hI2.lt
  have hne2 := hI2.own_ne
  have hcell := hI2.cell
  go_wp2_with (first | (at_builtin; refine wpList_append_bs _ rfl (.tmp 35) (.tmp 37) 42 42 (by rfl) B i0 Try.underlying42 hi hz0 hz1 hz2 _ _ rfl (Bs.alloc hrow _) _ [123] rfl (by intro x hx; simp at hx; omega) (src_lit Try.underlying42 _ [123] 1 rfl _ _ hz1 _ rfl) (by first | omega | (simp; omega) | (simp only [List.length_append, sub_len, bl_len, List.length_cons, List.length_nil]; omega)) (by first | assumption | omega | (simp; omega)) ?_; intro v' w' hb' ha'; have hb1 : w'.heap[b]? = w2.heap[b]? := (ha'.block (by simp; omega) hne2).trans (Below.heap_alloc _ _ _ hbl); have c0' : w'.cell? ⟨b, 0, none⟩ = some v := (World.cell?_of_block hb1).trans c0; have f0' : w'.frozen? ⟨b, 0, none⟩ = false := (by unfold World.frozen?; rw [hb1]; exact f00); obtain ⟨ao', cap', hv', _, _⟩ := hb'.form; obtain ⟨m', hm'⟩ : ∃ m', (p.opn.reverse ++ [123]).length = m' := ⟨_, rfl⟩; rw [hm'] at hv'; clear hm'; subst hv'))
  all_goals go_ret
  have hI3 : IsP _ b B ⟨123 :: p.opn, 0, true⟩ _ := hI2.newOpen (l := 123 :: p.opn) hb1 (by rw [List.reverse_cons]; exact hb') (ha'.ne (by simp; omega) hne2)
  have hP3 := hP2.trans (Stp.ap (b := b) (x := .slice ao' m' cap') ha' 0)
  exact ⟨_, rfl, hI3, hP3⟩
set_option maxRecDepth 100000 in
set_option maxHeartbeats 2000000 in
theorem step91_any (b B : Nat) (p : Sp) (v : Value) (c : Int) (w : World) (hw : B ≤ w.heap.size) (hn : p.opn.length ≤ 10000) (hin : Calls Try.prog 30 #[.pointer (some ⟨b, 0, none⟩), .int .u8 c] w fun e w' => e = .returned (.bool false) ∧ IsP w' b B { p with st := 0 } v ∧ Stp b v w v w') (hc : c = 91) :
    Calls Try.prog 19 #[.pointer (some ⟨b, 0, none⟩), .int .u8 c] w (StepR b B v w (6, ⟨91 :: p.opn, 0, true⟩)) := by
  subst hc
  have hs : isSp 91 = false := rfl
  obtain ⟨i0, hi, hz0, hz1, hz2⟩ := info_parts Try.infoU8
  have hsp : ∀ w : World, Calls Try.prog 31 #[.int .u8 91] w fun e w' => e = .returned (.bool false) ∧ w' = w := fun w => by have := isSpace 91 w; rwa [hs] at this
  go_enter Try.func19, Try.ntmps19
  go_upto_region 8 with (first | (go_at_call 30; refine hin.mono ?_; rintro e w1 ⟨rfl, hI, hP⟩; obtain ⟨c0, c1, c2, f0⟩ := hI.cells; have f2 := f0 2) | (go_at_call 31; refine (hsp _).mono ?_; rintro e w5 ⟨rfl, hw5⟩; obtain rfl := hw5.symm))
  have hI2 := hI.setBg true
  have hP2 := hP.trans (Stp.set b v w1 2 (.bool true))
  have hw2 : B ≤ (w1.setCell ⟨b, 2, none⟩ (.bool true)).heap.size := Nat.le_trans hw hP2.size
  clear hI hP c0 c1 c2 f0 f2 hin hsp
  generalize w1.setCell ⟨b, 2, none⟩ (.bool true) = w2 at hI2 hP2 hw2 ⊢
  obtain ⟨c0, c1, c2, f0⟩ := hI2.cells
  dsimp only at c1 c2
  have f00 := f0 0
  have f01 := f0 1
  clear f0
  have hrow : Bs w2 B v p.opn.reverse := hI2.row
  have hbnd : (p.opn.reverse.length : Int) ≤ 10000 := by rw [List.length_reverse]; omega
  have hln : p.opn.reverse.length ≤ 10000 := by rw [List.length_reverse]; exact hn
  have hbl := hI2.lt
  have hne2 := hI2.own_ne
  have hcell := hI2.cell
  go_wp2_with (first | (at_builtin; refine wpList_append_bs _ rfl (.tmp 47) (.tmp 49) 42 42 (by rfl) B i0 Try.underlying42 hi hz0 hz1 hz2 _ _ rfl (Bs.alloc hrow _) _ [91] rfl (by intro x hx; simp at hx; omega) (src_lit Try.underlying42 _ [91] 1 rfl _ _ hz1 _ rfl) (by first | omega | (simp; omega) | (simp only [List.length_append, sub_len, bl_len, List.length_cons, List.length_nil]; omega)) (by first | assumption | omega | (simp; omega)) ?_; intro v' w' hb' ha'; have hb1 : w'.heap[b]? = w2.heap[b]? := (ha'.block (by simp; omega) hne2).trans (Below.heap_alloc _ _ _ hbl); have c0' : w'.cell? ⟨b, 0, none⟩ = some v := (World.cell?_of_block hb1).trans c0; have f0' : w'.frozen? ⟨b, 0, none⟩ = false := (by unfold World.frozen?; rw [hb1]; exact f00); obtain ⟨ao', cap', hv', _, _⟩ := hb'.form; obtain ⟨m', hm'⟩ : ∃ m', (p.opn.reverse ++ [91]).length = m' := ⟨_, rfl⟩; rw [hm'] at hv'; clear hm'; subst hv'))
  all_goals go_ret
  have hI3 : IsP _ b B ⟨91 :: p.opn, 0, true⟩ _ := hI2.newOpen (l := 91 :: p.opn) hb1 (by rw [List.reverse_cons]; exact hb') (ha'.ne (by simp; omega) hne2)
  have hP3 := hP2.trans (Stp.ap (b := b) (x := .slice ao' m' cap') ha' 0)
  exact ⟨_, rfl, hI3, hP3⟩
set_option maxRecDepth 100000 in
set_option maxHeartbeats 2000000 in
theorem step125_any (b B : Nat) (p : Sp) (v : Value) (c : Int) (w : World) (hw : B ≤ w.heap.size) (hn : p.opn.length ≤ 10000) (hin : Calls Try.prog 30 #[.pointer (some ⟨b, 0, none⟩), .int .u8 c] w fun e w' => e = .returned (.bool false) ∧ IsP w' b B { p with st := 0 } v ∧ Stp b v w v w') (hc : c = 125) (hne : p.opn ≠ []) :
    Calls Try.prog 19 #[.pointer (some ⟨b, 0, none⟩), .int .u8 c] w (StepR b B v w (5, ⟨p.opn.tail, 0, true⟩)) := by
  subst hc
  have hs : isSp 125 = false := rfl
  obtain ⟨x, r, hp⟩ : ∃ x r, p.opn = x :: r := by cases e : p.opn with | nil => exact absurd e hne | cons x r => exact ⟨x, r, rfl⟩
  obtain ⟨n, hln⟩ : ∃ n, r.length = n := ⟨_, rfl⟩
  have hform : ∀ w', IsP w' b B { p with st := 0, bg := true } v → ∃ g cap, v = .slice (some ⟨g, 0, none⟩) (n + 1) cap ∧ n + 1 ≤ cap ∧ cap ≤ maxLen ∧ Bs w' B (.slice (some ⟨g, 0, none⟩) n cap) r.reverse := fun w' h => by
    obtain ⟨g, cap, h1, h2, h3, _, h5⟩ := h.form hp; rw [hln] at h1 h2 h5; exact ⟨g, cap, h1, h2, h3, h5⟩
  have ht : p.opn.tail = r := by rw [hp]; rfl
  rw [ht]
  clear ht hp hn hne hln
  have hsp : ∀ w : World, Calls Try.prog 31 #[.int .u8 125] w fun e w' => e = .returned (.bool false) ∧ w' = w := fun w => by have := isSpace 125 w; rwa [hs] at this
  go_enter Try.func19, Try.ntmps19
  go_upto_region 8 with (first | (go_at_call 30; refine hin.mono ?_; rintro e w1 ⟨rfl, hI, hP⟩; obtain ⟨c0, c1, c2, f0⟩ := hI.cells; have f2 := f0 2) | (go_at_call 31; refine (hsp _).mono ?_; rintro e w5 ⟨rfl, hw5⟩; obtain rfl := hw5.symm))
  have hI2 := hI.setBg true
  have hP2 := hP.trans (Stp.set b v w1 2 (.bool true))
  have hw2 : B ≤ (w1.setCell ⟨b, 2, none⟩ (.bool true)).heap.size := Nat.le_trans hw hP2.size
  clear hI hP c0 c1 c2 f0 f2 hin hsp
  generalize w1.setCell ⟨b, 2, none⟩ (.bool true) = w2 at hI2 hP2 hw2 ⊢
  obtain ⟨c0, c1, c2, f0⟩ := hI2.cells
  dsimp only at c1 c2
  have f00 := f0 0
  have f01 := f0 1
  clear f0
  obtain ⟨g, cap, rfl, hc1, hc2, hrow⟩ := hform _ hI2
  clear hform
  have hne2 := hI2.own_ne
  have hcI : (cap : Int) ≤ 9223372036854775807 := by unfold maxLen at hc2; omega
  have hnI : (n : Int) + 1 ≤ (cap : Int) := by omega
  have hnc : (n : Int) ≤ (cap : Int) := by omega
  have hn0 : (0 : Int) ≤ (n : Int) := by omega
  clear hc1 hc2
  go_upto_region 17 with fail
  go_region
  go_wp2_with fail
  all_goals go_ret
  have hI3' := hI2.newOpen (l := r) rfl hrow (by simpa [Value.ownBlock] using hne2)
  have hI3 : IsP (w2.setCell ⟨b, 0, none⟩ (.slice (some ⟨g, 0, none⟩) n cap)).drew b B ⟨r, 0, true⟩ (.slice (some ⟨g, 0, none⟩) n cap) := ⟨hI3'.hB, hI3'.cell, hI3'.row⟩
  have hP3' := hP2.trans (Stp.setv (b := b) (v := .slice (some ⟨g, 0, none⟩) (n + 1) cap) (v' := .slice (some ⟨g, 0, none⟩) n cap) (w := w2) rfl 0 (.slice (some ⟨g, 0, none⟩) n cap))
  have hP3 : Stp b (.slice (some ⟨g, 0, none⟩) (n + 1) cap) w (.slice (some ⟨g, 0, none⟩) n cap) (w2.setCell ⟨b, 0, none⟩ (.slice (some ⟨g, 0, none⟩) n cap)).drew := ⟨hP3'.os, hP3'.tape, hP3'.output, hP3'.size, hP3'.block, hP3'.own⟩
  exact ⟨_, rfl, hI3, hP3⟩
set_option maxRecDepth 100000 in
set_option maxHeartbeats 2000000 in
theorem step93_any (b B : Nat) (p : Sp) (v : Value) (c : Int) (w : World) (hw : B ≤ w.heap.size) (hn : p.opn.length ≤ 10000) (hin : Calls Try.prog 30 #[.pointer (some ⟨b, 0, none⟩), .int .u8 c] w fun e w' => e = .returned (.bool false) ∧ IsP w' b B { p with st := 0 } v ∧ Stp b v w v w') (hc : c = 93) (hne : p.opn ≠ []) :
    Calls Try.prog 19 #[.pointer (some ⟨b, 0, none⟩), .int .u8 c] w (StepR b B v w (8, ⟨p.opn.tail, 0, true⟩)) := by
  subst hc
  have hs : isSp 93 = false := rfl
  obtain ⟨x, r, hp⟩ : ∃ x r, p.opn = x :: r := by cases e : p.opn with | nil => exact absurd e hne | cons x r => exact ⟨x, r, rfl⟩
  obtain ⟨n, hln⟩ : ∃ n, r.length = n := ⟨_, rfl⟩
  have hform : ∀ w', IsP w' b B { p with st := 0, bg := true } v → ∃ g cap, v = .slice (some ⟨g, 0, none⟩) (n + 1) cap ∧ n + 1 ≤ cap ∧ cap ≤ maxLen ∧ Bs w' B (.slice (some ⟨g, 0, none⟩) n cap) r.reverse := fun w' h => by
    obtain ⟨g, cap, h1, h2, h3, _, h5⟩ := h.form hp; rw [hln] at h1 h2 h5; exact ⟨g, cap, h1, h2, h3, h5⟩
  have ht : p.opn.tail = r := by rw [hp]; rfl
  rw [ht]
  clear ht hp hn hne hln
  have hsp : ∀ w : World, Calls Try.prog 31 #[.int .u8 93] w fun e w' => e = .returned (.bool false) ∧ w' = w := fun w => by have := isSpace 93 w; rwa [hs] at this
  go_enter Try.func19, Try.ntmps19
  go_upto_region 8 with (first | (go_at_call 30; refine hin.mono ?_; rintro e w1 ⟨rfl, hI, hP⟩; obtain ⟨c0, c1, c2, f0⟩ := hI.cells; have f2 := f0 2) | (go_at_call 31; refine (hsp _).mono ?_; rintro e w5 ⟨rfl, hw5⟩; obtain rfl := hw5.symm))
  have hI2 := hI.setBg true
  have hP2 := hP.trans (Stp.set b v w1 2 (.bool true))
  have hw2 : B ≤ (w1.setCell ⟨b, 2, none⟩ (.bool true)).heap.size := Nat.le_trans hw hP2.size
  clear hI hP c0 c1 c2 f0 f2 hin hsp
  generalize w1.setCell ⟨b, 2, none⟩ (.bool true) = w2 at hI2 hP2 hw2 ⊢
  obtain ⟨c0, c1, c2, f0⟩ := hI2.cells
  dsimp only at c1 c2
  have f00 := f0 0
  have f01 := f0 1
  clear f0
  obtain ⟨g, cap, rfl, hc1, hc2, hrow⟩ := hform _ hI2
  clear hform
  have hne2 := hI2.own_ne
  have hcI : (cap : Int) ≤ 9223372036854775807 := by unfold maxLen at hc2; omega
  have hnI : (n : Int) + 1 ≤ (cap : Int) := by omega
  have hnc : (n : Int) ≤ (cap : Int) := by omega
  have hn0 : (0 : Int) ≤ (n : Int) := by omega
  clear hc1 hc2
  go_upto_region 20 with fail
  go_region
  go_wp2_with fail
  all_goals go_ret
  have hI3' := hI2.newOpen (l := r) rfl hrow (by simpa [Value.ownBlock] using hne2)
  have hI3 : IsP (w2.setCell ⟨b, 0, none⟩ (.slice (some ⟨g, 0, none⟩) n cap)).drew b B ⟨r, 0, true⟩ (.slice (some ⟨g, 0, none⟩) n cap) := ⟨hI3'.hB, hI3'.cell, hI3'.row⟩
  have hP3' := hP2.trans (Stp.setv (b := b) (v := .slice (some ⟨g, 0, none⟩) (n + 1) cap) (v' := .slice (some ⟨g, 0, none⟩) n cap) (w := w2) rfl 0 (.slice (some ⟨g, 0, none⟩) n cap))
  have hP3 : Stp b (.slice (some ⟨g, 0, none⟩) (n + 1) cap) w (.slice (some ⟨g, 0, none⟩) n cap) (w2.setCell ⟨b, 0, none⟩ (.slice (some ⟨g, 0, none⟩) n cap)).drew := ⟨hP3'.os, hP3'.tape, hP3'.output, hP3'.size, hP3'.block, hP3'.own⟩
  exact ⟨_, rfl, hI3, hP3⟩
set_option maxRecDepth 100000 in
set_option maxHeartbeats 2000000 in
theorem step58_any (b B : Nat) (p : Sp) (v : Value) (c : Int) (w : World) (hw : B ≤ w.heap.size) (hn : p.opn.length ≤ 10000) (hin : Calls Try.prog 30 #[.pointer (some ⟨b, 0, none⟩), .int .u8 c] w fun e w' => e = .returned (.bool false) ∧ IsP w' b B { p with st := 0 } v ∧ Stp b v w v w') (hc : c = 58) :
    Calls Try.prog 19 #[.pointer (some ⟨b, 0, none⟩), .int .u8 c] w (StepR b B v w (3, ⟨p.opn, 0, true⟩)) := by
  subst hc
  have hs : isSp 58 = false := rfl
  have hsp : ∀ w : World, Calls Try.prog 31 #[.int .u8 58] w fun e w' => e = .returned (.bool false) ∧ w' = w := fun w => by have := isSpace 58 w; rwa [hs] at this
  go_enter Try.func19, Try.ntmps19
  go_upto_region 8 with (first | (go_at_call 30; refine hin.mono ?_; rintro e w1 ⟨rfl, hI, hP⟩; obtain ⟨c0, c1, c2, f0⟩ := hI.cells; have f2 := f0 2) | (go_at_call 31; refine (hsp _).mono ?_; rintro e w5 ⟨rfl, hw5⟩; obtain rfl := hw5.symm))
  have hI2 := hI.setBg true
  have hP2 := hP.trans (Stp.set b v w1 2 (.bool true))
  have hw2 : B ≤ (w1.setCell ⟨b, 2, none⟩ (.bool true)).heap.size := Nat.le_trans hw hP2.size
  clear hI hP c0 c1 c2 f0 f2 hin hsp
  generalize w1.setCell ⟨b, 2, none⟩ (.bool true) = w2 at hI2 hP2 hw2 ⊢
  obtain ⟨c0, c1, c2, f0⟩ := hI2.cells
  dsimp only at c1 c2
  have f00 := f0 0
  have f01 := f0 1
  clear f0
  go_wp2_with fail
  all_goals go_ret
  exact ⟨_, rfl, hI2, hP2⟩
set_option maxRecDepth 100000 in
set_option maxHeartbeats 2000000 in
theorem step44_any (b B : Nat) (p : Sp) (v : Value) (c : Int) (w : World) (hw : B ≤ w.heap.size) (hn : p.opn.length ≤ 10000) (hin : Calls Try.prog 30 #[.pointer (some ⟨b, 0, none⟩), .int .u8 c] w fun e w' => e = .returned (.bool false) ∧ IsP w' b B { p with st := 0 } v ∧ Stp b v w v w') (hc : c = 44) (hne : p.opn ≠ []) :
    Calls Try.prog 19 #[.pointer (some ⟨b, 0, none⟩), .int .u8 c] w (StepR b B v w (if p.opn.head? = some 123 then 4 else 7, ⟨p.opn, 0, true⟩)) := by
  subst hc
  have hs : isSp 44 = false := rfl
  have hcm := fun (w2 : World) (hI2 : IsP w2 b B { p with st := 0, bg := true } v) => comma_any b B _ v w2 hI2 hne
  dsimp only at hcm
  clear hne
  generalize (if p.opn.head? = some 123 then (4 : Int) else 7) = code at hcm ⊢
  have hsp : ∀ w : World, Calls Try.prog 31 #[.int .u8 44] w fun e w' => e = .returned (.bool false) ∧ w' = w := fun w => by have := isSpace 44 w; rwa [hs] at this
  go_enter Try.func19, Try.ntmps19
  go_upto_region 8 with (first | (go_at_call 30; refine hin.mono ?_; rintro e w1 ⟨rfl, hI, hP⟩; obtain ⟨c0, c1, c2, f0⟩ := hI.cells; have f2 := f0 2) | (go_at_call 31; refine (hsp _).mono ?_; rintro e w5 ⟨rfl, hw5⟩; obtain rfl := hw5.symm))
  have hI2 := hI.setBg true
  have hP2 := hP.trans (Stp.set b v w1 2 (.bool true))
  have hw2 : B ≤ (w1.setCell ⟨b, 2, none⟩ (.bool true)).heap.size := Nat.le_trans hw hP2.size
  clear hI hP c0 c1 c2 f0 f2 hin hsp
  generalize w1.setCell ⟨b, 2, none⟩ (.bool true) = w2 at hI2 hP2 hw2 ⊢
  obtain ⟨c0, c1, c2, f0⟩ := hI2.cells
  dsimp only at c1 c2
  have f00 := f0 0
  have f01 := f0 1
  clear f0
  have hcm := hcm _ hI2
  go_wp2_with (first | (go_at_call 32; refine hcm.mono ?_; rintro e w3 ⟨rfl, n3, rfl⟩))
  all_goals go_ret
  exact ⟨_, rfl, ⟨hI2.hB, hI2.cell, hI2.row⟩, hP2.trans (Stp.drew b v w2 n3)⟩
set_option maxRecDepth 100000 in
set_option maxHeartbeats 2000000 in
theorem step34_any (b B : Nat) (p : Sp) (v : Value) (c : Int) (w : World) (hw : B ≤ w.heap.size) (hn : p.opn.length ≤ 10000) (hin : Calls Try.prog 30 #[.pointer (some ⟨b, 0, none⟩), .int .u8 c] w fun e w' => e = .returned (.bool false) ∧ IsP w' b B { p with st := 0 } v ∧ Stp b v w v w') (hc : c = 34) :
    Calls Try.prog 19 #[.pointer (some ⟨b, 0, none⟩), .int .u8 c] w (StepR b B v w (1, ⟨p.opn, 2, true⟩)) := by
  subst hc
  have hs : isSp 34 = false := rfl
  have hsp : ∀ w : World, Calls Try.prog 31 #[.int .u8 34] w fun e w' => e = .returned (.bool false) ∧ w' = w := fun w => by have := isSpace 34 w; rwa [hs] at this
  go_enter Try.func19, Try.ntmps19
  go_upto_region 8 with (first | (go_at_call 30; refine hin.mono ?_; rintro e w1 ⟨rfl, hI, hP⟩; obtain ⟨c0, c1, c2, f0⟩ := hI.cells; have f2 := f0 2) | (go_at_call 31; refine (hsp _).mono ?_; rintro e w5 ⟨rfl, hw5⟩; obtain rfl := hw5.symm))
  have hI2 := hI.setBg true
  have hP2 := hP.trans (Stp.set b v w1 2 (.bool true))
  have hw2 : B ≤ (w1.setCell ⟨b, 2, none⟩ (.bool true)).heap.size := Nat.le_trans hw hP2.size
  clear hI hP c0 c1 c2 f0 f2 hin hsp
  generalize w1.setCell ⟨b, 2, none⟩ (.bool true) = w2 at hI2 hP2 hw2 ⊢
  obtain ⟨c0, c1, c2, f0⟩ := hI2.cells
  dsimp only at c1 c2
  have f00 := f0 0
  have f01 := f0 1
  clear f0
  go_wp2_with fail
  all_goals go_ret
  exact ⟨_, rfl, hI2.setSt 2, hP2.trans (Stp.set b v w2 1 (.int .i64 2))⟩
set_option maxRecDepth 100000 in
set_option maxHeartbeats 2000000 in
theorem step_el_any (b B : Nat) (p : Sp) (v : Value) (c : Int) (w : World) (hw : B ≤ w.heap.size) (hn : p.opn.length ≤ 10000) (hin : Calls Try.prog 30 #[.pointer (some ⟨b, 0, none⟩), .int .u8 c] w fun e w' => e = .returned (.bool false) ∧ IsP w' b B { p with st := 0 } v ∧ Stp b v w v w') (hs : isSp c = false) (h123 : c ≠ 123) (h91 : c ≠ 91) (h125 : c ≠ 125) (h93 : c ≠ 93) (h58 : c ≠ 58) (h44 : c ≠ 44) (h34 : c ≠ 34) :
    Calls Try.prog 19 #[.pointer (some ⟨b, 0, none⟩), .int .u8 c] w (StepR b B v w (1, ⟨p.opn, 1, true⟩)) := by
  have k123 : (c == 123) = false := by simpa using h123
  have k91 : (c == 91) = false := by simpa using h91
  have k125 : (c == 125) = false := by simpa using h125
  have k93 : (c == 93) = false := by simpa using h93
  have k58 : (c == 58) = false := by simpa using h58
  have k44 : (c == 44) = false := by simpa using h44
  have k34 : (c == 34) = false := by simpa using h34
  clear h123 h91 h125 h93 h58 h44 h34
  have hsp : ∀ w : World, Calls Try.prog 31 #[.int .u8 c] w fun e w' => e = .returned (.bool false) ∧ w' = w := fun w => by have := isSpace c w; rwa [hs] at this
  go_enter Try.func19, Try.ntmps19
  go_upto_region 8 with (first | (go_at_call 30; refine hin.mono ?_; rintro e w1 ⟨rfl, hI, hP⟩; obtain ⟨c0, c1, c2, f0⟩ := hI.cells; have f2 := f0 2) | (go_at_call 31; refine (hsp _).mono ?_; rintro e w5 ⟨rfl, hw5⟩; obtain rfl := hw5.symm))
  have hI2 := hI.setBg true
  have hP2 := hP.trans (Stp.set b v w1 2 (.bool true))
  have hw2 : B ≤ (w1.setCell ⟨b, 2, none⟩ (.bool true)).heap.size := Nat.le_trans hw hP2.size
  clear hI hP c0 c1 c2 f0 f2 hin hsp
  generalize w1.setCell ⟨b, 2, none⟩ (.bool true) = w2 at hI2 hP2 hw2 ⊢
  obtain ⟨c0, c1, c2, f0⟩ := hI2.cells
  dsimp only at c1 c2
  have f00 := f0 0
  have f01 := f0 1
  clear f0
  go_wp2_with fail
  all_goals go_ret
  exact ⟨_, rfl, hI2.setSt 1, hP2.trans (Stp.set b v w2 1 (.int .i64 1))⟩
/-- One step, whatever the byte. -/
theorem stepP_any (b B : Nat) (p : Sp) (v : Value) (c : Int) (w : World) (h : IsP w b B p v) (hw : B ≤ w.heap.size) (hn : p.opn.length ≤ 10000)
    (hok : (innS p c).1 = false → (c = 125 ∨ c = 93 ∨ c = 44) → p.opn ≠ []) :
    Calls Try.prog 19 #[.pointer (some ⟨b, 0, none⟩), .int .u8 c] w (StepR b B v w (stepS p c)) := by
  unfold stepS
  by_cases hi : (innS p c).1 = true
  · rw [if_pos hi]
    exact step_in_any b B p v c w h hi
  · rw [if_neg hi]
    have hi' : (innS p c).1 = false := by simpa using hi
    have hin := inner_any b B p v c w h
    have e := inn_false hi'
    rw [e] at hin ⊢
    unfold outS
    by_cases hs : isSp c = true
    · rw [if_pos hs]; exact step_sp_any b B p v c w hw hn hin hs
    rw [if_neg hs]
    have hs' : isSp c = false := by simpa using hs
    by_cases h123 : c = 123
    · rw [if_pos h123]; exact step123_any b B p v c w hw hn hin h123
    rw [if_neg h123]
    by_cases h91 : c = 91
    · rw [if_pos h91]; exact step91_any b B p v c w hw hn hin h91
    rw [if_neg h91]
    by_cases h125 : c = 125
    · rw [if_pos h125]; exact step125_any b B p v c w hw hn hin h125 (hok hi' (.inl h125))
    rw [if_neg h125]
    by_cases h93 : c = 93
    · rw [if_pos h93]; exact step93_any b B p v c w hw hn hin h93 (hok hi' (.inr (.inl h93)))
    rw [if_neg h93]
    by_cases h58 : c = 58
    · rw [if_pos h58]; exact step58_any b B p v c w hw hn hin h58
    rw [if_neg h58]
    by_cases h44 : c = 44
    · rw [if_pos h44]; exact step44_any b B p v c w hw hn hin h44 (hok hi' (.inr (.inr h44)))
    rw [if_neg h44]
    by_cases h34 : c = 34
    · rw [if_pos h34]; exact step34_any b B p v c w hw hn hin h34
    rw [if_neg h34]
    exact step_el_any b B p v c w hw hn hin hs' h123 h91 h125 h93 h58 h44 h34
end Go.Proofs.Ytjbffgjclnjkoaa
