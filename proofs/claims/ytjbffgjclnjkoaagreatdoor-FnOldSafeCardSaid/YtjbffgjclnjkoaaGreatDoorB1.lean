/- Joined texts: Bz, Wr, Bv, Co, Of. -/
import Derived.Test.YtjbffgjclnjkoaaGreatDoorBu
import Derived.Test.YtjbffgjclnjkoaaGreatDoorAc
namespace Go.Proofs.YtjbffgjclnjkoaaGreatDoor
set_option linter.unusedVariables false
set_option linter.unusedSimpArgs false
section
/- (Bz) bytes.Buffer: Grow, AvailableBuffer, Write, String. -/
open Go.RowKit Go.Shelf

/-- What Grow gives: the bytes as they were, and room for n more behind them. -/
def GrownB (b B m n : Nat) (l : List Int) (v : Value) (w : World) (e : Ending) (w' : World) : Prop :=
  e = .returned (.tuple #[]) ∧ ∃ g o cap, m + n ≤ cap ∧ BufS w' b B (.slice (some ⟨g, o, none⟩) m cap) l ∧ Stp b v w (.slice (some ⟨g, o, none⟩) m cap) w'
set_option maxRecDepth 100000 in
set_option maxHeartbeats 4000000 in
theorem growPub_any (b B g o m cap n : Nat) (l : List Int) (w : World) (h : BufS w b B (.slice (some ⟨g, o, none⟩) m cap) l) (hB : B ≤ w.heap.size) (hlim : m + n ≤ 100000000000000) :
    Calls Tryz.prog 34 #[.pointer (some ⟨b, 0, none⟩), .int .i64 n] w (GrownB b B m n l (.slice (some ⟨g, o, none⟩) m cap) w) := by
  have hg := grow_any b B g o m cap n l w h hB hlim
  have hbB := h.hB
  have hn0 : (0 : Int) ≤ (n : Int) := by omega
  have hm0 : (0 : Int) ≤ (m : Int) := by omega
  clear h
  go_enter Tryz.func34, Tryz.ntmps34
  go_wp2_with (first
    | (go_at_call 58; refine hg.mono ?_; rintro e w1 ⟨rfl, g1, o1, cap1, hc1, hb1, ⟨lr, hcell⟩, hP⟩; obtain ⟨-, -, hcm, -⟩ := bs_room hb1; have d0 : w1.cell? ⟨b, 0, none⟩ = some (.slice (some ⟨g1, o1, none⟩) (m + n) cap1) := (by simp [World.cell?, hcell]); have d2 : w1.frozen? ⟨b, 0, none⟩ = false := (by simp [World.frozen?, hcell]); have z1 : (cap1 : Int) ≤ 9223372036854775807 := (by unfold maxLen at hcm; omega); have z2 : (m : Int) ≤ (cap1 : Int) := (by omega)))
  all_goals go_end0
  have hne : ∀ g', g' = g1 → g' ≠ b := fun g' e e2 => by
    subst e e2
    exact bs_ne hb1 hcell (by decide) rfl
  refine ⟨rfl, g1, o1, cap1, hc1, ⟨hbB, ⟨lr, heap_setCell_same hcell _⟩, hb1.same fun g' hg' => Below.heap_setCell _ _ _ _ ?_⟩, hP.trans (setv2 (v := .slice (some ⟨g1, o1, none⟩) (m + n) cap1) (v' := .slice (some ⟨g1, o1, none⟩) m cap1) rfl 0 _)⟩
  intro e
  have e2 : g1 = g' := by simpa [Value.ownBlock] using hg'
  exact hne g' e2.symm (by simpa using e)
set_option maxRecDepth 100000 in
set_option maxHeartbeats 4000000 in
theorem avail_any (b B g o m cap : Nat) (l : List Int) (w : World) (h : BufS w b B (.slice (some ⟨g, o, none⟩) m cap) l) :
    Calls Tryz.prog 37 #[.pointer (some ⟨b, 0, none⟩)] w fun e w' => ∃ v2, e = .returned v2 ∧ Bs w B v2 [] ∧ (v2 = .slice (some ⟨g, o + m, none⟩) 0 (cap - m) ∨ v2 = .slice (some ⟨g, o, none⟩) 0 0 ∧ m = cap) ∧ ∃ n, w' = w.drewN n := by
  obtain ⟨hml, hmc, hcm, hBg, cur, fr, hg, k1, k2, k3⟩ := bs_room h.bs
  obtain ⟨lr, c0, c1, c2, f⟩ := h.cells
  have q0 : ∀ nq, (w.drewN nq).cell? ⟨b, 0, none⟩ = some (.slice (some ⟨g, o, none⟩) m cap) := fun _ => c0
  have z0 : (0 : Int) ≤ (m : Int) := by omega
  have z1 : (cap : Int) ≤ 9223372036854775807 := by unfold maxLen at hcm; omega
  have z2 : (m : Int) ≤ (cap : Int) := by omega
  by_cases hlt : m < cap
  · have hbs : Bs w B (.slice (some ⟨g, o + m, none⟩) 0 (cap - m)) [] := bs_make By8.nil (Nat.zero_le _) (by omega) hBg hg (by omega) (by omega) (by simp [bv])
    have z3 : (m : Int) < (cap : Int) := by omega
    clear c0 c1 c2 f k1 k2 k3 hg h hml hmc hcm
    go_enter Tryz.func37, Tryz.ntmps37
    go_upto_region 1 with fail
    go_quiet (fail)
    go_wp2_with fail
    all_goals go_ret
    first | exact ⟨_, rfl, hbs, .inl rfl, _, rfl⟩ | exact ⟨hbs, .inl rfl, _, rfl⟩
  · obtain rfl : m = cap := by omega
    have hbs : Bs w B (.slice (some ⟨g, o, none⟩) 0 0) [] := bs_make By8.nil (Nat.zero_le _) (by omega) hBg hg (by omega) (by omega) (by simp [bv])
    clear c0 c1 c2 f k1 k2 k3 hg h hml hmc hcm
    go_enter Tryz.func37, Tryz.ntmps37
    go_upto_region 1 with fail
    go_quiet (fail)
    go_wp2_with fail
    all_goals go_ret
    first | exact ⟨_, rfl, hbs, .inr ⟨rfl, rfl⟩, _, rfl⟩ | exact ⟨hbs, .inr ⟨rfl, trivial⟩, _, rfl⟩ | exact ⟨hbs, .inr rfl, _, rfl⟩ | exact ⟨_, rfl, hbs, .inr ⟨rfl, trivial⟩, _, rfl⟩
set_option maxRecDepth 100000 in
set_option maxHeartbeats 4000000 in
theorem bufStr_any (b B g o m cap : Nat) (l : List Int) (w : World) (h : BufS w b B (.slice (some ⟨g, o, none⟩) m cap) l) :
    Calls Tryz.prog 19 #[.pointer (some ⟨b, 0, none⟩)] w fun e w' => e = .returned (.string (txt l)) ∧ ∃ n, w' = w.drewN n := by
  obtain ⟨hml, hmc, hcm, hBg, cur, fr, hg, k1, k2, k3⟩ := bs_room h.bs
  obtain ⟨lr, c0, c1, c2, f⟩ := h.cells
  have q0 : ∀ nq, (w.drewN nq).cell? ⟨b, 0, none⟩ = some (.slice (some ⟨g, o, none⟩) m cap) := fun _ => c0
  have q1 : ∀ nq, (w.drewN nq).cell? ⟨b, 1, none⟩ = some (.int .i64 0) := fun _ => c1
  have hcv : ∀ nq, (convert 54 9 (.slice (some ⟨g, o, none⟩) m cap)).run Tryz.prog (w.drewN nq) = .ok (.string (txt l)) (w.drewN nq) := fun nq => bs_str (h.bs.drewN nq)
  have z0 : (0 : Int) ≤ (m : Int) := by omega
  have z1 : (cap : Int) ≤ 9223372036854775807 := by unfold maxLen at hcm; omega
  have z2 : (m : Int) ≤ (cap : Int) := by omega
  clear c0 c1 c2 f k1 k2 k3 hg hml hmc hcm h
  by_cases hz : cap = 0
  · subst hz
    have hm : m = 0 := by omega
    subst hm
    go_enter Tryz.func19, Tryz.ntmps19
    go_upto_region 3 with fail
    go_quiet (fail)
    go_wp2_with fail
    all_goals go_ret
    first | exact ⟨rfl, _, rfl⟩ | exact ⟨_, rfl⟩
  · have z3 : (0 : Int) < (cap : Int) := by omega
    go_enter Tryz.func19, Tryz.ntmps19
    go_upto_region 3 with fail
    go_quiet (fail)
    go_wp2_with fail
    all_goals go_ret
    first | exact ⟨rfl, _, rfl⟩ | exact ⟨_, rfl⟩
end
section
/- (Wr) bytes.Buffer: Write, where there is room. -/
open Go.RowKit Go.Shelf

theorem bs_src {w : World} {B n pc : Nat} {pa : Option Addr} {T : List Int} (hp : Bs w B (.slice pa n pc) T) : n = T.length ∧ (n = 0 ∨ ∃ g o cur fr, pa = some ⟨g, o, none⟩ ∧ w.heap[g]? = some (.cells cur 5 fr) ∧ (cur.toList.drop o).take n = bv T) := by
  obtain ⟨h8, ao, cp, hv, h1, h2, h3⟩ := hp
  cases hv
  refine ⟨rfl, ?_⟩
  rcases h3 with ⟨rfl, h0⟩ | ⟨g', o', cur, fr, rfl, hB, hg, k1, k2, k3⟩
  · left; omega
  · exact .inr ⟨g', o', cur, fr, rfl, hg, k3⟩
theorem bv_one (T : List Int) : ∀ v ∈ bv T, v.oneCell' = true := by intro u hu; obtain ⟨x, _, rfl⟩ := List.mem_map.1 hu; rfl

set_option maxRecDepth 100000 in
set_option maxHeartbeats 4000000 in
theorem write_room (b B g o m cap n pc : Nat) (l T : List Int) (pa : Option Addr) (w : World) (h : BufS w b B (.slice (some ⟨g, o, none⟩) m cap) l) (hp : Bs w B (.slice pa n pc) T) (hroom : m + n ≤ cap) (hlt : m < cap) :
    Calls Tryz.prog 35 #[.pointer (some ⟨b, 0, none⟩), .slice pa n pc] w fun e w' => e = .returned (.tuple #[.int .i64 n, .nilIface]) ∧ BufS w' b B (.slice (some ⟨g, o, none⟩) (m + n) cap) (l ++ T) ∧ Stp b (.slice (some ⟨g, o, none⟩) m cap) w (.slice (some ⟨g, o, none⟩) (m + n) cap) w' := by
  obtain ⟨hml, hmc, hcm, hBg, cur, fr, hg, k1, k2, k3⟩ := bs_room h.bs
  obtain ⟨lr, c0, c1, c2, f⟩ := h.cells
  have f0 := f 0
  have f2 := f 2
  obtain ⟨lr2, hcell⟩ := h.cell
  have hgb : g ≠ b := by
    intro e; exact h.own_ne (by rw [e]; rfl)
  have hpb : ∀ g' o', pa = some ⟨g', o', none⟩ → g' ≠ b := by
    rintro g' o' rfl e
    exact bs_ne hp hcell (by decide) (by rw [e]; rfl)
  obtain ⟨hnT, hsrc⟩ := bs_src hp
  have h8T := hp.by8
  have h8l := h.bs.by8
  -- the world behind tryGrowByReslice
  have hcell2 := heap_setCell_same (heap_setCell_same hcell (o := 2) (.int .i8 0)) (o := 0) (.slice (some ⟨g, o, none⟩) (m + n) cap)
  have other : ∀ k, k ≠ b → ((w.setCell ⟨b, 2, none⟩ (.int .i8 0)).setCell ⟨b, 0, none⟩ (.slice (some ⟨g, o, none⟩) (m + n) cap)).heap[k]? = w.heap[k]? := fun k hk =>
    (Below.heap_setCell _ _ _ _ (by simpa using hk)).trans (Below.heap_setCell _ _ _ _ (by simpa using hk))
  have ht := tryRoom b g o m cap n (w.setCell ⟨b, 2, none⟩ (.int .i8 0)) (by simp [World.cell?, heap_setCell_same hcell]) (by simp [World.frozen?, heap_setCell_same hcell]) hroom hcm
  have hS : Stp b (.slice (some ⟨g, o, none⟩) m cap) w (.slice (some ⟨g, o, none⟩) (m + n) cap) ((w.setCell ⟨b, 2, none⟩ (.int .i8 0)).setCell ⟨b, 0, none⟩ (.slice (some ⟨g, o, none⟩) (m + n) cap)) :=
    (setv2 (v := .slice (some ⟨g, o, none⟩) m cap) (v' := .slice (some ⟨g, o, none⟩) m cap) rfl 2 _).trans (setv2 (v := .slice (some ⟨g, o, none⟩) m cap) (v' := .slice (some ⟨g, o, none⟩) (m + n) cap) rfl 0 _)
  revert hcell2 other ht hS
  generalize (w.setCell ⟨b, 2, none⟩ (.int .i8 0)).setCell ⟨b, 0, none⟩ (.slice (some ⟨g, o, none⟩) (m + n) cap) = w2
  intro hcell2 other ht hS
  have hg2 : w2.heap[g]? = some (.cells cur 5 fr) := (other g hgb).trans hg
  have d0 : w2.cell? ⟨b, 0, none⟩ = some (.slice (some ⟨g, o, none⟩) (m + n) cap) := by simp [World.cell?, hcell2]
  have hcs : ∀ j, j < (bv T).length → (w2.cell? ⟨g, o + m + 0 + j, none⟩).isSome = true := fun j hj => by
    rw [bv_len] at hj
    have : o + m + j < cur.size := by omega
    simp [World.cell?, hg2, this]
  have hfz : ∀ j, j < (bv T).length → w2.frozen? ⟨g, o + m + 0 + j, none⟩ = false := fun j hj => by
    rw [bv_len] at hj
    obtain ⟨lo, hi'⟩ := fr
    dsimp only at k2
    simp only [World.frozen?, hg2]
    simp
    omega
  have hsr : n = 0 ∨ ∃ a, pa = some a ∧ ∀ j v, (bv T)[j]? = some v → w2.cell? (a.add j) = some v := by
    rcases hsrc with h0 | ⟨g', o', cur', fr', rfl, hg', k'⟩
    · exact .inl h0
    · refine .inr ⟨_, rfl, fun j v hj => ?_⟩
      have hjl : j < n := by have := (List.getElem?_eq_some_iff.1 hj).1; rw [bv_len] at this; omega
      have : (bv T)[j]? = cur'.toList[o' + j]? := by rw [← k', List.getElem?_take, if_pos hjl, List.getElem?_drop]
      rw [this] at hj
      have hg3 : w2.heap[g']? = some (.cells cur' 5 fr') := (other g' (hpb g' o' rfl)).trans hg'
      rw [Addr.add_lit]
      simp only [World.cell?, hg3]
      simpa using hj
  have hcopy := copy_run (P := Tryz.prog) w2 54 54 3 5 Tryz.underlying54 Tryz.infoU8s g (o + m) n (cap - m) pa n pc (bv T) (by rw [bv_len, hnT]) (Nat.le_refl _) hsr hcs hfz (bv_one T)
  obtain ⟨hgr, cur3, g1, g2, g3⟩ := setCells_row g 5 fr (bv T) (o + m) w2 cur hg2 (by rw [bv_len]; omega)
  rw [bv_len] at g3
  have hcl : cur.toList.length = cur.size := Array.length_toList
  have hfin : BufS (w2.setCells g (o + m) (bv T)) b B (.slice (some ⟨g, o, none⟩) (m + n) cap) (l ++ T) ∧ Stp b (.slice (some ⟨g, o, none⟩) m cap) w (.slice (some ⟨g, o, none⟩) (m + n) cap) (w2.setCells g (o + m) (bv T)) := by
    refine ⟨⟨h.hB, ⟨0, ?_⟩, ?_⟩, hS.trans ⟨hgr.os, hgr.tape, hgr.output, hgr.size, fun k hk _ hv => hgr.block k hk (fun e => hv e.symm), fun k _ h => h⟩⟩
    · refine (hgr.block b (lt_of_block hcell2) (by intro e; apply hgb; simpa [Value.ownBlock] using e.symm)).trans ?_
      simpa using hcell2
    · have e1 : (cur3.toList.drop o).take (m + n) = (cur3.toList.take (o + m + T.length)).drop o := by
        rw [List.drop_take]; congr 1; omega
      have e2 : (cur.toList.take (o + m)).drop o = (cur.toList.drop o).take m := by
        rw [List.drop_take]; congr 1; omega
      have hk3 : (cur3.toList.drop o).take (l ++ T).length = bv (l ++ T) := by
        rw [List.length_append, ← hml, ← hnT, bv_app, e1, g3, List.drop_append_of_le_length (by rw [List.length_take, hcl]; omega), e2, k3]
      have := bs_make (B := B) (fun x hx => (List.mem_append.1 hx).elim (h8l x) (h8T x)) (by rw [List.length_append]; omega) hcm hBg g1 (by omega) k2 hk3
      rw [List.length_append, ← hml, ← hnT] at this
      exact this
  revert hfin hcopy
  generalize w2.setCells g (o + m) (bv T) = w3
  intro hcopy hfin
  have z1 : (m : Int) + (n : Int) ≤ (cap : Int) := by omega
  have z2 : (cap : Int) ≤ 9223372036854775807 := by unfold maxLen at hcm; omega
  have z3 : (m : Int) < (cap : Int) := by omega
  have z4 : (m : Int) ≤ (m : Int) + (n : Int) := by omega
  have z5 : m + n - m = n := by omega
  clear hsr hcs hfz hsrc hnT h8T h8l hS other hcell hcell2 hg hg2 k1 k2 k3 hml hmc hcm hgr g1 g2 g3 hp h c0 c1 f hpb hroom hlt
  go_enter Tryz.func35, Tryz.ntmps35
  go_wp2_with (first
    | (go_at_call 59; refine ht.mono ?_; rintro e w4 ⟨rfl, rfl⟩))
  all_goals go_ret2
  exact ⟨rfl, hfin⟩
set_option maxRecDepth 100000 in
set_option maxHeartbeats 4000000 in
theorem write_full (b B g o m pc : Nat) (l : List Int) (pa : Option Addr) (w : World) (h : BufS w b B (.slice (some ⟨g, o, none⟩) m m) l) :
    Calls Tryz.prog 35 #[.pointer (some ⟨b, 0, none⟩), .slice pa 0 pc] w fun e w' => e = .returned (.tuple #[.int .i64 0, .nilIface]) ∧ BufS w' b B (.slice (some ⟨g, o, none⟩) m m) l ∧ Stp b (.slice (some ⟨g, o, none⟩) m m) w (.slice (some ⟨g, o, none⟩) m m) w' := by
  obtain ⟨hml, hmc, hcm, hBg, cur, fr, hg, k1, k2, k3⟩ := bs_room h.bs
  obtain ⟨lr, c0, c1, c2, f⟩ := h.cells
  have f0 := f 0
  have f2 := f 2
  obtain ⟨lr2, hcell⟩ := h.cell
  have hgb : g ≠ b := by
    intro e; exact h.own_ne (by rw [e]; rfl)
  have hcell2 := heap_setCell_same (heap_setCell_same hcell (o := 2) (.int .i8 0)) (o := 0) (.slice (some ⟨g, o, none⟩) (m + 0) m)
  have other : ∀ k, k ≠ b → ((w.setCell ⟨b, 2, none⟩ (.int .i8 0)).setCell ⟨b, 0, none⟩ (.slice (some ⟨g, o, none⟩) (m + 0) m)).heap[k]? = w.heap[k]? := fun k hk =>
    (Below.heap_setCell _ _ _ _ (by simpa using hk)).trans (Below.heap_setCell _ _ _ _ (by simpa using hk))
  have ht := tryRoom b g o m m 0 (w.setCell ⟨b, 2, none⟩ (.int .i8 0)) (by simp [World.cell?, heap_setCell_same hcell]) (by simp [World.frozen?, heap_setCell_same hcell]) (Nat.le_refl _) hcm
  have hS : Stp b (.slice (some ⟨g, o, none⟩) m m) w (.slice (some ⟨g, o, none⟩) m m) ((w.setCell ⟨b, 2, none⟩ (.int .i8 0)).setCell ⟨b, 0, none⟩ (.slice (some ⟨g, o, none⟩) (m + 0) m)) :=
    (setv2 (v := .slice (some ⟨g, o, none⟩) m m) (v' := .slice (some ⟨g, o, none⟩) m m) rfl 2 _).trans (setv2 (v := .slice (some ⟨g, o, none⟩) m m) (v' := .slice (some ⟨g, o, none⟩) m m) rfl 0 _)
  revert hcell2 other ht hS
  generalize (w.setCell ⟨b, 2, none⟩ (.int .i8 0)).setCell ⟨b, 0, none⟩ (.slice (some ⟨g, o, none⟩) (m + 0) m) = w2
  intro hcell2 other ht hS
  simp only [Nat.add_zero] at hcell2
  have d0 : w2.cell? ⟨b, 0, none⟩ = some (.slice (some ⟨g, o, none⟩) m m) := by simp [World.cell?, hcell2]
  have hcopy := copy_run (P := Tryz.prog) w2 54 54 3 5 Tryz.underlying54 Tryz.infoU8s g o 0 0 pa 0 pc [] rfl (Nat.le_refl _) (.inl rfl) (fun j hj => by cases hj) (fun j hj => by cases hj) (fun v hv => by cases hv)
  have hfin : BufS w2 b B (.slice (some ⟨g, o, none⟩) m m) l ∧ Stp b (.slice (some ⟨g, o, none⟩) m m) w (.slice (some ⟨g, o, none⟩) m m) w2 :=
    ⟨⟨h.hB, ⟨0, by simpa using hcell2⟩, h.bs.same fun g' hg' => other g' (fun e => h.own_ne (by rw [hg', e]))⟩, hS⟩
  have z2 : (m : Int) ≤ 9223372036854775807 := by unfold maxLen at hcm; omega
  have z3 : (0 : Int) ≤ (m : Int) := by omega
  clear hS other hcell hcell2 hg k1 k2 k3 hml hmc hcm h c0 c1 f
  go_enter Tryz.func35, Tryz.ntmps35
  go_wp2_with (first
    | (go_at_call 59; refine ht.mono ?_; rintro e w4 ⟨rfl, rfl⟩))
  all_goals go_ret2
  exact ⟨rfl, hfin⟩
end
section
/- (Bv) bytes.Buffer: Write, where there is no room. -/
open Go.RowKit Go.Shelf

theorem bufS_two {w : World} {b B : Nat} {v : Value} {l : List Int} (h : BufS w b B v l) (lr : Int) : BufS (w.setCell ⟨b, 2, none⟩ (.int .i8 lr)) b B v l ∧ Stp b v w v (w.setCell ⟨b, 2, none⟩ (.int .i8 lr)) := by
  obtain ⟨lr2, hcell⟩ := h.cell
  refine ⟨⟨h.hB, ⟨lr, by simpa using heap_setCell_same hcell (o := 2) (.int .i8 lr)⟩, h.bs.same fun g hg => Below.heap_setCell _ _ _ _ (fun e => h.own_ne (by rw [hg]; simpa using e))⟩, setv2 rfl 2 _⟩
set_option maxRecDepth 100000 in
set_option maxHeartbeats 4000000 in
/-- Write of more bytes than there is room for: all that was there, and they, in a new block. -/
theorem write_grow (b B g o m cap n pc : Nat) (l T : List Int) (pa : Option Addr) (w : World) (h : BufS w b B (.slice (some ⟨g, o, none⟩) m cap) l) (hp : Bs w B (.slice pa n pc) T) (hno : cap < m + n) (hB : B ≤ w.heap.size) (hlim : m + n ≤ 100000000000000) :
    Calls Tryz.prog 35 #[.pointer (some ⟨b, 0, none⟩), .slice pa n pc] w fun e w' => e = .returned (.tuple #[.int .i64 n, .nilIface]) ∧ ∃ g2 cap2, BufS w' b B (.slice (some ⟨g2, 0, none⟩) (m + n) cap2) (l ++ T) ∧ Stp b (.slice (some ⟨g, o, none⟩) m cap) w (.slice (some ⟨g2, 0, none⟩) (m + n) cap2) w' := by
  obtain ⟨hml, hmc, hcm, hBg, cur, fr, hg, k1, k2, k3⟩ := bs_room h.bs
  obtain ⟨lr, c0, c1, c2, f⟩ := h.cells
  have f2 := f 2
  obtain ⟨lr2, hcell⟩ := h.cell
  have hb := h.lt
  obtain ⟨hnT, hsrc⟩ := bs_src hp
  have hpb : ∀ g' o', pa = some ⟨g', o', none⟩ → g' ≠ b := by
    rintro g' o' rfl e
    exact bs_ne hp hcell (by decide) (by rw [e]; rfl)
  have h8T := hp.by8
  have h8l := h.bs.by8
  obtain ⟨h1, hP1⟩ := bufS_two h 0
  have other : ∀ k, k ≠ b → (w.setCell ⟨b, 2, none⟩ (.int .i8 0)).heap[k]? = w.heap[k]? := fun k hk => Below.heap_setCell _ _ _ _ (by simpa using hk)
  obtain ⟨lr1, d0, -, -, -⟩ := h1.cells
  have hsz1 : (w.setCell ⟨b, 2, none⟩ (.int .i8 0)).heap.size = w.heap.size := by simp [World.setCell]
  have ht := tryNone b g o m cap n _ d0 hno hmc hcm
  have hgr := grow_none b B g o m cap n l _ h1 (by rw [hsz1]; exact hB) hlim (by omega)
  have hcp : ∀ (w2 : World), GrowN b B m n l (w.setCell ⟨b, 2, none⟩ (.int .i8 0)) (.returned (.int .i64 m)) w2 → ∃ cap2, w2.cell? ⟨b, 0, none⟩ = some (.slice (some ⟨w.heap.size, 0, none⟩) (m + n) cap2) ∧ m + n ≤ cap2 ∧ cap2 ≤ maxLen ∧
      ∃ w3, (Builtin.copy_ #[54, 54] 3 #[.slice (some ⟨w.heap.size, m, none⟩) n (cap2 - m), .slice pa n pc]).run Tryz.prog w2 = .ok (goInt n) w3 ∧
        BufS w3 b B (.slice (some ⟨w.heap.size, 0, none⟩) (m + n) cap2) (l ++ T) ∧ Stp b (.slice (some ⟨g, o, none⟩) m cap) w (.slice (some ⟨w.heap.size, 0, none⟩) (m + n) cap2) w3 := by
    rintro w2 ⟨-, cap2, e1, e2, ⟨lr3, hcell2⟩, e4, e5, e6, e7, e8⟩
    rw [hsz1] at e2 hcell2 e7 e8
    obtain ⟨hml2, hmc2, hcm2, hBg2, cur2, fr2, hg2, j1, j2, j3⟩ := bs_room e2
    have hcs : ∀ j, j < (bv T).length → (w2.cell? ⟨w.heap.size, m + 0 + j, none⟩).isSome = true := fun j hj => by
      rw [bv_len] at hj
      have : m + 0 + j < cur2.size := by omega
      simp only [World.cell?, hg2]
      simpa using this
    have hfz : ∀ j, j < (bv T).length → w2.frozen? ⟨w.heap.size, m + 0 + j, none⟩ = false := fun j hj => by
      rw [bv_len] at hj
      obtain ⟨lo, hi'⟩ := fr2
      dsimp only at j2
      simp only [World.frozen?, hg2]
      simp
      omega
    have hsr : n = 0 ∨ ∃ a, pa = some a ∧ ∀ j v, (bv T)[j]? = some v → w2.cell? (a.add j) = some v := by
      rcases hsrc with h0 | ⟨g', o', cur', fr', rfl, hg', k'⟩
      · exact .inl h0
      · refine .inr ⟨_, rfl, fun j v hj => ?_⟩
        have hjl : j < n := by have := (List.getElem?_eq_some_iff.1 hj).1; rw [bv_len] at this; omega
        have : (bv T)[j]? = cur'.toList[o' + j]? := by rw [← k', List.getElem?_take, if_pos hjl, List.getElem?_drop]
        rw [this] at hj
        have hne := hpb g' o' rfl
        have hg3 : w2.heap[g']? = some (.cells cur' 5 fr') := (e8 g' (lt_of_block hg') hne).trans ((other g' hne).trans hg')
        rw [Addr.add_lit]
        simp only [World.cell?, hg3]
        simpa using hj
    have hcopy := copy_run (P := Tryz.prog) w2 54 54 3 5 Tryz.underlying54 Tryz.infoU8s w.heap.size (m) n (cap2 - m) pa n pc (bv T) (by rw [bv_len, hnT]) (Nat.le_refl _) hsr hcs hfz (bv_one T)
    obtain ⟨hgr2, cur3, g1, g2, g3⟩ := setCells_row w.heap.size 5 fr2 (bv T) (m) w2 cur2 hg2 (by rw [bv_len]; omega)
    rw [bv_len] at g3
    have hcl : cur2.toList.length = cur2.size := Array.length_toList
    refine ⟨cap2, by simp [World.cell?, hcell2], e1, hcm2, _, hcopy, ⟨h.hB, ⟨lr3, ?_⟩, ?_⟩, ?_⟩
    · refine (hgr2.block b (lt_of_block hcell2) ?_).trans hcell2
      intro e
      have : w.heap.size = b := by simpa using e.symm
      omega
    · have q1 : (cur3.toList.drop 0).take (m + n) = cur3.toList.take (m + T.length) := by
        rw [List.drop_zero]; congr 1; omega
      have q2 : cur2.toList.take m = (cur2.toList.drop 0).take m := by rw [List.drop_zero]
      have hk3 : (cur3.toList.drop 0).take (l ++ T).length = bv (l ++ T) := by
        rw [List.length_append, ← hml, ← hnT, bv_app, q1, g3, q2, j3]
      have := bs_make (B := B) (fun x hx => (List.mem_append.1 hx).elim (h8l x) (h8T x)) (by rw [List.length_append]; omega) hcm2 hBg2 g1 (by omega) j2 hk3
      rw [List.length_append, ← hml, ← hnT] at this
      exact this
    · refine ⟨hgr2.os.trans (e4.trans hP1.os), hgr2.tape.trans (e5.trans hP1.tape), hgr2.output.trans (e6.trans hP1.output), Nat.le_trans e7 hgr2.size, fun k hk hne _ => ?_, fun k hk _ e => ?_⟩
      · refine (hgr2.block k (Nat.lt_of_lt_of_le hk e7) ?_).trans ((e8 k hk hne).trans (other k hne))
        intro e
        have : w.heap.size = k := by simpa using e.symm
        omega
      · have : w.heap.size = k := by simpa [Value.ownBlock] using e
        omega
  have z1 : (m : Int) + (n : Int) ≤ 100000000000000 := by omega
  have z3 : (m : Int) < (m : Int) + (n : Int) := by omega
  have z4 : (0 : Int) ≤ (m : Int) := by omega
  have z5 : m + n - m = n := by omega
  have HC := Lib.hid hcp
  clear hcp hsrc hnT h8T h8l other hcell hg k1 k2 k3 hml hcm hp h h1 hP1 c0 c1 f hpb hno hmc hlim hsz1
  go_enter Tryz.func35, Tryz.ntmps35
  go_wp2_with (first
    | (go_at_call 59; go_loud (refine ht.mono ?_; rintro e w4 ⟨rfl, rfl⟩))
    | (go_at_call 58; refine hgr.mono ?_; rintro e w2 hG; obtain rfl := hG.1; obtain ⟨cap2, q0, q1, q2, w3, hcopy, hfin⟩ := HC.out w2 hG; have y1 : (m : Int) + (n : Int) ≤ (cap2 : Int) := (by omega); have y2 : (cap2 : Int) ≤ 9223372036854775807 := (by unfold maxLen at q2; omega); have y3 : (m : Int) < (cap2 : Int) := (by omega); clear hG q1 q2))
  all_goals go_ret2
  exact ⟨rfl, _, _, hfin⟩
/-- Write, with or without room. -/
theorem write_any (b B g o m cap n pc : Nat) (l T : List Int) (pa : Option Addr) (w : World) (h : BufS w b B (.slice (some ⟨g, o, none⟩) m cap) l) (hp : Bs w B (.slice pa n pc) T) (hB : B ≤ w.heap.size) (hlim : m + n ≤ 100000000000000) :
    Calls Tryz.prog 35 #[.pointer (some ⟨b, 0, none⟩), .slice pa n pc] w fun e w' => e = .returned (.tuple #[.int .i64 n, .nilIface]) ∧ ∃ g2 o2 cap2, BufS w' b B (.slice (some ⟨g2, o2, none⟩) (m + n) cap2) (l ++ T) ∧ Stp b (.slice (some ⟨g, o, none⟩) m cap) w (.slice (some ⟨g2, o2, none⟩) (m + n) cap2) w' := by
  obtain ⟨hml, hmc, hcm, -⟩ := bs_room h.bs
  by_cases hr : m + n ≤ cap
  · by_cases hlt : m < cap
    · exact (write_room b B g o m cap n pc l T pa w h hp hr hlt).mono fun e w' ⟨h1, h2, h3⟩ => ⟨h1, g, o, cap, h2, h3⟩
    · obtain rfl : m = cap := by omega
      obtain rfl : n = 0 := by omega
      have hT : T = [] := List.eq_nil_of_length_eq_zero (bs_src hp).1.symm
      subst hT
      exact (write_full b B g o m pc l pa w h).mono fun e w' ⟨h1, h2, h3⟩ => ⟨h1, g, o, m, by rw [List.append_nil]; exact h2, h3⟩
  · exact (write_grow b B g o m cap n pc l T pa w h hp (by omega) hB hlim).mono fun e w' ⟨h1, g2, cap2, h2, h3⟩ => ⟨h1, g2, 0, cap2, h2, h3⟩
end
section
/- (Co) jsonscan.Compact: what it leaves in the buffer. -/
open Go.RowKit Go.Shelf

/-- Appending behind a buffer's bytes leaves the buffer. -/
theorem buf_behind {b B g o m cap : Nat} {l : List Int} {w w' : World} {v' : Value} (h : BufS w b B (.slice (some ⟨g, o, none⟩) m cap) l) (hap : Ap (.slice (some ⟨g, o + m, none⟩) 0 (cap - m)) w v' w') :
    BufS w' b B (.slice (some ⟨g, o, none⟩) m cap) l ∧ Stp b (.slice (some ⟨g, o, none⟩) m cap) w (.slice (some ⟨g, o, none⟩) m cap) w' := by
  obtain ⟨hml, hmc, hcm, hBg, cur, fr, hg, k1, k2, k3⟩ := bs_room h.bs
  obtain ⟨lr2, hcell⟩ := h.cell
  have hgb : g ≠ b := by
    intro e; exact h.own_ne (by rw [e]; rfl)
  obtain ⟨cur', g1, g2, g3⟩ := hap.pre g (o + m) cur fr rfl hg
  have h8 := h.bs.by8
  refine ⟨⟨h.hB, ⟨lr2, ?_⟩, ?_⟩, hap.gr.os, hap.gr.tape, hap.gr.output, hap.gr.size, fun k hk _ hv => hap.gr.block k hk (fun e => hv (by simpa [Value.ownBlock] using e.symm)), fun k _ h => h⟩
  · exact (hap.gr.block b (lt_of_block hcell) (by intro e; apply hgb; simpa [Value.ownBlock] using e.symm)).trans hcell
  · have e : (cur'.toList.drop o).take m = (cur.toList.drop o).take m := by
      apply List.ext_getElem?
      intro j
      rw [List.getElem?_take, List.getElem?_take]
      split
      · rw [List.getElem?_drop, List.getElem?_drop]
        have := g3 (o + j) (by omega)
        simpa using this
      · rfl
    subst hml
    exact bs_make h8 hmc hcm hBg g1 (by omega) k2 (by rw [e, k3])
/-- What Compact (or Indent) leaves: T behind the bytes, or the bytes alone and a SyntaxError. -/
def CompO (b B m : Nat) (l T : List Int) (V : Bool) (v : Value) (w : World) (u : Value) (w' : World) : Prop :=
  ∃ g o cap R, BufS w' b B (.slice (some ⟨g, o, none⟩) (m + R.length) cap) (l ++ R) ∧ Stp b v w (.slice (some ⟨g, o, none⟩) (m + R.length) cap) w' ∧ (V = true → u = .nilIface ∧ R = T) ∧
    (V = false → R = [] ∧ ∃ (p : Nat) (s : ByteArray) (n : Int), u = .iface 103 (.pointer (some ⟨p, 0, none⟩)) ∧ w'.heap[p]? = some (.cells #[.string s, .int .i64 n] 107 (0, 0)))
/-- What has been made behind the buffer's bytes is written to it. -/
theorem comp_write {b B g o m cap g1 o1 cap1 : Nat} {l T : List Int} {V : Bool} {w w1 w2 : World} {e : Ending} (hb1 : BufS w1 b B (.slice (some ⟨g1, o1, none⟩) m cap1) l) (hP : Stp b (.slice (some ⟨g, o, none⟩) m cap) w (.slice (some ⟨g1, o1, none⟩) m cap1) w1) (hB1 : B ≤ w1.heap.size)
    (hlim : m + T.length ≤ 100000000000000) (hR : CompR B (.slice (some ⟨g1, o1 + m, none⟩) 0 (cap1 - m)) w1 [] T V e w2) : ∃ pa n pc u, e = .returned (.tuple #[.slice pa n pc, u]) ∧
      Calls Tryz.prog 35 #[.pointer (some ⟨b, 0, none⟩), .slice pa n pc] w2 fun e w' => e = .returned (.tuple #[.int .i64 n, .nilIface]) ∧ CompO b B m l T V (.slice (some ⟨g, o, none⟩) m cap) w u w' := by
  obtain ⟨v', u, rfl, hap, hok, hbad⟩ := hR
  obtain ⟨h2, hP2⟩ := buf_behind hb1 hap
  have hB2 : B ≤ w2.heap.size := Nat.le_trans hB1 hP2.size
  have hg1 : g1 < w1.heap.size := by obtain ⟨_, _, _, _, _, _, hg, _⟩ := bs_room hb1.bs; exact lt_of_block hg
  have hbb := hb1.lt
  cases V with
  | true =>
    obtain ⟨rfl, hbT⟩ := hok rfl
    rw [List.nil_append] at hbT
    obtain ⟨h8, pa, pc, hv', q1, q2, q3⟩ := id hbT
    subst hv'
    refine ⟨pa, _, pc, _, rfl, (write_any b B g1 o1 m cap1 T.length pc l T pa w2 h2 hbT hB2 hlim).mono ?_⟩
    rintro e w3 ⟨rfl, g3, o3, cap3, k1, k2⟩
    exact ⟨rfl, g3, o3, cap3, T, k1, (hP.trans hP2).trans k2, fun _ => ⟨rfl, rfl⟩, fun h => by cases h⟩
  | false =>
    obtain ⟨hbT, p, es, n, rfl, hp, hpc⟩ := hbad rfl
    obtain ⟨h8, pa, pc, hv', q1, q2, q3⟩ := id hbT
    subst hv'
    refine ⟨pa, _, pc, _, rfl, (write_any b B g1 o1 m cap1 0 pc l [] pa w2 h2 hbT hB2 (by omega)).mono ?_⟩
    rintro e w3 ⟨rfl, g3, o3, cap3, k1, k2⟩
    refine ⟨rfl, g3, o3, cap3, [], k1, (hP.trans hP2).trans k2, fun h => (by cases h), fun _ => ⟨rfl, p, es, n, rfl, ?_⟩⟩
    refine (k2.block p (lt_of_block hpc) (by omega) ?_).trans hpc
    intro e
    have : g1 = p := by simpa [Value.ownBlock] using e
    omega
theorem avail_form {v2 : Value} {g1 o1 m cap1 : Nat} (hv2 : v2 = .slice (some ⟨g1, o1 + m, none⟩) 0 (cap1 - m) ∨ v2 = .slice (some ⟨g1, o1, none⟩) 0 0 ∧ m = cap1) (h : m < cap1 ∨ m = 0) : v2 = .slice (some ⟨g1, o1 + m, none⟩) 0 (cap1 - m) := by
  rcases hv2 with h2 | ⟨h2, h3⟩
  · exact h2
  · obtain rfl : m = 0 := by omega
    subst h3
    exact h2
/-- The source's block stays while the buffer grows. -/
theorem src_stp {b B g o m cap g1 o1 cap1 sb : Nat} {s : ByteArray} {l : List Int} {w w1 : World} (hP : Stp b (.slice (some ⟨g, o, none⟩) m cap) w (.slice (some ⟨g1, o1, none⟩) m cap1) w1) (hS : Lib.Bytes w sb 0 s) (hsb : sb ≠ b) (hsg : sb ≠ g) (hbl : sb < w.heap.size) :
    Lib.Bytes w1 sb 0 s ∧ (∀ k c, (Value.slice (some ⟨g1, k, none⟩) 0 c).ownBlock ≠ some sb) ∧ sb < w1.heap.size := by
  have hne : (Value.slice (some ⟨g, o, none⟩) m cap).ownBlock ≠ some sb := by intro e; apply hsg; simpa [Value.ownBlock] using e.symm
  refine ⟨fun i hi => ?_, fun k c => ?_, Nat.lt_of_lt_of_le hbl hP.size⟩
  · have h1 := hP.block sb hbl hsb hne
    have h2 := hS i hi
    simpa only [World.cell?, h1] using h2
  · have := hP.own sb hbl hne
    simpa [Value.ownBlock] using this
set_option maxRecDepth 100000 in
set_option maxHeartbeats 4000000 in
theorem compact_any (b B g o m cap : Nat) (l : List Int) (s : ByteArray) (sb scap : Nat) (w : World) (h : BufS w b B (.slice (some ⟨g, o, none⟩) m cap) l) (hB : B ≤ w.heap.size) (hs0 : 0 < s.size ∨ m = 0) (hs : s.size ≤ 100000000000) (hm : m ≤ 1000000000000) (hcap : s.size ≤ scap) (hcm : scap ≤ maxLen)
    (hS : Lib.Bytes w sb 0 s) (hsb : sb ≠ b) (hsg : sb ≠ g) (hbl : sb < w.heap.size) (hd : DepQ 9000 sc0 (bl s)) (hlen : (cmpQ sc0 (bl s)).length ≤ s.size) :
    Calls Tryz.prog 27 #[.pointer (some ⟨b, 0, none⟩), .slice (some ⟨sb, 0, none⟩) s.size scap] w fun e w' => ∃ u, e = .returned u ∧ CompO b B m l (cmpQ sc0 (bl s)) (validQ sc0 (bl s)) (.slice (some ⟨g, o, none⟩) m cap) w u w' := by
  have hgr := growPub_any b B g o m cap s.size l w h hB (by omega)
  have hcF := fun v w1 h1 h2 h3 h4 h5 h6 => compF B v [] s sb scap w1 h1 h2 hs (by simp) hcap hcm h3 h4 h5 h6
  generalize hT : cmpQ sc0 (bl s) = T at *
  generalize hV : validQ sc0 (bl s) = V at *
  have hcomp : ∀ (w1 : World) (g1 o1 cap1 : Nat), BufS w1 b B (.slice (some ⟨g1, o1, none⟩) m cap1) l → Stp b (.slice (some ⟨g, o, none⟩) m cap) w (.slice (some ⟨g1, o1, none⟩) m cap1) w1 → Bs w1 B (.slice (some ⟨g1, o1 + m, none⟩) 0 (cap1 - m)) [] →
      Calls Tryz.prog 51 #[.slice (some ⟨g1, o1 + m, none⟩) 0 (cap1 - m), .slice (some ⟨sb, 0, none⟩) s.size scap, .bool false] w1 fun e w2 => ∃ pa n pc u, e = .returned (.tuple #[.slice pa n pc, u]) ∧
        Calls Tryz.prog 35 #[.pointer (some ⟨b, 0, none⟩), .slice pa n pc] w2 fun e w' => e = .returned (.tuple #[.int .i64 n, .nilIface]) ∧ CompO b B m l T V (.slice (some ⟨g, o, none⟩) m cap) w u w' := by
    intro w1 g1 o1 cap1 hb1 hP hbs
    obtain ⟨hS1, hown, hsl⟩ := src_stp (B := B) (l := l) hP hS hsb hsg hbl
    have hB1 := Nat.le_trans hB hP.size
    exact (hcF _ w1 hbs hB1 hS1 (hown _ _) hsl hd).mono fun e w2 hR => comp_write hb1 hP hB1 (by omega) hR
  clear hS hd hlen h hT hV hcF
  go_enter Tryz.func27, Tryz.ntmps27
  go_wp2_with (first
    | (go_at_call 34; refine hgr.mono ?_; rintro e w1 ⟨rfl, g1, o1, cap1, hc1, hb1, hP⟩)
    | (go_at_call 37; refine (avail_any b B g1 o1 m cap1 l w1 hb1).mono ?_; rintro e w2 ⟨v2, rfl, hbs, hv2, nq, rfl⟩; obtain rfl := avail_form hv2 (by omega); have hcc := hcomp (w1.drewN nq) g1 o1 cap1 ⟨hb1.hB, hb1.cell, hb1.bs.drewN nq⟩ (hP.trans (Stp.drew b _ w1 nq)) (hbs.drewN nq))
    | (go_at_call 51; refine hcc.mono ?_; rintro e w3 ⟨pa, n, pc, u, rfl, hwr⟩)
    | (go_at_call 35; refine hwr.mono ?_; rintro e w4 ⟨rfl, k1⟩))
  all_goals go_ret
  exact ⟨_, rfl, k1⟩
end
section
/- (Of) impl.offset of a SyntaxError. -/
open Go.RowKit Go.Shelf

theorem offset_nil (w : World) : Calls Tryz.prog 28 #[.nilIface] w fun e w' => e = .returned (.int .i64 (-1)) ∧ w' = w := by
  go_enter Tryz.func28, Tryz.ntmps28
  go_wp2_with (go_at_call 52; go_in)
  all_goals go_ret
  exact ⟨rfl, rfl⟩
theorem assertSE (v : Value) (w : World) : (Instr.typeAssert (.iface 103 v) 63 103 true).run Tryz.prog w = .ok (.tuple #[v, .bool true]) w := by kernel_rfl
set_option maxRecDepth 100000 in
set_option maxHeartbeats 2000000 in
theorem asType_hit (p : Nat) (pp : Value) (w : World) : Calls Tryz.prog 75 #[.iface 103 (.pointer (some ⟨p, 0, none⟩)), pp] w fun e w' => e = .returned (.tuple #[.pointer (some ⟨p, 0, none⟩), .bool true]) ∧ w' = w := by
  go_enter Tryz.func75, Tryz.ntmps75
  have hA := assertSE
  go_wp2
  refine wp_loop_rounds 1 ?_
  rw [rounds_succ]
  go_wp2
  all_goals go_ret2
  exact ⟨rfl, rfl⟩
set_option maxRecDepth 100000 in
set_option maxHeartbeats 2000000 in
theorem asT_hit (p : Nat) (w : World) : Calls Tryz.prog 52 #[.iface 103 (.pointer (some ⟨p, 0, none⟩))] w fun e w' => e = .returned (.tuple #[.pointer (some ⟨p, 0, none⟩), .bool true]) ∧ Below w.heap.size w w' := by
  go_enter Tryz.func52, Tryz.ntmps52
  go_wp2_with (go_at_call 75; refine (asType_hit _ _ _).mono ?_; rintro e w1 ⟨rfl, rfl⟩)
  all_goals go_ret2
  refine ⟨rfl, ?_⟩
  exact ⟨rfl, rfl, rfl, by simp, fun k hk => Below.heap_alloc _ _ _ hk⟩
set_option maxRecDepth 100000 in
set_option maxHeartbeats 2000000 in
theorem offset_err (p : Nat) (es : ByteArray) (n : Int) (w : World) (h : w.heap[p]? = some (.cells #[.string es, .int .i64 n] 107 (0, 0))) : Calls Tryz.prog 28 #[.iface 103 (.pointer (some ⟨p, 0, none⟩))] w fun e w' => e = .returned (.int .i64 n) ∧ Below w.heap.size w w' := by
  have hp := lt_of_block h
  go_enter Tryz.func28, Tryz.ntmps28
  go_wp2_with (go_at_call 52; refine (asT_hit p w).mono ?_; rintro e w1 ⟨rfl, hb⟩; have hc : w1.cell? ⟨p, 1, none⟩ = some (.int .i64 n) := (by have := (hb.block p hp).trans h; simp [World.cell?, this]))
  all_goals go_ret
  exact ⟨rfl, hb⟩
end
end Go.Proofs.YtjbffgjclnjkoaaGreatDoor
