/- The scanner's beginning: reset, newScanner, freeScanner. -/
import Derived.Test.YtjbffgjclnjkoaaGreatDoorZ1
namespace Go.Proofs.YtjbffgjclnjkoaaGreatDoor
set_option linter.unusedVariables false
set_option linter.unusedSimpArgs false
open Go.RowKit Go.Shelf

theorem store_row {w : World} {b : Nat} {c0 : Value} {cs : List Value} {t : TypeId} (h : w.heap[b]? = some (.cells (c0 :: cs).toArray t (0, 0))) (f : Nat) : (Go.store ⟨b, 0, none⟩ (.func (.func f) #[] #[])).run Tryz.prog w = .ok () (w.setCell ⟨b, 0, none⟩ (.func (.func f) #[] #[])) := by
  have c0' : w.cell? ⟨b, 0, none⟩ = some c0 := by simp [World.cell?, h]
  have f0 : w.frozen? ⟨b, 0, none⟩ = false := by simp [World.frozen?, h]
  rw [run_store Tryz.prog w _ _ _ rfl, c0']
  simp only [f0]
  rfl
theorem entered {P : Program} {f : FuncId} {fn : Func} {c : Code} (hf : P.funcs[f]? = some fn) (hname : (fn.name == "runtime.NumGoroutine") = false) (hb : fn.body = some c) (args : Array Value) (w : World) :
    (callFunc f args).run P w = .ok (.enter f args) w := by
  have h1 : fn.name ≠ "runtime.NumGoroutine" := by simpa using hname
  simp [callFunc, hf, h1, hb]
/-- A call of a state's function, whichever it is. -/
theorem run_state (q : Sq) (args : Array Value) (w : World) : (callFunc (fnQ q) args).run Tryz.prog w = .ok (.enter (fnQ q) args) w := by
  cases q
  · exact entered Tryz.func89 (by kernel_rfl) rfl _ _
  · exact entered Tryz.func100 (by kernel_rfl) rfl _ _
  · exact entered Tryz.func98 (by kernel_rfl) rfl _ _
  · exact entered Tryz.func114 (by kernel_rfl) rfl _ _
  · exact entered Tryz.func113 (by kernel_rfl) rfl _ _
  · exact entered Tryz.func129 (by kernel_rfl) rfl _ _
  · exact entered Tryz.func101 (by kernel_rfl) rfl _ _
  · exact entered Tryz.func115 (by kernel_rfl) rfl _ _
  · exact entered Tryz.func131 (by kernel_rfl) rfl _ _
  · exact entered Tryz.func137 (by kernel_rfl) rfl _ _
  · exact entered Tryz.func140 (by kernel_rfl) rfl _ _
  · exact entered Tryz.func141 (by kernel_rfl) rfl _ _
  · exact entered Tryz.func102 (by kernel_rfl) rfl _ _
  · exact entered Tryz.func107 (by kernel_rfl) rfl _ _
  · exact entered Tryz.func103 (by kernel_rfl) rfl _ _
  · exact entered Tryz.func116 (by kernel_rfl) rfl _ _
  · exact entered Tryz.func132 (by kernel_rfl) rfl _ _
  · exact entered Tryz.func117 (by kernel_rfl) rfl _ _
  · exact entered Tryz.func133 (by kernel_rfl) rfl _ _
  · exact entered Tryz.func138 (by kernel_rfl) rfl _ _
  · exact entered Tryz.func104 (by kernel_rfl) rfl _ _
  · exact entered Tryz.func118 (by kernel_rfl) rfl _ _
  · exact entered Tryz.func134 (by kernel_rfl) rfl _ _
  · exact entered Tryz.func105 (by kernel_rfl) rfl _ _
  · exact entered Tryz.func119 (by kernel_rfl) rfl _ _
  · exact entered Tryz.func135 (by kernel_rfl) rfl _ _
  · exact entered Tryz.func139 (by kernel_rfl) rfl _ _
  · exact entered Tryz.func106 (by kernel_rfl) rfl _ _
  · exact entered Tryz.func120 (by kernel_rfl) rfl _ _
  · exact entered Tryz.func136 (by kernel_rfl) rfl _ _
  · exact entered Tryz.func121 (by kernel_rfl) rfl _ _
set_option maxRecDepth 100000 in
set_option maxHeartbeats 1000000 in
theorem reset_any (b B : Nat) (x e : Value) (t : Bool) (n : Int) (w : World) (hB : B ≤ b) (h : w.heap[b]? = some (.cells #[x, .bool t, .slice none 0 0, e, .int .i64 n] 124 (0, 0))) :
    Calls Tryz.prog 67 #[.pointer (some ⟨b, 0, none⟩)] w fun e' w' => e' = .returned (.tuple #[]) ∧ IsS w' b B sc0 (.slice none 0 0) ∧ w'.heap[b]? = some (.cells #[fv .bv, .bool false, .slice none 0 0, .nilIface, .int .i64 n] 124 (0, 0)) ∧ Stp b (.slice none 0 0) w (.slice none 0 0) w' := by
  have hst := store_row (cs := [.bool t, .slice none 0 0, e, .int .i64 n]) h 89
  obtain ⟨w1, hw1⟩ : ∃ w1, w.setCell ⟨b, 0, none⟩ (.func (.func 89) #[] #[]) = w1 := ⟨_, rfl⟩
  have h1 : w1.heap[b]? = some (.cells #[fv .bv, .bool t, .slice none 0 0, e, .int .i64 n] 124 (0, 0)) := by rw [← hw1]; exact heap_setCell_same h _
  have s1 : Stp b (.slice none 0 0) w (.slice none 0 0) w1 := by rw [← hw1]; exact Stp.set _ _ _ _ _
  rw [hw1] at hst
  have h2 : (w1.setCell ⟨b, 2, none⟩ (.slice none 0 0)).heap[b]? = some (.cells #[fv .bv, .bool t, .slice none 0 0, e, .int .i64 n] 124 (0, 0)) := heap_setCell_same h1 _
  have s2 := s1.trans (Stp.set b (.slice none 0 0) w1 2 (.slice none 0 0))
  obtain ⟨w2, hw2⟩ : ∃ w2, w1.setCell ⟨b, 2, none⟩ (.slice none 0 0) = w2 := ⟨_, rfl⟩
  rw [hw2] at h2 s2
  have h3 : (w2.setCell ⟨b, 3, none⟩ .nilIface).heap[b]? = some (.cells #[fv .bv, .bool t, .slice none 0 0, .nilIface, .int .i64 n] 124 (0, 0)) := heap_setCell_same h2 _
  have s3 := s2.trans (Stp.set b (.slice none 0 0) w2 3 .nilIface)
  obtain ⟨w3, hw3⟩ : ∃ w3, w2.setCell ⟨b, 3, none⟩ .nilIface = w3 := ⟨_, rfl⟩
  rw [hw3] at h3 s3
  have h4 : (w3.setCell ⟨b, 1, none⟩ (.bool false)).heap[b]? = some (.cells #[fv .bv, .bool false, .slice none 0 0, .nilIface, .int .i64 n] 124 (0, 0)) := heap_setCell_same h3 _
  have s4 := s3.trans (Stp.set b (.slice none 0 0) w3 1 (.bool false))
  have hS : IsS (w3.setCell ⟨b, 1, none⟩ (.bool false)) b B sc0 (.slice none 0 0) := ⟨hB, ⟨_, n, h4, fun _ => rfl, fun h => by cases h⟩, rfl, .inl ⟨rfl, rfl⟩⟩
  have c1 : w1.cell? ⟨b, 2, none⟩ = some (.slice none 0 0) := by simp [World.cell?, h1]
  have f1 : w1.frozen? ⟨b, 2, none⟩ = false := by simp [World.frozen?, h1]
  have c2 : w2.cell? ⟨b, 3, none⟩ = some e := by simp [World.cell?, h2]
  have f2 : w2.frozen? ⟨b, 3, none⟩ = false := by simp [World.frozen?, h2]
  have c3 : w3.cell? ⟨b, 1, none⟩ = some (.bool t) := by simp [World.cell?, h3]
  have f3 : w3.frozen? ⟨b, 1, none⟩ = false := by simp [World.frozen?, h3]
  clear hw1 h h1 h2 h3 s1 s2 s3
  go_enter Tryz.func67, Tryz.ntmps67
  go_wp2_with (first | (rw [hw2]) | (rw [hw3]))
  all_goals go_end0
  exact ⟨rfl, hS, h4, s4⟩
set_option maxRecDepth 100000 in
set_option maxHeartbeats 1000000 in
theorem new_any (w : World) : Calls Tryz.prog 43 #[] w fun e w' => e = .returned (.pointer (some ⟨w.heap.size, 0, none⟩)) ∧ IsS w' w.heap.size w.heap.size sc0 (.slice none 0 0) ∧ w'.heap[w.heap.size]? = some (.cells #[fv .bv, .bool false, .slice none 0 0, .nilIface, .int .i64 0] 124 (0, 0)) ∧ Below w.heap.size w w' := by
  have hr := reset_any w.heap.size w.heap.size .nilFunc .nilIface false 0 (w.alloc (Obj.cells #[Value.nilFunc, .bool false, .slice none 0 0, .nilIface, .int .i64 0] 124)) (Nat.le_refl _) (heap_alloc_new w _)
  go_enter Tryz.func43, Tryz.ntmps43
  go_wp2_with (first | (go_at_call 67; refine hr.mono ?_; rintro e w2 ⟨rfl, hS, hc, hP⟩))
  all_goals go_ret
  refine ⟨rfl, hS, hc, hP.os, hP.tape, hP.output, ?_, fun k hk => ?_⟩
  · exact Nat.le_trans (by simp) hP.size
  · exact (hP.block k (by simp; omega) (by omega) (by simp [Value.ownBlock])).trans (Below.heap_alloc _ _ _ hk)
set_option maxRecDepth 100000 in
set_option maxHeartbeats 1000000 in
theorem free_any (b B : Nat) (σ : Sc) (v : Value) (w : World) (h : IsS w b B σ v) :
    Calls Tryz.prog 44 #[.pointer (some ⟨b, 0, none⟩)] w fun e w' => e = .returned (.tuple #[]) ∧ Below B w w' := by
  obtain ⟨e, n, _, _, _, c2, _, _, f0⟩ := h.cells
  have f2 := f0 2
  have hv : ∃ a cap, v = .slice a σ.stk.length cap := by
    rcases h.row.2 with ⟨e, h0⟩ | ⟨g, cap, cur, e, _⟩
    · exact ⟨none, 0, by rw [e, h0]⟩
    · exact ⟨_, _, e⟩
  obtain ⟨a, cap, rfl⟩ := hv
  have hset : Below B w (w.setCell ⟨b, 2, none⟩ (.slice none 0 0)) := ⟨rfl, rfl, rfl, by simp [World.setCell], fun k hk => Below.heap_setCell _ _ _ _ (by have := h.hB; simp; omega)⟩
  obtain ⟨m, hm⟩ : ∃ m, σ.stk.length = m := ⟨_, rfl⟩
  rw [hm] at c2
  clear h hm f0
  by_cases hd : (1024 : Int) < (m : Int)
  · go_enter Tryz.func44, Tryz.ntmps44
    go_wp2_with fail
    all_goals go_end0
    exact ⟨rfl, hset⟩
  · have hd' : decide ((1024 : Int) < (m : Int)) = false := by simp; omega
    clear hd
    go_enter Tryz.func44, Tryz.ntmps44
    go_wp2_with fail
    all_goals go_end0
    exact ⟨rfl, Below.refl _ _⟩
set_option maxRecDepth 100000 in
set_option maxHeartbeats 1000000 in
theorem eof_any (b B : Nat) (σ : Sc) (v : Value) (w : World) (h : IsS w b B σ v) (hw : B ≤ w.heap.size) (hl : σ.stk.length < 10000) (hne : σ.q = .bsE → σ.stk ≠ []) :
    Calls Tryz.prog 68 #[.pointer (some ⟨b, 0, none⟩)] w fun e w' => ∃ v', e = .returned (.int .i64 (eofQ σ).1) ∧ IsS w' b B (eofQ σ).2 v' ∧ Stp b v w v' w' := by
  obtain ⟨e, n, he, c0, c1, c2, c3, c4, f0⟩ := h.cells
  cases hb : σ.bad with
  | true =>
    obtain ⟨p, s, n', rfl, _, _⟩ := he.2 hb
    have e1 : eofQ σ = (11, σ) := by unfold eofQ; rw [hb]; rfl
    rw [e1]
    go_enter Tryz.func68, Tryz.ntmps68
    go_wp2_with fail
    all_goals go_ret
    first | exact ⟨v, rfl, h, Stp.refl _ _ _⟩ | exact ⟨v, h, Stp.refl _ _ _⟩
  | false =>
    obtain rfl := he.1 hb
    cases ht : σ.top with
    | true =>
      have e1 : eofQ σ = (10, σ) := by unfold eofQ; rw [hb, ht]; rfl
      rw [e1]
      rw [ht] at c1
      go_enter Tryz.func68, Tryz.ntmps68
      go_wp2_with fail
      all_goals go_ret
      first | exact ⟨v, rfl, h, Stp.refl _ _ _⟩ | exact ⟨v, h, Stp.refl _ _ _⟩
    | false =>
      rw [ht] at c1
      have hstep := step_any b B σ v 32 w h hw hl hne
      unfold fv at c0
      have hgo := run_state σ.q #[.pointer (some ⟨b, 0, none⟩), .int .u8 32] w
      have e0 : eofQ σ = if (stepQ σ 32).2.top then (10, (stepQ σ 32).2) else (11, { (stepQ σ 32).2 with bad := true }) := by unfold eofQ; rw [hb, ht]; rfl
      rw [e0]
      clear e0
      obtain ⟨x, hx⟩ : ∃ x, (stepQ σ 32).1 = x := ⟨_, rfl⟩
      obtain ⟨σ2, hσ⟩ : ∃ σ2, (stepQ σ 32).2 = σ2 := ⟨_, rfl⟩
      rw [hx, hσ] at hstep
      rw [hσ]
      clear hx hσ c2 c4
      cases ht2 : σ2.top with
      | true =>
        rw [if_pos rfl]
        go_enter Tryz.func68, Tryz.ntmps68
        go_wp2_with (first | (refine hstep.mono ?_; rintro e w2 ⟨v2, rfl, hS, hP⟩; obtain ⟨e2, n2, he2, _, d1, _, d3, d4, f2⟩ := hS.cells; rw [ht2] at d1))
        all_goals go_ret
        first | exact ⟨_, rfl, hS, hP⟩ | exact ⟨_, hS, hP⟩
      | false =>
        rw [if_neg (by decide)]
        cases hb2 : σ2.bad with
        | true =>
          have e3 : ({ σ2 with bad := true } : Sc) = σ2 := by obtain ⟨q, t, s, d⟩ := σ2; cases hb2; rfl
          rw [e3]
          go_enter Tryz.func68, Tryz.ntmps68
          go_wp2_with (first | (refine hstep.mono ?_; rintro e w2 ⟨v2, rfl, hS, hP⟩; obtain ⟨e2, n2, he2, _, d1, _, d3, d4, f2⟩ := hS.cells; rw [ht2] at d1; obtain ⟨p2, s2, m2, rfl, _, _⟩ := he2.2 hb2))
          all_goals go_ret
          first | exact ⟨_, rfl, hS, hP⟩ | exact ⟨_, hS, hP⟩
        | false =>
          have hend : ∀ (w2 : World) (v2 : Value) (s : ByteArray) (n2 : Int), IsS w2 b B σ2 v2 → Stp b v w v2 w2 →
              IsS ((w2.alloc (.cells #[.string s, .int .i64 n2] 107)).setCell ⟨b, 3, none⟩ (.iface 103 (.pointer (some ⟨w2.heap.size, 0, none⟩)))) b B { σ2 with bad := true } v2 ∧
              Stp b v w v2 ((w2.alloc (.cells #[.string s, .int .i64 n2] 107)).setCell ⟨b, 3, none⟩ (.iface 103 (.pointer (some ⟨w2.heap.size, 0, none⟩)))) := fun w2 v2 s n2 hS hP =>
            ⟨(hS.below ((Below.refl _ _).alloc (Nat.le_refl _) _)).setErr true ⟨fun h => (by cases h), fun _ => ⟨_, s, n2, rfl, Nat.le_trans hw hP.size, heap_alloc_new w2 _⟩⟩, (hP.trans (Stp.alloc b v2 w2 _)).trans (Stp.set b v2 _ _ _)⟩
          go_enter Tryz.func68, Tryz.ntmps68
          go_wp2_with (first | (refine hstep.mono ?_; rintro e w2 ⟨v2, rfl, hS, hP⟩; obtain ⟨e2, n2, he2, _, d1, _, d3, d4, f2⟩ := hS.cells; rw [ht2] at d1; obtain rfl := he2.1 hb2; have hba : ∀ o : Obj, (w2.alloc o).heap[b]? = w2.heap[b]? := (fun o => Below.heap_alloc w2 o b hS.lt); have c13a : ∀ o : Obj, (w2.alloc o).cell? ⟨b, 3, none⟩ = some .nilIface := (fun o => (World.cell?_of_block (hba o)).trans d3); have f13a : ∀ o : Obj, (w2.alloc o).frozen? ⟨b, 3, none⟩ = false := (fun o => by unfold World.frozen?; rw [hba o]; exact f2 3); clear hba))
          all_goals go_ret
          first | exact ⟨_, rfl, (hend _ _ _ _ hS hP).1, (hend _ _ _ _ hS hP).2⟩ | exact ⟨_, (hend _ _ _ _ hS hP).1, (hend _ _ _ _ hS hP).2⟩
end Go.Proofs.YtjbffgjclnjkoaaGreatDoor
