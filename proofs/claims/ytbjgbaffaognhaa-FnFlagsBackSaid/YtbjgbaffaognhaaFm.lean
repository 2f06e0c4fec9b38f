/- Flags: setting, joining, asking; the walk of the law FnFlagsBack. -/
import Derived.Test.YtbjgbaffaognhaaFl
import Derived.RegionTactic
import Derived.ChangeAlike
namespace Go.Proofs.Ytbjgbaffaognhaa
open Go.RowKit
set_option linter.unusedVariables false

theorem set_one (g t b : BitVec 64) (h : b &&& 1#64 = 1#64) (w : World) :
    Calls Try.prog 28 #[.agg #[.int .u64 (N g), .int .u64 (N t)], .int .u64 (N b)] w fun e w' =>
      e = .returned (.agg #[.int .u64 (N (g ||| clr b)), .int .u64 (N ((t &&& ~~~(clr b)) ||| clr b))]) ∧ Nw w w' := by
  have e1 := N_andNot1 b
  have e2 := N_or g (clr b)
  have e3 := N_not (clr b)
  have e4 := N_and t (~~~(clr b))
  have e5 : bits .and .u64 (N b) 1 = 1 := by rw [N_and1, h]; rfl
  have e6 : IntKind.u64.wrap (N (clr b)) = N (clr b) := wrap_N _
  have e7 := N_or (t &&& ~~~(clr b)) (clr b)
  clear h
  go_enter Try.func28, Try.ntmps28
  go_wp2
  all_goals go_returns
  all_goals refine ⟨by simp [*], ?_⟩
  all_goals repeat (first | exact Nw.refl _ | refine Nw.alloc ?_ _ | refine Nw.drew ?_)

theorem set_zero (g t b : BitVec 64) (h : b &&& 1#64 = 0#64) (w : World) :
    Calls Try.prog 28 #[.agg #[.int .u64 (N g), .int .u64 (N t)], .int .u64 (N b)] w fun e w' =>
      e = .returned (.agg #[.int .u64 (N (g ||| clr b)), .int .u64 (N (t &&& ~~~(clr b)))]) ∧ Nw w w' := by
  have e1 := N_andNot1 b
  have e2 := N_or g (clr b)
  have e3 := N_not (clr b)
  have e4 := N_and t (~~~(clr b))
  have e5 : bits .and .u64 (N b) 1 = 0 := by rw [N_and1, h]; rfl
  have e7 : bits .or .u64 (N (t &&& ~~~(clr b))) 0 = N (t &&& ~~~(clr b)) := by
    have := N_or (t &&& ~~~(clr b)) 0#64
    rw [BitVec.or_zero] at this; exact this
  clear h
  go_enter Try.func28, Try.ntmps28
  go_wp2
  all_goals go_returns
  all_goals refine ⟨by simp [*], ?_⟩
  all_goals repeat (first | exact Nw.refl _ | refine Nw.alloc ?_ _ | refine Nw.drew ?_)

/-- A block of two numbers of 64 bits. -/
def Two (w : World) (b : Nat) (x y : Int) : Prop := ∃ T, w.heap[b]? = some (.cells #[.int .u64 x, .int .u64 y] T (0, 0))
theorem Two.cells {w : World} {b : Nat} {x y : Int} (h : Two w b x y) : w.cell? ⟨b, 0, none⟩ = some (.int .u64 x) ∧ w.cell? ⟨b, 1, none⟩ = some (.int .u64 y) ∧ w.frozen? ⟨b, 0, none⟩ = false ∧ w.frozen? ⟨b, 1, none⟩ = false ∧ b < w.heap.size := by
  obtain ⟨T, h⟩ := h
  have hl := lt_of_block h
  refine ⟨?_, ?_, ?_, ?_, hl⟩
  all_goals simp [World.cell?, World.frozen?, h]
theorem Two.set0 {w : World} {b : Nat} {x y : Int} (h : Two w b x y) (v : Int) : Two (w.setCell ⟨b, 0, none⟩ (.int .u64 v)) b v y := by
  obtain ⟨T, h⟩ := h; exact ⟨T, by rw [heap_setCell h]; rfl⟩
theorem Two.set1 {w : World} {b : Nat} {x y : Int} (h : Two w b x y) (v : Int) : Two (w.setCell ⟨b, 1, none⟩ (.int .u64 v)) b x v := by
  obtain ⟨T, h⟩ := h; exact ⟨T, by rw [heap_setCell h]; rfl⟩
theorem Two.drew {w : World} {b : Nat} {x y : Int} (h : Two w b x y) : Two w.drew b x y := h
theorem Two.alloc {w : World} {b : Nat} {x y : Int} (h : Two w b x y) (o : Obj) : Two (w.alloc o) b x y := by
  have hlt := h.cells.2.2.2.2
  obtain ⟨T, h⟩ := h; exact ⟨T, by rw [Below.heap_alloc w o b hlt]; exact h⟩
theorem Two.new (w : World) (x y : Int) (T : TypeId) : Two (w.alloc (.cells #[.int .u64 x, .int .u64 y] T)) w.heap.size x y := ⟨T, heap_alloc_new w _⟩

theorem joinM (b : Nat) (g t a c : BitVec 64) (w : World) (hT : Two w b (N g) (N t)) :
    Calls Try.prog 50 #[.pointer (some ⟨b, 0, none⟩), .agg #[.int .u64 (N a), .int .u64 (N c)]] w fun e w' =>
      e = .returned (.tuple #[]) ∧ Two w' b (N (g ||| a)) (N ((t &&& ~~~a) ||| c)) ∧ Mv b w w' := by
  have e2 := N_or g a
  have e3 := N_not a
  have e4 := N_and t (~~~a)
  have e7 := N_or (t &&& ~~~a) c
  obtain ⟨c0, c1, f0, f1, hlt⟩ := hT.cells
  have hne : b ≠ w.heap.size := by omega
  have d0 : ∀ o, (w.alloc o).cell? ⟨b, 0, none⟩ = some (.int .u64 (N g)) := fun o => (hT.alloc o).cells.1
  have d1 : ∀ o, (w.alloc o).cell? ⟨b, 1, none⟩ = some (.int .u64 (N t)) := fun o => (hT.alloc o).cells.2.1
  have g0 : ∀ o, (w.alloc o).frozen? ⟨b, 0, none⟩ = false := fun o => (hT.alloc o).cells.2.2.1
  have g1 : ∀ o, (w.alloc o).frozen? ⟨b, 1, none⟩ = false := fun o => (hT.alloc o).cells.2.2.2.1
  have m1 : ∀ o v, ((w.setCell ⟨b, 0, none⟩ (.int .u64 v)).alloc o).cell? ⟨b, 1, none⟩ = some (.int .u64 (N t)) := fun o v => ((hT.set0 v).alloc o).cells.2.1
  have m2 : ∀ o v, ((w.setCell ⟨b, 0, none⟩ (.int .u64 v)).alloc o).frozen? ⟨b, 1, none⟩ = false := fun o v => ((hT.set0 v).alloc o).cells.2.2.2.1
  have m3 : ∀ o v u, (((w.setCell ⟨b, 0, none⟩ (.int .u64 v)).setCell ⟨b, 1, none⟩ (.int .u64 u)).alloc o).cell? ⟨b, 1, none⟩ = some (.int .u64 u) := fun o v u => (((hT.set0 v).set1 u).alloc o).cells.2.1
  have m4 : ∀ o v u, (((w.setCell ⟨b, 0, none⟩ (.int .u64 v)).setCell ⟨b, 1, none⟩ (.int .u64 u)).alloc o).frozen? ⟨b, 1, none⟩ = false := fun o v u => (((hT.set0 v).set1 u).alloc o).cells.2.2.2.1
  go_enter Try.func50, Try.ntmps50
  go_wp2
  go_region
  go_wp2
  go_region
  go_wp2
  go_region
  go_wp2
  all_goals go_end0
  exact ⟨rfl, (((hT.set0 _).set1 _).set1 _).alloc _, (((((((Mv.refl _ _).setCell _ _).setCell _ _).setCell _ _).alloc _).drew).drew).drew⟩

theorem Two.nw {a b : World} {k : Nat} {x y : Int} (h : Two a k x y) (hn : Nw a b) : Two b k x y := by
  have hlt := h.cells.2.2.2.2
  obtain ⟨T, h⟩ := h; exact ⟨T, by rw [Below.block hn k hlt]; exact h⟩
theorem Two.mv {a b : World} {k m : Nat} {x y : Int} (h : Two a k x y) (hn : Mv m a b) (hk : k ≠ m) : Two b k x y := by
  have hlt := h.cells.2.2.2.2
  obtain ⟨T, h⟩ := h; exact ⟨T, by rw [hn.block k hlt (by simpa using hk)]; exact h⟩

theorem kept_any (g t : Int) (w : World) :
    Calls Try.prog 41 #[.agg #[.int .u64 g, .int .u64 t]] w fun e w' => e = .returned (.agg #[.int .u64 g, .int .u64 t]) ∧ Nw w w' := by
  go_enter Try.func41, Try.ntmps41
  go_wp2
  all_goals go_returns
  all_goals refine ⟨by simp [*], ?_⟩
  all_goals repeat (first | exact Nw.refl _ | refine Nw.alloc ?_ _ | refine Nw.drew ?_)
theorem told_any (g t : Int) (w : World) :
    Calls Try.prog 43 #[.agg #[.int .u64 g, .int .u64 t]] w fun e w' => e = .returned (.agg #[.int .u64 g, .int .u64 t]) ∧ Nw w w' := by
  go_enter Try.func43, Try.ntmps43
  go_wp2
  all_goals go_returns
  all_goals refine ⟨by simp [*], ?_⟩
  all_goals repeat (first | exact Nw.refl _ | refine Nw.alloc ?_ _ | refine Nw.drew ?_)

theorem join_any (g t a b : BitVec 64) (w : World) :
    Calls Try.prog 31 #[.agg #[.int .u64 (N g), .int .u64 (N t)], .agg #[.int .u64 (N a), .int .u64 (N b)]] w fun e w' =>
      e = .returned (.agg #[.int .u64 (N (g ||| a)), .int .u64 (N ((t &&& ~~~a) ||| b))]) ∧ Nw w w' := by
  obtain ⟨W0, hW0⟩ : ∃ W0, W0 = ((w.alloc (.cells #[.int .u64 (N g), .int .u64 (N t)] 38)).alloc (.cells #[.int .u64 (N a), .int .u64 (N b)] 38)).alloc (.cells #[.int .u64 0, .int .u64 0] 38) := ⟨_, rfl⟩
  have hn0 : Nw w W0 := by rw [hW0]; exact (((Nw.refl _).alloc _).alloc _).alloc _
  have hz0 : W0.heap.size = w.heap.size + 3 := by rw [hW0]; simp
  have t1 : Two W0 w.heap.size (N g) (N t) := by rw [hW0]; exact ((Two.new _ _ _ _).alloc _).alloc _
  have t2 : Two W0 (w.heap.size + 1) (N a) (N b) := by
    have h := (Two.new (w.alloc (.cells #[.int .u64 (N g), .int .u64 (N t)] 38)) (N a) (N b) 38).alloc (.cells #[.int .u64 0, .int .u64 0] 38)
    rw [hW0]; simpa using h
  have t3 : Two W0 (w.heap.size + 2) 0 0 := by
    have h := Two.new ((w.alloc (.cells #[.int .u64 (N g), .int .u64 (N t)] 38)).alloc (.cells #[.int .u64 (N a), .int .u64 (N b)] 38)) 0 0 38
    rw [hW0]; simpa using h
  go_enter Try.func31, Try.ntmps31
  go_wp2_with fail
  rw [← hW0]
  clear hW0
  refine (kept_any (N g) (N t) _).mono ?_
  rintro e W1 ⟨rfl, hn1⟩
  have hb1 : Two (W1.alloc (.cells #[.int .u64 (N g), .int .u64 (N t)] 59)) W1.heap.size (N g) (N t) := Two.new _ _ _ _
  have t2' := (t2.nw hn1).alloc (.cells #[.int .u64 (N g), .int .u64 (N t)] 59)
  have t3' := (t3.nw hn1).alloc (.cells #[.int .u64 (N g), .int .u64 (N t)] 59)
  have hs1 := hn1.size
  have hnw1 := (hn0.trans hn1).alloc (.cells #[.int .u64 (N g), .int .u64 (N t)] 59)
  obtain ⟨q0, q1, _, _, _⟩ := t2'.cells
  go_wp2_with fail
  refine (kept_any (N a) (N b) _).mono ?_
  rintro e W2 ⟨rfl, hn2⟩
  have hb2 := hb1.nw hn2
  have t3'' := t3'.nw hn2
  have hs2 := hn2.size
  have hnw2 := hnw1.trans hn2
  go_wp2_with fail
  refine (joinM _ g t a b _ hb2).mono ?_
  rintro e W3 ⟨rfl, hb3, hm3⟩
  have t33 := t3''.mv hm3 (by simp at hs1 hs2; omega)
  have hnw3 : Nw w W3 := Below.trans hnw2 (hm3.below (by simp at hs1 hs2; omega) (by have := hnw2.size; exact this))
  have hs3 := hm3.size
  obtain ⟨j0, j1, _, _, _⟩ := hb3.cells
  go_wp2_with fail
  refine (told_any _ _ _).mono ?_
  rintro e W4 ⟨rfl, hn4⟩
  have t34 : Two W4 (w.heap.size + 1 + 1) 0 0 := t33.nw hn4
  obtain ⟨k0, k1, f0, f1, kl⟩ := t34.cells
  have m1 : ∀ v, (W4.setCell ⟨w.heap.size + 1 + 1, 0, none⟩ (.int .u64 v)).cell? ⟨w.heap.size + 1 + 1, 1, none⟩ = some (.int .u64 0) := fun v => (t34.set0 v).cells.2.1
  have m2 : ∀ v, (W4.setCell ⟨w.heap.size + 1 + 1, 0, none⟩ (.int .u64 v)).frozen? ⟨w.heap.size + 1 + 1, 1, none⟩ = false := fun v => (t34.set0 v).cells.2.2.2.1
  have m3 : ∀ v u, ((W4.setCell ⟨w.heap.size + 1 + 1, 0, none⟩ (.int .u64 v)).setCell ⟨w.heap.size + 1 + 1, 1, none⟩ (.int .u64 u)).cell? ⟨w.heap.size + 1 + 1, 0, none⟩ = some (.int .u64 v) := fun v u => ((t34.set0 v).set1 u).cells.1
  have m4 : ∀ v u, ((W4.setCell ⟨w.heap.size + 1 + 1, 0, none⟩ (.int .u64 v)).setCell ⟨w.heap.size + 1 + 1, 1, none⟩ (.int .u64 u)).cell? ⟨w.heap.size + 1 + 1, 1, none⟩ = some (.int .u64 u) := fun v u => ((t34.set0 v).set1 u).cells.2.1
  have m5 : ∀ v, (W4.setCell ⟨w.heap.size + 1 + 1, 0, none⟩ (.int .u64 v)).cell? ⟨w.heap.size + 1 + 1, 0, none⟩ = some (.int .u64 v) := fun v => (t34.set0 v).cells.1
  have hnw4 : Nw w W4 := hnw3.trans hn4
  have he : ∀ v u, Nw w ((W4.setCell ⟨w.heap.size + 1 + 1, 0, none⟩ (.int .u64 v)).setCell ⟨w.heap.size + 1 + 1, 1, none⟩ (.int .u64 u)) := fun v u => Below.setCell (Below.setCell hnw4 (by show w.heap.size ≤ w.heap.size + 1 + 1; omega) _) (by show w.heap.size ≤ w.heap.size + 1 + 1; omega) _
  go_wp2_with fail
  refine bodyPost_ret (v := .agg #[.int .u64 (N (g ||| a)), .int .u64 (N ((t &&& ~~~a) ||| b))]) (by simp [results, Try.results31, go_sem, m1, m3, m4, m5]; try rfl) rfl ?_
  exact ⟨by simp [*], by repeat (first | exact he _ _ | refine Nw.alloc ?_ _ | refine Nw.drew ?_)⟩

theorem join_l (g t : BitVec 64) (w : World) :
    Calls Try.prog 31 #[.agg #[.int .u64 (N g), .int .u64 (N t)], .agg #[.int .u64 0, .int .u64 0]] w fun e w' =>
      e = .returned (.agg #[.int .u64 (N g), .int .u64 (N t)]) ∧ Nw w w' := by
  have h := join_any g t 0#64 0#64 w
  have e1 : t &&& ~~~0#64 ||| 0#64 = t := by
    rw [BitVec.or_zero]; apply BitVec.eq_of_getLsbD_eq; intro i hi
    simp only [BitVec.getLsbD_and, BitVec.getLsbD_not, BitVec.getLsbD_zero, hi]; simp
  rw [BitVec.or_zero, e1] at h
  exact h
theorem join_r (g t : BitVec 64) (w : World) :
    Calls Try.prog 31 #[.agg #[.int .u64 0, .int .u64 0], .agg #[.int .u64 (N g), .int .u64 (N t)]] w fun e w' =>
      e = .returned (.agg #[.int .u64 (N g), .int .u64 (N t)]) ∧ Nw w w' := by
  have h := join_any 0#64 0#64 g t w
  rw [BitVec.zero_or, BitVec.zero_and, BitVec.zero_or] at h
  exact h

theorem given_any (g t b : BitVec 64) (r : Bool) (hr : decide (0 < N (g &&& b)) = r) (w : World) :
    Calls Try.prog 29 #[.agg #[.int .u64 (N g), .int .u64 (N t)], .int .u64 (N b)] w fun e w' => e = .returned (.bool r) ∧ Nw w w' := by
  have e2 := N_and g b
  obtain ⟨x, hx⟩ : ∃ x, N (g &&& b) = x := ⟨_, rfl⟩
  rw [hx] at e2 hr
  have HR := Lib.hid hr
  clear hr hx
  go_enter Try.func29, Try.ntmps29
  go_wp2
  all_goals go_returns
  all_goals refine ⟨by rw [← HR.out]; first | done | rfl, ?_⟩
  all_goals repeat (first | exact Nw.refl _ | refine Nw.alloc ?_ _ | refine Nw.drew ?_)
theorem true_any (g t b : BitVec 64) (r : Bool) (hr : decide (0 < N (t &&& b)) = r) (w : World) :
    Calls Try.prog 30 #[.agg #[.int .u64 (N g), .int .u64 (N t)], .int .u64 (N b)] w fun e w' => e = .returned (.bool r) ∧ Nw w w' := by
  have e2 := N_and t b
  obtain ⟨x, hx⟩ : ∃ x, N (t &&& b) = x := ⟨_, rfl⟩
  rw [hx] at e2 hr
  have HR := Lib.hid hr
  clear hr hx
  go_enter Try.func30, Try.ntmps30
  go_wp2
  all_goals go_returns
  all_goals refine ⟨by rw [← HR.out]; first | done | rfl, ?_⟩
  all_goals repeat (first | exact Nw.refl _ | refine Nw.alloc ?_ _ | refine Nw.drew ?_)
end Go.Proofs.Ytbjgbaffaognhaa
