/- slices.Grow of a slice of bytes that the call itself has made. -/
import Derived.Test.YtokhmhbjbclcoaaDoorBx
import Derived.Lib.AppendZerosOnto
namespace Go.Proofs.YtokhmhbjbclcoaaDoor
set_option linter.unusedVariables false
set_option linter.unusedSimpArgs false
open Go.RowKit

set_option maxRecDepth 100000 in
theorem grow_any (B : Nat) (v : Value) (l : List Int) (n : Nat) (w : World) (hv : Bs w B v l) (hB : B ≤ w.heap.size) (hl : l.length + n ≤ 100000000000000) :
    Calls Tryd.prog 58 #[v, .int .i64 n] w (Gives B v w l) := by
  obtain ⟨i0, hi, hz0, hz1, hz2⟩ := info_parts Tryd.infoU8
  obtain ⟨h8, ao, c, rfl, h1, h2, h3⟩ := id hv
  unfold maxLen at h2
  have hn : ¬ ((n : Int) < 0) := by omega
  have hw2 : wrap64 ((c : Int) - (l.length : Int)) = (c : Int) - (l.length : Int) := by unfold wrap64; omega
  have hw3 : wrap64 ((n : Int) - ((c : Int) - (l.length : Int))) = (n : Int) - ((c : Int) - (l.length : Int)) := by unfold wrap64; omega
  by_cases hroom : l.length + n ≤ c
  · have h4 : ¬ ((n : Int) - ((c : Int) - (l.length : Int)) > 0) := by omega
    generalize hL : l.length = L at *
    have HL := Lib.hid hL
    clear hL h3
    go_enter Tryd.func58, Tryd.ntmps58
    go_wp2
    go_ret
    refine ⟨_, rfl, hv, Ap.refl _ _⟩
  · have h4 : (n : Int) - ((c : Int) - (l.length : Int)) > 0 := by omega
    have hex : ∃ cs : List Value, cs.length = c * i0.size ∧ (Builtin.firstCells i0.size c (.slice ao c c)).run Tryd.prog w.drew = .ok cs.toArray w.drew ∧ cs.take l.length = bv l := by
      rcases h3 with ⟨rfl, rfl⟩ | ⟨g, cur, fr, rfl, hBg, hg, hcs, hfr, htk⟩
      · have hl0 : l = [] := List.eq_nil_of_length_eq_zero (by omega)
        subst hl0
        exact ⟨[], by simp, run_firstCells_none w.drew i0.size 0 0 0, rfl⟩
      · refine ⟨cur.toList, by rw [hz1]; simpa using hcs, run_firstCells_some w.drew i0.size c ⟨g, 0, none⟩ c c cur.toList (by rw [hz1]; simpa using hcs) (fun j u hj => ?_), htk⟩
        have hg' : w.drew.heap[g]? = some (.cells cur 5 fr) := hg
        rw [Addr.add_lit, Nat.zero_add]
        simp only [World.cell?, hg']
        simpa using hj
    obtain ⟨cs, hcl, hold, htk⟩ := hex
    have hck : c + (l.length + n - c) = l.length + n := by omega
    have hrz : ∀ ty, (Builtin.append_ #[46, 3] ty #[.slice ao c c, .int .i64 ((n : Int) - ((c : Int) - (l.length : Int)))]).run Tryd.prog w =
        .ok (.slice (some ⟨w.heap.size, 0, none⟩) (l.length + n) (grownCap w (l.length + n) c 5)) (w.drew.alloc (.cells (cs.toArray ++ Builtin.zeroCells (Value.int .u8 0).cells (l.length + n - c) ++ Builtin.zeroCells (Value.int .u8 0).cells (grownCap w (l.length + n) c 5 - (l.length + n))) 5)) := fun ty => by
      have h := Lib.run_append_grow_zeros w 46 3 ty 5 i0 (.int .u8 0) .i64 .i64 Tryd.underlying46 Tryd.underlying3 hi hz0 ao c c cs hold (l.length + n - c) (by omega) (by omega) (by omega) (by omega)
        (by rw [hz2]; omega) (by rw [hck]; exact growslice_fits (by omega) (by rw [hz2]; omega))
      rw [hck] at h
      rw [show (n : Int) - ((c : Int) - (l.length : Int)) = ((l.length + n - c : Nat) : Int) by omega]
      exact h
    have hGn : l.length + n ≤ grownCap w (l.length + n) c 5 := grownCap_ge w _ _ _
    have hG63 : grownCap w (l.length + n) c 5 ≤ maxLen := grownCap_le_maxLen w (l.length + n) c 5 (by unfold maxLen; omega)
    have hres : Bs (w.drew.alloc (.cells (cs.toArray ++ Builtin.zeroCells (Value.int .u8 0).cells (l.length + n - c) ++ Builtin.zeroCells (Value.int .u8 0).cells (grownCap w (l.length + n) c 5 - (l.length + n))) 5)) B (.slice (some ⟨w.heap.size, 0, none⟩) l.length (grownCap w (l.length + n) c 5)) l := by
      refine ⟨h8, _, _, rfl, by omega, hG63, .inr ⟨w.heap.size, _, (0, 0), rfl, hB, heap_alloc_new w.drew _, ?_, .inl rfl, ?_⟩⟩
      · simp only [Array.size_append, List.size_toArray, size_zeroCells]
        rw [hcl, hz1]
        simp [Value.cells]
        omega
      · rw [Array.toList_append, Array.toList_append, List.toList_toArray, List.append_assoc, List.take_append_of_le_length (by rw [hcl, hz1]; omega), htk]
    have hap : Ap (.slice ao l.length c) w (.slice (some ⟨w.heap.size, 0, none⟩) l.length (grownCap w (l.length + n) c 5)) (w.drew.alloc (.cells (cs.toArray ++ Builtin.zeroCells (Value.int .u8 0).cells (l.length + n - c) ++ Builtin.zeroCells (Value.int .u8 0).cells (grownCap w (l.length + n) c 5 - (l.length + n))) 5)) :=
      ⟨⟨rfl, rfl, rfl, by simp, fun k hk _ => heap_alloc_old w.drew _ hk⟩, .inr ⟨_, rfl, Nat.le_refl _⟩⟩
    unfold maxLen at hG63
    clear hold hck hcl htk
    generalize grownCap w (l.length + n) c 5 = G at *
    generalize l.length = L at *
    generalize w.drew.alloc (.cells (cs.toArray ++ Builtin.zeroCells (Value.int .u8 0).cells (L + n - c) ++ Builtin.zeroCells (Value.int .u8 0).cells (G - (L + n))) 5) = W2 at *
    clear hv h3
    go_enter Tryd.func58, Tryd.ntmps58
    cases ao with
    | none =>
      go_wp2_with (at_builtin; refine Lib.wpList_append_run _ rfl _ _ _ _ rfl _ _ rfl rfl _ _ (hrz _) ?_)
      all_goals (go_ret; exact ⟨_, rfl, hres, hap⟩)
    | some a =>
      obtain ⟨ab, ao, asp⟩ := a
      go_wp2_with (at_builtin; refine Lib.wpList_append_run _ rfl _ _ _ _ rfl _ _ rfl rfl _ _ (hrz _) ?_)
      all_goals (go_ret; exact ⟨_, rfl, hres, hap⟩)
theorem grow_x (B : Nat) (v : Value) (l : List Int) (n : Nat) (x : Int) (hx : x = n) (w : World) (hv : Bs w B v l) (hB : B ≤ w.heap.size) (hl : l.length + n ≤ 100000000000000) :
    Calls Tryd.prog 58 #[v, .int .i64 x] w (Gives B v w l) := by subst hx; exact grow_any B v l n w hv hB hl
end Go.Proofs.YtokhmhbjbclcoaaDoor
