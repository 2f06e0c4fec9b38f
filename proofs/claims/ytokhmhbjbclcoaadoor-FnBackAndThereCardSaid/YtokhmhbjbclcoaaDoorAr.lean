/- A character behind a row of bytes. -/
import Derived.Test.YtokhmhbjbclcoaaDoorCb
import Derived.OwnWalk
import Derived.Deep.LoopGhost
namespace Go.Proofs.YtokhmhbjbclcoaaDoor
set_option linter.unusedVariables false
set_option linter.unusedSimpArgs false
open Go.RowKit

/-- The bytes of a character. -/
def encU (r : Int) : List Int :=
  if r < 128 then [r]
  else if r < 2048 then [192 + r / 64, 128 + r % 64]
  else if 55296 ≤ r ∧ r ≤ 57343 then [239, 191, 189]
  else if r < 65536 then [224 + r / 4096, 128 + r / 64 % 64, 128 + r % 64]
  else [240 + r / 262144, 128 + r / 4096 % 64, 128 + r / 64 % 64, 128 + r % 64]
theorem encU_by {r : Int} (h0 : 0 ≤ r) (h1 : r ≤ 1114111) : By8 (encU r) := by
  intro x hx
  unfold encU at hx
  repeat' split at hx
  all_goals simp at hx; omega
theorem encU_len (r : Int) : (encU r).length ≤ 4 := by
  unfold encU; repeat' split
  all_goals simp

set_option maxRecDepth 100000 in
set_option maxHeartbeats 4000000 in
theorem ar_1 (r : Int) (B : Nat) (v : Value) (l : List Int) (w : World) (hv : Bs w B v l) (hl : l.length ≤ 100000000000) (hB : B ≤ w.heap.size) (h0 : 0 ≤ r) (h1 : r < 128) :
    Calls Tryd.prog 65 #[v, .int .i32 r] w fun e w' => ∃ v', e = .returned v' ∧ Bs w' B v' (l ++ [r]) ∧ Ap v w v' w' := by
  obtain ⟨i0, hi, hz0, hz1, hz2⟩ := info_parts Tryd.infoU8
  have g1 : IntKind.u32.wrap r = r := by rw [IntKind.wrap_u32]; omega
  go_enter Tryd.func65, Tryd.ntmps65
  go_wp2_with (first | (at_builtin; refine wpList_append_bs _ rfl (.tmp 8) (.tmp 11) 46 46 (by rfl) B i0 Tryd.underlying46 hi hz0 hz1 hz2 _ _ rfl (Bs.alloc hv _) _ [r] rfl (by intro x hx; simp at hx; omega) (src_lit Tryd.underlying46 _ [r] 1 rfl _ _ hz1 _ rfl) (by first | omega | (simp; omega) | (simp only [List.length_append, sub_len, bl_len, List.length_cons, List.length_nil]; omega)) (by first | assumption | omega | (simp; omega)) ?_; intro v1 w1 hb1 ha1) | go_in)
  all_goals (first | go_ret | go_ret2)
  all_goals exact ⟨_, rfl, hb1, (Ap.alloc _ _ _).trans ha1⟩
set_option maxRecDepth 100000 in
set_option maxHeartbeats 4000000 in
theorem ar_2 (r : Int) (B : Nat) (v : Value) (l : List Int) (w : World) (hv : Bs w B v l) (hl : l.length ≤ 100000000000) (hB : B ≤ w.heap.size) (h0 : 128 ≤ r) (h1 : r < 2048) :
    Calls Tryd.prog 65 #[v, .int .i32 r] w fun e w' => ∃ v', e = .returned v' ∧ Bs w' B v' (l ++ [192 + r / 64, 128 + r % 64]) ∧ Ap v w v' w' := by
  obtain ⟨i0, hi, hz0, hz1, hz2⟩ := info_parts Tryd.infoU8
  have g1 : IntKind.u32.wrap r = r := by rw [IntKind.wrap_u32]; omega
  go_enter Tryd.func65, Tryd.ntmps65
  go_wp2_with (first | (at_builtin; refine wpList_append_bs _ rfl (.tmp 14) (.tmp 23) 46 46 (by rfl) B i0 Tryd.underlying46 hi hz0 hz1 hz2 _ _ rfl (Bs.alloc hv _) _ [192 + r / 64, 128 + r % 64] rfl (by intro x hx; simp at hx; omega) (src_lit Tryd.underlying46 _ [192 + r / 64, 128 + r % 64] 2 rfl _ _ hz1 _ rfl) (by first | omega | (simp; omega) | (simp only [List.length_append, sub_len, bl_len, List.length_cons, List.length_nil]; omega)) (by first | assumption | omega | (simp; omega)) ?_; intro v1 w1 hb1 ha1) | go_in)
  all_goals (first | go_ret | go_ret2)
  all_goals exact ⟨_, rfl, hb1, (Ap.alloc _ _ _).trans ha1⟩
set_option maxRecDepth 100000 in
set_option maxHeartbeats 4000000 in
theorem ar_3 (r : Int) (B : Nat) (v : Value) (l : List Int) (w : World) (hv : Bs w B v l) (hl : l.length ≤ 100000000000) (hB : B ≤ w.heap.size) (h0 : 2048 ≤ r) (h1 : r < 65536) (h2 : r < 55296 ∨ 57343 < r) :
    Calls Tryd.prog 65 #[v, .int .i32 r] w fun e w' => ∃ v', e = .returned v' ∧ Bs w' B v' (l ++ [224 + r / 4096, 128 + r / 64 % 64, 128 + r % 64]) ∧ Ap v w v' w' := by
  obtain ⟨i0, hi, hz0, hz1, hz2⟩ := info_parts Tryd.infoU8
  have g1 : IntKind.u32.wrap r = r := by rw [IntKind.wrap_u32]; omega
  go_enter Tryd.func65, Tryd.ntmps65
  go_wp2_with (first | (at_builtin; refine wpList_append_bs _ rfl (.tmp 34) (.tmp 48) 46 46 (by rfl) B i0 Tryd.underlying46 hi hz0 hz1 hz2 _ _ rfl (Bs.alloc hv _) _ [224 + r / 4096, 128 + r / 64 % 64, 128 + r % 64] rfl (by intro x hx; simp at hx; omega) (src_lit Tryd.underlying46 _ [224 + r / 4096, 128 + r / 64 % 64, 128 + r % 64] 3 rfl _ _ hz1 _ rfl) (by first | omega | (simp; omega) | (simp only [List.length_append, sub_len, bl_len, List.length_cons, List.length_nil]; omega)) (by first | assumption | omega | (simp; omega)) ?_; intro v1 w1 hb1 ha1) | go_in)
  all_goals (first | go_ret | go_ret2)
  all_goals exact ⟨_, rfl, hb1, (Ap.alloc _ _ _).trans ha1⟩
set_option maxRecDepth 100000 in
set_option maxHeartbeats 4000000 in
theorem ar_4 (r : Int) (B : Nat) (v : Value) (l : List Int) (w : World) (hv : Bs w B v l) (hl : l.length ≤ 100000000000) (hB : B ≤ w.heap.size) (h0 : 65536 ≤ r) (h1 : r ≤ 1114111) :
    Calls Tryd.prog 65 #[v, .int .i32 r] w fun e w' => ∃ v', e = .returned v' ∧ Bs w' B v' (l ++ [240 + r / 262144, 128 + r / 4096 % 64, 128 + r / 64 % 64, 128 + r % 64]) ∧ Ap v w v' w' := by
  obtain ⟨i0, hi, hz0, hz1, hz2⟩ := info_parts Tryd.infoU8
  have g1 : IntKind.u32.wrap r = r := by rw [IntKind.wrap_u32]; omega
  go_enter Tryd.func65, Tryd.ntmps65
  go_wp2_with (first | (at_builtin; refine wpList_append_bs _ rfl (.tmp 57) (.tmp 76) 46 46 (by rfl) B i0 Tryd.underlying46 hi hz0 hz1 hz2 _ _ rfl (Bs.alloc hv _) _ [240 + r / 262144, 128 + r / 4096 % 64, 128 + r / 64 % 64, 128 + r % 64] rfl (by intro x hx; simp at hx; omega) (src_lit Tryd.underlying46 _ [240 + r / 262144, 128 + r / 4096 % 64, 128 + r / 64 % 64, 128 + r % 64] 4 rfl _ _ hz1 _ rfl) (by first | omega | (simp; omega) | (simp only [List.length_append, sub_len, bl_len, List.length_cons, List.length_nil]; omega)) (by first | assumption | omega | (simp; omega)) ?_; intro v1 w1 hb1 ha1) | go_in)
  all_goals (first | go_ret | go_ret2)
  all_goals exact ⟨_, rfl, hb1, (Ap.alloc _ _ _).trans ha1⟩
set_option maxRecDepth 100000 in
set_option maxHeartbeats 4000000 in
theorem ar_s (r : Int) (B : Nat) (v : Value) (l : List Int) (w : World) (hv : Bs w B v l) (hl : l.length ≤ 100000000000) (hB : B ≤ w.heap.size) (h0 : 55296 ≤ r) (h1 : r ≤ 57343) :
    Calls Tryd.prog 65 #[v, .int .i32 r] w fun e w' => ∃ v', e = .returned v' ∧ Bs w' B v' (l ++ [239, 191, 189]) ∧ Ap v w v' w' := by
  obtain ⟨i0, hi, hz0, hz1, hz2⟩ := info_parts Tryd.infoU8
  have g1 : IntKind.u32.wrap r = r := by rw [IntKind.wrap_u32]; omega
  go_enter Tryd.func65, Tryd.ntmps65
  go_wp2_with (first | (at_builtin; refine wpList_append_bs _ rfl (.tmp 8) (.tmp 9) 46 46 (by rfl) B i0 Tryd.underlying46 hi hz0 hz1 hz2 _ _ rfl (Bs.alloc hv _) _ [239, 191, 189] rfl (by intro x hx; simp at hx; omega) (src_lit Tryd.underlying46 _ [239, 191, 189] 3 rfl _ _ hz1 _ rfl) (by first | omega | (simp; omega) | (simp only [List.length_append, sub_len, bl_len, List.length_cons, List.length_nil]; omega)) (by first | assumption | omega | (simp; omega)) ?_; intro v1 w1 hb1 ha1) | go_in)
  all_goals (first | go_ret | go_ret2)
  all_goals exact ⟨_, rfl, hb1, (Ap.alloc _ _ _).trans ha1⟩
/-- A character goes behind a row of bytes. -/
theorem ar_any (r : Int) (h0 : 0 ≤ r) (h1 : r ≤ 1114111) (B : Nat) (v : Value) (l : List Int) (w : World) (hv : Bs w B v l) (hl : l.length ≤ 100000000000) (hB : B ≤ w.heap.size) :
    Calls Tryd.prog 65 #[v, .int .i32 r] w fun e w' => ∃ v', e = .returned v' ∧ Bs w' B v' (l ++ encU r) ∧ Ap v w v' w' := by
  unfold encU
  by_cases k1 : r < 128
  · rw [if_pos k1]; exact ar_1 r B v l w hv hl hB h0 k1
  · rw [if_neg k1]
    by_cases k2 : r < 2048
    · rw [if_pos k2]; exact ar_2 r B v l w hv hl hB (by omega) k2
    · rw [if_neg k2]
      by_cases k3 : 55296 ≤ r ∧ r ≤ 57343
      · rw [if_pos k3]; exact ar_s r B v l w hv hl hB k3.1 k3.2
      · rw [if_neg k3]
        by_cases k4 : r < 65536
        · rw [if_pos k4]; exact ar_3 r B v l w hv hl hB (by omega) k4 (by omega)
        · rw [if_neg k4]; exact ar_4 r B v l w hv hl hB (by omega) h1
end Go.Proofs.YtokhmhbjbclcoaaDoor
