/- Appending escapes: the small functions. -/
import Derived.Test.YtokhmhbjbclcoaaDoorBw
import Derived.WalkLawsBesides
import Derived.WalkSpells
import Derived.BigQuiet
import Derived.Deep.QuietTactic
import Derived.Laws.BitsLemmas
import Derived.OwnWalk
import Derived.Deep.RegionHeld3
import Derived.Outline
namespace Go.Proofs.YtokhmhbjbclcoaaDoor
set_option linter.unusedVariables false
set_option linter.unusedSimpArgs false
open Go.RowKit

/-- A digit's byte. -/
def hxD (n : Int) : Int := if n < 10 then 48 + n else 87 + n
theorem hxD_by {n : Int} (h0 : 0 ≤ n) (h1 : n < 16) : 0 ≤ hxD n ∧ hxD n < 256 := by unfold hxD; split <;> omega
theorem hexIdx (k : IntKind) (n : Int) (h0 : 0 ≤ n) (h1 : n < 16) (w : World) :
    (Instr.index 9 (.string ⟨#[48, 49, 50, 51, 52, 53, 54, 55, 56, 57, 97, 98, 99, 100, 101, 102]⟩) (.int k n)).run Tryd.prog w = .ok (.int .u8 (hxD n)) w := by
  obtain rfl | rfl | rfl | rfl | rfl | rfl | rfl | rfl | rfl | rfl | rfl | rfl | rfl | rfl | rfl | rfl : n = 0 ∨ n = 1 ∨ n = 2 ∨ n = 3 ∨ n = 4 ∨ n = 5 ∨ n = 6 ∨ n = 7 ∨ n = 8 ∨ n = 9 ∨ n = 10 ∨ n = 11 ∨ n = 12 ∨ n = 13 ∨ n = 14 ∨ n = 15 := by omega
  all_goals kernel_rfl

/-- The escape of a number below 65536. -/
def unitT (x : Int) : List Int := [92, 117, hxD (x / 4096 % 16), hxD (x / 256 % 16), hxD (x / 16 % 16), hxD (x % 16)]
theorem unitT_by (x : Int) : By8 (unitT x) := by
  intro y hy
  simp only [unitT, List.mem_cons, List.not_mem_nil, or_false] at hy
  rcases hy with rfl | rfl | rfl | rfl | rfl | rfl
  · omega
  · omega
  all_goals exact hxD_by (by omega) (by omega)

theorem mask4u (x : Int) (h0 : 0 ≤ x) (h1 : x < 65536) : bits .and .u16 x 15 = x % 16 := bits_mask .u16 16 (by decide) (fun n a b => by rw [IntKind.wrap_u16]; omega) 4 (by decide) x h0 h1

set_option maxRecDepth 100000 in
theorem escU_any (B : Nat) (v : Value) (l : List Int) (x : Int) (w : World) (h0 : 0 ≤ x) (h1 : x < 65536) (hv : Bs w B v l) (hB : B ≤ w.heap.size) (hl : l.length ≤ 100000000000000) :
    Calls Tryd.prog 83 #[v, .int .u16 x] w (Gives B v w (l ++ unitT x)) := by
  obtain ⟨i0, hi, hz0, hz1, hz2⟩ := info_parts Tryd.infoU8
  have m1 := mask4u (x / 4096) (by omega) (by omega)
  have m2 := mask4u (x / 256) (by omega) (by omega)
  have m3 := mask4u (x / 16) (by omega) (by omega)
  have m4 := mask4u x (by omega) (by omega)
  go_enter Tryd.func83, Tryd.ntmps83
  have x1 := fun w => hexIdx .u16 (x / 4096 % 16) (by omega) (by omega) w
  have x2 := fun w => hexIdx .u16 (x / 256 % 16) (by omega) (by omega) w
  have x3 := fun w => hexIdx .u16 (x / 16 % 16) (by omega) (by omega) w
  have x4 := fun w => hexIdx .u16 (x % 16) (by omega) (by omega) w
  go_wp2
  refine wp_region_any (by kernel_rfl) ?_
  try (change wpAny _ _ _ _ _ _ _ (World.drew _))
  refine wpAny_take (i := 0) (v := ?_) rfl (by kernel_rfl) (by kernel_rfl) (by kernel_rfl) (fun _ _ _ h => h) (Or.inl ⟨by rfl, ?_⟩) ?_
  rotate_left
  · intro wx; go_simp; try with_reducible rfl
  rotate_left
  refine wpAny_take (i := 1) (v := ?_) rfl (by kernel_rfl) (by kernel_rfl) (by kernel_rfl) (fun _ _ _ h => h) (Or.inl ⟨by rfl, ?_⟩) ?_
  rotate_left
  · intro wx; go_simp; try with_reducible rfl
  rotate_left
  refine wpAny_take (i := 2) (v := ?_) rfl (by kernel_rfl) (by kernel_rfl) (by kernel_rfl) (fun _ _ _ h => h) (Or.inl ⟨by rfl, ?_⟩) ?_
  rotate_left
  · intro wx; go_simp; try with_reducible rfl
  rotate_left
  refine wpAny_take (i := 3) (v := ?_) rfl (by kernel_rfl) (by kernel_rfl) (by kernel_rfl) (fun _ _ _ h => h) (Or.inl ⟨by rfl, ?_⟩) ?_
  rotate_left
  · intro wx; go_simp; try with_reducible rfl
  rotate_left
  refine wpAny_take (i := 4) (v := ?_) rfl (by kernel_rfl) (by kernel_rfl) (by kernel_rfl) (fun _ _ _ h => h) (Or.inl ⟨by rfl, ?_⟩) ?_
  rotate_left
  · intro wx; go_simp; try with_reducible rfl
  rotate_left
  refine wpAny_take (i := 5) (v := ?_) rfl (by kernel_rfl) (by kernel_rfl) (by kernel_rfl) (fun _ _ _ h => h) (Or.inl ⟨by rfl, ?_⟩) ?_
  rotate_left
  · intro wx; go_simp; try with_reducible rfl
  rotate_left
  refine wpAny_take (i := 6) (v := ?_) rfl (by kernel_rfl) (by kernel_rfl) (by kernel_rfl) (fun _ _ _ h => h) (Or.inl ⟨by rfl, ?_⟩) ?_
  rotate_left
  · intro wx; go_simp; try with_reducible rfl
  rotate_left
  refine wpAny_take (i := 7) (v := ?_) rfl (by kernel_rfl) (by kernel_rfl) (by kernel_rfl) (fun _ _ _ h => h) (Or.inl ⟨by rfl, ?_⟩) ?_
  rotate_left
  · intro wx; go_simp; try with_reducible rfl
  rotate_left
  refine wpAny_take (i := 8) (v := ?_) rfl (by kernel_rfl) (by kernel_rfl) (by kernel_rfl) (fun _ _ _ h => h) (Or.inl ⟨by rfl, ?_⟩) ?_
  rotate_left
  · intro wx; go_simp; try with_reducible rfl
  rotate_left
  refine wpAny_take (i := 9) (v := ?_) rfl (by kernel_rfl) (by kernel_rfl) (by kernel_rfl) (fun _ _ _ h => h) (Or.inl ⟨by rfl, ?_⟩) ?_
  rotate_left
  · intro wx; go_simp; try with_reducible rfl
  rotate_left
  refine wpAny_take (i := 10) (v := ?_) rfl (by kernel_rfl) (by kernel_rfl) (by kernel_rfl) (fun _ _ _ h => h) (Or.inl ⟨by rfl, ?_⟩) ?_
  rotate_left
  · intro wx; go_simp; try with_reducible rfl
  rotate_left
  refine wpAny_take (i := 11) (v := ?_) rfl (by kernel_rfl) (by kernel_rfl) (by kernel_rfl) (fun _ _ _ h => h) (Or.inl ⟨by rfl, ?_⟩) ?_
  rotate_left
  · intro wx; go_simp; try with_reducible rfl
  rotate_left
  refine wpAny_take (i := 12) (v := ?_) rfl (by kernel_rfl) (by kernel_rfl) (by kernel_rfl) (fun _ _ _ h => h) (Or.inl ⟨by rfl, ?_⟩) ?_
  rotate_left
  · intro wx; go_simp; try with_reducible rfl
  rotate_left
  refine wpAny_take (i := 13) (v := ?_) rfl (by kernel_rfl) (by kernel_rfl) (by kernel_rfl) (fun _ _ _ h => h) (Or.inl ⟨by rfl, ?_⟩) ?_
  rotate_left
  · intro wx; go_simp; try with_reducible rfl
  rotate_left
  refine wpAny_take (i := 14) (v := ?_) rfl (by kernel_rfl) (by kernel_rfl) (by kernel_rfl) (fun _ _ _ h => h) (Or.inl ⟨by rfl, ?_⟩) ?_
  rotate_left
  · intro wx; go_simp; try with_reducible rfl
  rotate_left
  refine wpAny_take (i := 15) (v := ?_) rfl (by kernel_rfl) (by kernel_rfl) (by kernel_rfl) (fun _ _ _ h => h) (Or.inl ⟨by rfl, ?_⟩) ?_
  rotate_left
  · intro wx; go_simp; try with_reducible rfl
  rotate_left
  refine wpAny_take (i := 16) (v := ?_) rfl (by kernel_rfl) (by kernel_rfl) (by kernel_rfl) (fun _ _ _ h => h) (Or.inl ⟨by rfl, ?_⟩) ?_
  rotate_left
  · intro wx; go_simp; try with_reducible rfl
  rotate_left
  refine wpAny_rest 17 (by kernel_rfl) ?_
  simp only [List.drop_succ_cons, List.drop_zero]
  have hv2 : Bs w.drew B v l := hv.drewN 1
  have hB2 : B ≤ w.drew.heap.size := hB
  have ha2 : Ap v w v w.drew := Ap.drewN v w 1
  generalize w.drew = w2 at hv2 hB2 ha2 ⊢
  go_wp2_with (at_builtin; refine wpList_append_bs _ rfl (.tmp 5) (.tmp 22) 46 46 (by rfl) B i0 Tryd.underlying46 hi hz0 hz1 hz2 v l rfl (Bs.alloc hv2 _) _ (unitT x) rfl (unitT_by x) (src_lit Tryd.underlying46 w2 (unitT x) 6 rfl _ _ hz1 _ rfl) (by simp [unitT]; omega) (by simp; omega) ?_; intro v' w' hb' ha')
  go_ret
  exact ⟨_, rfl, hb', (ha2.trans (Ap.alloc v w2 _)).trans ha'⟩

/-- A plain character's escape. -/
def escA (c : Int) : List Int :=
  if c = 34 ∨ c = 92 then [92, c] else if c = 8 then [92, 98] else if c = 12 then [92, 102] else if c = 10 then [92, 110] else if c = 13 then [92, 114] else if c = 9 then [92, 116] else unitT c

set_option maxRecDepth 100000 in
set_option maxHeartbeats 1000000 in
theorem escA_any (B : Nat) (v : Value) (l : List Int) (c : Int) (w : World) (h0 : 0 ≤ c) (h1 : c < 256) (hv : Bs w B v l) (hB : B ≤ w.heap.size) (hl : l.length ≤ 100000000000000) :
    Calls Tryd.prog 73 #[v, .int .u8 c] w (Gives B v w (l ++ escA c)) := by
  obtain ⟨i0, hi, hz0, hz1, hz2⟩ := info_parts Tryd.infoU8
  go_enter Tryd.func73, Tryd.ntmps73
  go_wp2_with (first
    | (at_builtin; refine wpList_append_bs _ rfl (.tmp 13) (.tmp 15) 46 46 (by rfl) B i0 Tryd.underlying46 hi hz0 hz1 hz2 _ _ rfl (Bs.alloc hv _) _ [92, c] rfl (by intro x hx; simp at hx; omega) (src_lit Tryd.underlying46 _ [92, c] 2 rfl _ _ hz1 _ rfl) (by first | omega | (simp; omega) | (simp only [List.length_append, sub_len, bl_len, List.length_cons, List.length_nil]; omega)) (by first | assumption | omega | (simp; omega)) ?_; intro v' w' hb' ha')
    | (at_builtin; refine wpList_append_bs _ rfl (.tmp 19) (.const (.string ⟨#[92, 98]⟩)) 46 9 (by rfl) B i0 Tryd.underlying46 hi hz0 hz1 hz2 _ _ rfl hv _ [92, 98] rfl (by intro x hx; simp at hx; omega) (src_strL Tryd.underlying9 ⟨#[92, 98]⟩ [92, 98] rfl _ _ hz1) (by first | omega | (simp; omega) | (simp only [List.length_append, sub_len, bl_len, List.length_cons, List.length_nil]; omega)) (by first | assumption | omega | (simp; omega)) ?_; intro v' w' hb' ha')
    | (at_builtin; refine wpList_append_bs _ rfl (.tmp 23) (.const (.string ⟨#[92, 102]⟩)) 46 9 (by rfl) B i0 Tryd.underlying46 hi hz0 hz1 hz2 _ _ rfl hv _ [92, 102] rfl (by intro x hx; simp at hx; omega) (src_strL Tryd.underlying9 ⟨#[92, 102]⟩ [92, 102] rfl _ _ hz1) (by first | omega | (simp; omega) | (simp only [List.length_append, sub_len, bl_len, List.length_cons, List.length_nil]; omega)) (by first | assumption | omega | (simp; omega)) ?_; intro v' w' hb' ha')
    | (at_builtin; refine wpList_append_bs _ rfl (.tmp 27) (.const (.string ⟨#[92, 110]⟩)) 46 9 (by rfl) B i0 Tryd.underlying46 hi hz0 hz1 hz2 _ _ rfl hv _ [92, 110] rfl (by intro x hx; simp at hx; omega) (src_strL Tryd.underlying9 ⟨#[92, 110]⟩ [92, 110] rfl _ _ hz1) (by first | omega | (simp; omega) | (simp only [List.length_append, sub_len, bl_len, List.length_cons, List.length_nil]; omega)) (by first | assumption | omega | (simp; omega)) ?_; intro v' w' hb' ha')
    | (at_builtin; refine wpList_append_bs _ rfl (.tmp 31) (.const (.string ⟨#[92, 114]⟩)) 46 9 (by rfl) B i0 Tryd.underlying46 hi hz0 hz1 hz2 _ _ rfl hv _ [92, 114] rfl (by intro x hx; simp at hx; omega) (src_strL Tryd.underlying9 ⟨#[92, 114]⟩ [92, 114] rfl _ _ hz1) (by first | omega | (simp; omega) | (simp only [List.length_append, sub_len, bl_len, List.length_cons, List.length_nil]; omega)) (by first | assumption | omega | (simp; omega)) ?_; intro v' w' hb' ha')
    | (at_builtin; refine wpList_append_bs _ rfl (.tmp 35) (.const (.string ⟨#[92, 116]⟩)) 46 9 (by rfl) B i0 Tryd.underlying46 hi hz0 hz1 hz2 _ _ rfl hv _ [92, 116] rfl (by intro x hx; simp at hx; omega) (src_strL Tryd.underlying9 ⟨#[92, 116]⟩ [92, 116] rfl _ _ hz1) (by first | omega | (simp; omega) | (simp only [List.length_append, sub_len, bl_len, List.length_cons, List.length_nil]; omega)) (by first | assumption | omega | (simp; omega)) ?_; intro v' w' hb' ha')
    | (go_at_call 83; refine (escU_any B v l c _ h0 (by omega) hv hB hl).mono ?_; rintro e w' ⟨v', rfl, hb', ha'⟩))
  all_goals go_ret
  all_goals simp only [beq_iff_eq, beq_eq_false_iff_ne, ne_eq] at *
  all_goals refine ⟨_, rfl, ?_, ?_⟩
  all_goals first | exact ha' | exact (Ap.alloc v w _).trans ha' | skip
  all_goals unfold escA
  all_goals (repeat' split)
  all_goals first | exact hb' | (exfalso; omega)
end Go.Proofs.YtokhmhbjbclcoaaDoor
