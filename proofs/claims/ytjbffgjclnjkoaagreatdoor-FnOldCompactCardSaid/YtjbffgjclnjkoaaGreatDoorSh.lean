/- The scanner's states: numbers, strings. -/
import Derived.Test.YtjbffgjclnjkoaaGreatDoorSg
namespace Go.Proofs.YtjbffgjclnjkoaaGreatDoor
set_option linter.unusedVariables false
set_option linter.unusedSimpArgs false
open Go.RowKit Go.Shelf

set_option maxRecDepth 100000 in
set_option maxHeartbeats 2000000 in
theorem esg_any (b B : Nat) (σ : Sc) (v : Value) (c : Int) (w : World) (h : IsS w b B σ v) (hw : B ≤ w.heap.size) :
    Calls Tryz.prog 133 #[.pointer (some ⟨b, 0, none⟩), .int .u8 c] w fun e w' => ∃ v', e = .returned (.int .i64 (esgQ σ c).1) ∧ IsS w' b B (esgQ σ c).2 v' ∧ Stp b v w v' w' := by
  by_cases n0 : digB c = true
  · have r1 : 48 ≤ c ∧ c ≤ 57 := by simpa [digB] using n0
    obtain ⟨r1, r2⟩ := r1
    have e1 : esgQ σ c = σ.to 0 .e0 := by unfold esgQ; rw [if_pos n0]
    rw [e1]
    clear n0
    have d1 : decide (48 ≤ c) = true := decide_eq_true r1
    have d2 : decide (c ≤ 57) = true := decide_eq_true r2
    clear r1 r2
    have hst := h.store 138
    have h1 := h.setQ .e0
    have s1 := Stp.set b v w 0 (fv .e0)
    clear h
    go_enter Tryz.func133, Tryz.ntmps133
    go_wp2_with (first | (go_at_call 97; refine (isW_any _ _).mono ?_; rintro e wz ⟨rfl, hz⟩; obtain rfl := hz.symm))
    all_goals go_ret
    first | exact ⟨_, rfl, h1, s1⟩ | exact ⟨_, h1, s1⟩ | exact ⟨rfl, _, h1, s1⟩
  have n0r : c < 48 ∨ 57 < c := by have : ¬ (48 ≤ c ∧ c ≤ 57) := fun h => n0 (by simpa [digB] using h); omega
  have e1 : esgQ σ c = σ.err := by unfold esgQ; rw [if_neg n0]; first | done | rfl
  rw [e1]
  rcases n0r with r1 | r1
  · have d1n0 : decide (48 ≤ c) = false := decide_eq_false (by omega)
    have d2n0 : decide (c ≤ 57) = true := decide_eq_true (by omega)
    clear r1
    clear n0
    go_enter Tryz.func133, Tryz.ntmps133
    go_wp2_with (first | (go_at_call 97; refine (isW_any _ _).mono ?_; rintro e wz ⟨rfl, hz⟩; obtain rfl := hz.symm) | (go_at_call 108; refine (error_any b B _ _ c _ (by decide) _ h hw).mono ?_; rintro e w2 ⟨rfl, hS, hP⟩))
    all_goals go_ret
    first | exact ⟨_, rfl, hS, hP⟩ | exact ⟨_, hS, hP⟩
  · have d1n0 : decide (48 ≤ c) = true := decide_eq_true (by omega)
    have d2n0 : decide (c ≤ 57) = false := decide_eq_false (by omega)
    clear r1
    clear n0
    go_enter Tryz.func133, Tryz.ntmps133
    go_wp2_with (first | (go_at_call 97; refine (isW_any _ _).mono ?_; rintro e wz ⟨rfl, hz⟩; obtain rfl := hz.symm) | (go_at_call 108; refine (error_any b B _ _ c _ (by decide) _ h hw).mono ?_; rintro e w2 ⟨rfl, hS, hP⟩))
    all_goals go_ret
    first | exact ⟨_, rfl, hS, hP⟩ | exact ⟨_, hS, hP⟩
set_option maxRecDepth 100000 in
set_option maxHeartbeats 2000000 in
theorem dot_any (b B : Nat) (σ : Sc) (v : Value) (c : Int) (w : World) (h : IsS w b B σ v) (hw : B ≤ w.heap.size) :
    Calls Tryz.prog 116 #[.pointer (some ⟨b, 0, none⟩), .int .u8 c] w fun e w' => ∃ v', e = .returned (.int .i64 (dotQ σ c).1) ∧ IsS w' b B (dotQ σ c).2 v' ∧ Stp b v w v' w' := by
  by_cases n0 : digB c = true
  · have r1 : 48 ≤ c ∧ c ≤ 57 := by simpa [digB] using n0
    obtain ⟨r1, r2⟩ := r1
    have e1 : dotQ σ c = σ.to 0 .dot0 := by unfold dotQ; rw [if_pos n0]
    rw [e1]
    clear n0
    have d1 : decide (48 ≤ c) = true := decide_eq_true r1
    have d2 : decide (c ≤ 57) = true := decide_eq_true r2
    clear r1 r2
    have hst := h.store 132
    have h1 := h.setQ .dot0
    have s1 := Stp.set b v w 0 (fv .dot0)
    clear h
    go_enter Tryz.func116, Tryz.ntmps116
    go_wp2_with (first | (go_at_call 97; refine (isW_any _ _).mono ?_; rintro e wz ⟨rfl, hz⟩; obtain rfl := hz.symm))
    all_goals go_ret
    first | exact ⟨_, rfl, h1, s1⟩ | exact ⟨_, h1, s1⟩ | exact ⟨rfl, _, h1, s1⟩
  have n0r : c < 48 ∨ 57 < c := by have : ¬ (48 ≤ c ∧ c ≤ 57) := fun h => n0 (by simpa [digB] using h); omega
  have e1 : dotQ σ c = σ.err := by unfold dotQ; rw [if_neg n0]; first | done | rfl
  rw [e1]
  rcases n0r with r1 | r1
  · have d1n0 : decide (48 ≤ c) = false := decide_eq_false (by omega)
    have d2n0 : decide (c ≤ 57) = true := decide_eq_true (by omega)
    clear r1
    clear n0
    go_enter Tryz.func116, Tryz.ntmps116
    go_wp2_with (first | (go_at_call 97; refine (isW_any _ _).mono ?_; rintro e wz ⟨rfl, hz⟩; obtain rfl := hz.symm) | (go_at_call 108; refine (error_any b B _ _ c _ (by decide) _ h hw).mono ?_; rintro e w2 ⟨rfl, hS, hP⟩))
    all_goals go_ret
    first | exact ⟨_, rfl, hS, hP⟩ | exact ⟨_, hS, hP⟩
  · have d1n0 : decide (48 ≤ c) = true := decide_eq_true (by omega)
    have d2n0 : decide (c ≤ 57) = false := decide_eq_false (by omega)
    clear r1
    clear n0
    go_enter Tryz.func116, Tryz.ntmps116
    go_wp2_with (first | (go_at_call 97; refine (isW_any _ _).mono ?_; rintro e wz ⟨rfl, hz⟩; obtain rfl := hz.symm) | (go_at_call 108; refine (error_any b B _ _ c _ (by decide) _ h hw).mono ?_; rintro e w2 ⟨rfl, hS, hP⟩))
    all_goals go_ret
    first | exact ⟨_, rfl, hS, hP⟩ | exact ⟨_, hS, hP⟩
set_option maxRecDepth 100000 in
set_option maxHeartbeats 2000000 in
theorem s0_any (b B : Nat) (σ : Sc) (v : Value) (c : Int) (w : World) (h : IsS w b B σ v) (hw : B ≤ w.heap.size) :
    Calls Tryz.prog 103 #[.pointer (some ⟨b, 0, none⟩), .int .u8 c] w fun e w' => ∃ v', e = .returned (.int .i64 (s0Q σ c).1) ∧ IsS w' b B (s0Q σ c).2 v' ∧ Stp b v w v' w' := by
  by_cases n0 : c = 46
  · subst n0
    have e1 : s0Q σ 46 = σ.to 0 .dot := by unfold s0Q; rw [if_pos rfl]
    rw [e1]
    have hst := h.store 116
    have h1 := h.setQ .dot
    have s1 := Stp.set b v w 0 (fv .dot)
    clear h
    go_enter Tryz.func103, Tryz.ntmps103
    go_wp2_with (first | (go_at_call 97; refine (isW_any _ _).mono ?_; rintro e wz ⟨rfl, hz⟩; obtain rfl := hz.symm))
    all_goals go_ret
    first | exact ⟨_, rfl, h1, s1⟩ | exact ⟨_, h1, s1⟩ | exact ⟨rfl, _, h1, s1⟩
  have n0b : (c == 46) = false := by simpa using n0
  by_cases n1_101 : c = 101
  · subst n1_101
    have e1 : s0Q σ 101 = σ.to 0 .ee := by unfold s0Q; rw [if_neg n0]; rw [if_pos (by decide)]
    rw [e1]
    clear n0
    have hst := h.store 117
    have h1 := h.setQ .ee
    have s1 := Stp.set b v w 0 (fv .ee)
    clear h
    go_enter Tryz.func103, Tryz.ntmps103
    go_wp2_with (first | (go_at_call 97; refine (isW_any _ _).mono ?_; rintro e wz ⟨rfl, hz⟩; obtain rfl := hz.symm))
    all_goals go_ret
    first | exact ⟨_, rfl, h1, s1⟩ | exact ⟨_, h1, s1⟩ | exact ⟨rfl, _, h1, s1⟩
  have n1_101b : (c == 101) = false := by simpa using n1_101
  by_cases n1_69 : c = 69
  · subst n1_69
    have e1 : s0Q σ 69 = σ.to 0 .ee := by unfold s0Q; rw [if_neg n0]; rw [if_pos (by decide)]
    rw [e1]
    clear n0
    have hst := h.store 117
    have h1 := h.setQ .ee
    have s1 := Stp.set b v w 0 (fv .ee)
    clear h
    go_enter Tryz.func103, Tryz.ntmps103
    go_wp2_with (first | (go_at_call 97; refine (isW_any _ _).mono ?_; rintro e wz ⟨rfl, hz⟩; obtain rfl := hz.symm))
    all_goals go_ret
    first | exact ⟨_, rfl, h1, s1⟩ | exact ⟨_, h1, s1⟩ | exact ⟨rfl, _, h1, s1⟩
  have n1_69b : (c == 69) = false := by simpa using n1_69
  have n1 : ¬ (c = 101 ∨ c = 69) := by omega
  clear n1_101 n1_69
  have e1 : s0Q σ c = endQ σ c := by unfold s0Q; rw [if_neg n0]; rw [if_neg n1]; first | done | rfl
  rw [e1]
  clear n0 n1
  go_enter Tryz.func103, Tryz.ntmps103
  go_wp2_with (first | (go_at_call 97; refine (isW_any _ _).mono ?_; rintro e wz ⟨rfl, hz⟩; obtain rfl := hz.symm) | (go_at_call 113; refine (end_any b B _ _ c _ h hw).mono ?_; rintro e w2 ⟨v', rfl, hS, hP⟩))
  all_goals go_ret
  first | exact ⟨_, rfl, hS, hP⟩ | exact ⟨_, hS, hP⟩ | exact ⟨rfl, _, hS, hP⟩
set_option maxRecDepth 100000 in
set_option maxHeartbeats 2000000 in
theorem s1_any (b B : Nat) (σ : Sc) (v : Value) (c : Int) (w : World) (h : IsS w b B σ v) (hw : B ≤ w.heap.size) :
    Calls Tryz.prog 107 #[.pointer (some ⟨b, 0, none⟩), .int .u8 c] w fun e w' => ∃ v', e = .returned (.int .i64 (s1Q σ c).1) ∧ IsS w' b B (s1Q σ c).2 v' ∧ Stp b v w v' w' := by
  by_cases n0 : digB c = true
  · have r1 : 48 ≤ c ∧ c ≤ 57 := by simpa [digB] using n0
    obtain ⟨r1, r2⟩ := r1
    have e1 : s1Q σ c = σ.to 0 .s1 := by unfold s1Q; rw [if_pos n0]
    rw [e1]
    clear n0
    have d1 : decide (48 ≤ c) = true := decide_eq_true r1
    have d2 : decide (c ≤ 57) = true := decide_eq_true r2
    clear r1 r2
    have hst := h.store 107
    have h1 := h.setQ .s1
    have s1 := Stp.set b v w 0 (fv .s1)
    clear h
    go_enter Tryz.func107, Tryz.ntmps107
    go_wp2_with (first | (go_at_call 97; refine (isW_any _ _).mono ?_; rintro e wz ⟨rfl, hz⟩; obtain rfl := hz.symm))
    all_goals go_ret
    first | exact ⟨_, rfl, h1, s1⟩ | exact ⟨_, h1, s1⟩ | exact ⟨rfl, _, h1, s1⟩
  have n0r : c < 48 ∨ 57 < c := by have : ¬ (48 ≤ c ∧ c ≤ 57) := fun h => n0 (by simpa [digB] using h); omega
  have e1 : s1Q σ c = s0Q σ c := by unfold s1Q; rw [if_neg n0]; first | done | rfl
  rw [e1]
  rcases n0r with r1 | r1
  · have d1n0 : decide (48 ≤ c) = false := decide_eq_false (by omega)
    have d2n0 : decide (c ≤ 57) = true := decide_eq_true (by omega)
    clear r1
    clear n0
    go_enter Tryz.func107, Tryz.ntmps107
    go_wp2_with (first | (go_at_call 97; refine (isW_any _ _).mono ?_; rintro e wz ⟨rfl, hz⟩; obtain rfl := hz.symm) | (go_at_call 103; refine (s0_any b B _ _ c _ h hw).mono ?_; rintro e w2 ⟨v', rfl, hS, hP⟩))
    all_goals go_ret
    first | exact ⟨_, rfl, hS, hP⟩ | exact ⟨_, hS, hP⟩ | exact ⟨rfl, _, hS, hP⟩
  · have d1n0 : decide (48 ≤ c) = true := decide_eq_true (by omega)
    have d2n0 : decide (c ≤ 57) = false := decide_eq_false (by omega)
    clear r1
    clear n0
    go_enter Tryz.func107, Tryz.ntmps107
    go_wp2_with (first | (go_at_call 97; refine (isW_any _ _).mono ?_; rintro e wz ⟨rfl, hz⟩; obtain rfl := hz.symm) | (go_at_call 103; refine (s0_any b B _ _ c _ h hw).mono ?_; rintro e w2 ⟨v', rfl, hS, hP⟩))
    all_goals go_ret
    first | exact ⟨_, rfl, hS, hP⟩ | exact ⟨_, hS, hP⟩ | exact ⟨rfl, _, hS, hP⟩
set_option maxRecDepth 100000 in
set_option maxHeartbeats 2000000 in
theorem dot0_any (b B : Nat) (σ : Sc) (v : Value) (c : Int) (w : World) (h : IsS w b B σ v) (hw : B ≤ w.heap.size) :
    Calls Tryz.prog 132 #[.pointer (some ⟨b, 0, none⟩), .int .u8 c] w fun e w' => ∃ v', e = .returned (.int .i64 (dot0Q σ c).1) ∧ IsS w' b B (dot0Q σ c).2 v' ∧ Stp b v w v' w' := by
  by_cases n0 : digB c = true
  · have r1 : 48 ≤ c ∧ c ≤ 57 := by simpa [digB] using n0
    obtain ⟨r1, r2⟩ := r1
    have e1 : dot0Q σ c = (0, σ) := by unfold dot0Q; rw [if_pos n0]
    rw [e1]
    clear n0
    have d1 : decide (48 ≤ c) = true := decide_eq_true r1
    have d2 : decide (c ≤ 57) = true := decide_eq_true r2
    clear r1 r2
    go_enter Tryz.func132, Tryz.ntmps132
    go_wp2_with (first | (go_at_call 97; refine (isW_any _ _).mono ?_; rintro e wz ⟨rfl, hz⟩; obtain rfl := hz.symm))
    all_goals go_ret
    first | exact ⟨_, rfl, h, Stp.refl _ _ _⟩ | exact ⟨_, h, Stp.refl _ _ _⟩
  have n0r : c < 48 ∨ 57 < c := by have : ¬ (48 ≤ c ∧ c ≤ 57) := fun h => n0 (by simpa [digB] using h); omega
  by_cases n1_101 : c = 101
  · subst n1_101
    have e1 : dot0Q σ 101 = σ.to 0 .ee := by unfold dot0Q; rw [if_neg n0]; rw [if_pos (by decide)]
    rw [e1]
    clear n0
    have hst := h.store 117
    have h1 := h.setQ .ee
    have s1 := Stp.set b v w 0 (fv .ee)
    clear h
    go_enter Tryz.func132, Tryz.ntmps132
    go_wp2_with (first | (go_at_call 97; refine (isW_any _ _).mono ?_; rintro e wz ⟨rfl, hz⟩; obtain rfl := hz.symm))
    all_goals go_ret
    first | exact ⟨_, rfl, h1, s1⟩ | exact ⟨_, h1, s1⟩ | exact ⟨rfl, _, h1, s1⟩
  have n1_101b : (c == 101) = false := by simpa using n1_101
  by_cases n1_69 : c = 69
  · subst n1_69
    have e1 : dot0Q σ 69 = σ.to 0 .ee := by unfold dot0Q; rw [if_neg n0]; rw [if_pos (by decide)]
    rw [e1]
    clear n0
    have hst := h.store 117
    have h1 := h.setQ .ee
    have s1 := Stp.set b v w 0 (fv .ee)
    clear h
    go_enter Tryz.func132, Tryz.ntmps132
    go_wp2_with (first | (go_at_call 97; refine (isW_any _ _).mono ?_; rintro e wz ⟨rfl, hz⟩; obtain rfl := hz.symm))
    all_goals go_ret
    first | exact ⟨_, rfl, h1, s1⟩ | exact ⟨_, h1, s1⟩ | exact ⟨rfl, _, h1, s1⟩
  have n1_69b : (c == 69) = false := by simpa using n1_69
  have n1 : ¬ (c = 101 ∨ c = 69) := by omega
  clear n1_101 n1_69
  have e1 : dot0Q σ c = endQ σ c := by unfold dot0Q; rw [if_neg n0]; rw [if_neg n1]; first | done | rfl
  rw [e1]
  rcases n0r with r1 | r1
  · have d1n0 : decide (48 ≤ c) = false := decide_eq_false (by omega)
    have d2n0 : decide (c ≤ 57) = true := decide_eq_true (by omega)
    clear r1
    clear n0 n1
    go_enter Tryz.func132, Tryz.ntmps132
    go_wp2_with (first | (go_at_call 97; refine (isW_any _ _).mono ?_; rintro e wz ⟨rfl, hz⟩; obtain rfl := hz.symm) | (go_at_call 113; refine (end_any b B _ _ c _ h hw).mono ?_; rintro e w2 ⟨v', rfl, hS, hP⟩))
    all_goals go_ret
    first | exact ⟨_, rfl, hS, hP⟩ | exact ⟨_, hS, hP⟩ | exact ⟨rfl, _, hS, hP⟩
  · have d1n0 : decide (48 ≤ c) = true := decide_eq_true (by omega)
    have d2n0 : decide (c ≤ 57) = false := decide_eq_false (by omega)
    clear r1
    clear n0 n1
    go_enter Tryz.func132, Tryz.ntmps132
    go_wp2_with (first | (go_at_call 97; refine (isW_any _ _).mono ?_; rintro e wz ⟨rfl, hz⟩; obtain rfl := hz.symm) | (go_at_call 113; refine (end_any b B _ _ c _ h hw).mono ?_; rintro e w2 ⟨v', rfl, hS, hP⟩))
    all_goals go_ret
    first | exact ⟨_, rfl, hS, hP⟩ | exact ⟨_, hS, hP⟩ | exact ⟨rfl, _, hS, hP⟩
set_option maxRecDepth 100000 in
set_option maxHeartbeats 2000000 in
theorem ee_any (b B : Nat) (σ : Sc) (v : Value) (c : Int) (w : World) (h : IsS w b B σ v) (hw : B ≤ w.heap.size) :
    Calls Tryz.prog 117 #[.pointer (some ⟨b, 0, none⟩), .int .u8 c] w fun e w' => ∃ v', e = .returned (.int .i64 (eeQ σ c).1) ∧ IsS w' b B (eeQ σ c).2 v' ∧ Stp b v w v' w' := by
  by_cases n0_43 : c = 43
  · subst n0_43
    have e1 : eeQ σ 43 = σ.to 0 .esg := by unfold eeQ; rw [if_pos (by decide)]
    rw [e1]
    have hst := h.store 133
    have h1 := h.setQ .esg
    have s1 := Stp.set b v w 0 (fv .esg)
    clear h
    go_enter Tryz.func117, Tryz.ntmps117
    go_wp2_with (first | (go_at_call 97; refine (isW_any _ _).mono ?_; rintro e wz ⟨rfl, hz⟩; obtain rfl := hz.symm))
    all_goals go_ret
    first | exact ⟨_, rfl, h1, s1⟩ | exact ⟨_, h1, s1⟩ | exact ⟨rfl, _, h1, s1⟩
  have n0_43b : (c == 43) = false := by simpa using n0_43
  by_cases n0_45 : c = 45
  · subst n0_45
    have e1 : eeQ σ 45 = σ.to 0 .esg := by unfold eeQ; rw [if_pos (by decide)]
    rw [e1]
    have hst := h.store 133
    have h1 := h.setQ .esg
    have s1 := Stp.set b v w 0 (fv .esg)
    clear h
    go_enter Tryz.func117, Tryz.ntmps117
    go_wp2_with (first | (go_at_call 97; refine (isW_any _ _).mono ?_; rintro e wz ⟨rfl, hz⟩; obtain rfl := hz.symm))
    all_goals go_ret
    first | exact ⟨_, rfl, h1, s1⟩ | exact ⟨_, h1, s1⟩ | exact ⟨rfl, _, h1, s1⟩
  have n0_45b : (c == 45) = false := by simpa using n0_45
  have n0 : ¬ (c = 43 ∨ c = 45) := by omega
  clear n0_43 n0_45
  have e1 : eeQ σ c = esgQ σ c := by unfold eeQ; rw [if_neg n0]; first | done | rfl
  rw [e1]
  clear n0
  go_enter Tryz.func117, Tryz.ntmps117
  go_wp2_with (first | (go_at_call 97; refine (isW_any _ _).mono ?_; rintro e wz ⟨rfl, hz⟩; obtain rfl := hz.symm) | (go_at_call 133; refine (esg_any b B _ _ c _ h hw).mono ?_; rintro e w2 ⟨v', rfl, hS, hP⟩))
  all_goals go_ret
  first | exact ⟨_, rfl, hS, hP⟩ | exact ⟨_, hS, hP⟩ | exact ⟨rfl, _, hS, hP⟩
set_option maxRecDepth 100000 in
set_option maxHeartbeats 2000000 in
theorem e0_any (b B : Nat) (σ : Sc) (v : Value) (c : Int) (w : World) (h : IsS w b B σ v) (hw : B ≤ w.heap.size) :
    Calls Tryz.prog 138 #[.pointer (some ⟨b, 0, none⟩), .int .u8 c] w fun e w' => ∃ v', e = .returned (.int .i64 (e0Q σ c).1) ∧ IsS w' b B (e0Q σ c).2 v' ∧ Stp b v w v' w' := by
  by_cases n0 : digB c = true
  · have r1 : 48 ≤ c ∧ c ≤ 57 := by simpa [digB] using n0
    obtain ⟨r1, r2⟩ := r1
    have e1 : e0Q σ c = (0, σ) := by unfold e0Q; rw [if_pos n0]
    rw [e1]
    clear n0
    have d1 : decide (48 ≤ c) = true := decide_eq_true r1
    have d2 : decide (c ≤ 57) = true := decide_eq_true r2
    clear r1 r2
    go_enter Tryz.func138, Tryz.ntmps138
    go_wp2_with (first | (go_at_call 97; refine (isW_any _ _).mono ?_; rintro e wz ⟨rfl, hz⟩; obtain rfl := hz.symm))
    all_goals go_ret
    first | exact ⟨_, rfl, h, Stp.refl _ _ _⟩ | exact ⟨_, h, Stp.refl _ _ _⟩
  have n0r : c < 48 ∨ 57 < c := by have : ¬ (48 ≤ c ∧ c ≤ 57) := fun h => n0 (by simpa [digB] using h); omega
  have e1 : e0Q σ c = endQ σ c := by unfold e0Q; rw [if_neg n0]; first | done | rfl
  rw [e1]
  rcases n0r with r1 | r1
  · have d1n0 : decide (48 ≤ c) = false := decide_eq_false (by omega)
    have d2n0 : decide (c ≤ 57) = true := decide_eq_true (by omega)
    clear r1
    clear n0
    go_enter Tryz.func138, Tryz.ntmps138
    go_wp2_with (first | (go_at_call 97; refine (isW_any _ _).mono ?_; rintro e wz ⟨rfl, hz⟩; obtain rfl := hz.symm) | (go_at_call 113; refine (end_any b B _ _ c _ h hw).mono ?_; rintro e w2 ⟨v', rfl, hS, hP⟩))
    all_goals go_ret
    first | exact ⟨_, rfl, hS, hP⟩ | exact ⟨_, hS, hP⟩ | exact ⟨rfl, _, hS, hP⟩
  · have d1n0 : decide (48 ≤ c) = true := decide_eq_true (by omega)
    have d2n0 : decide (c ≤ 57) = false := decide_eq_false (by omega)
    clear r1
    clear n0
    go_enter Tryz.func138, Tryz.ntmps138
    go_wp2_with (first | (go_at_call 97; refine (isW_any _ _).mono ?_; rintro e wz ⟨rfl, hz⟩; obtain rfl := hz.symm) | (go_at_call 113; refine (end_any b B _ _ c _ h hw).mono ?_; rintro e w2 ⟨v', rfl, hS, hP⟩))
    all_goals go_ret
    first | exact ⟨_, rfl, hS, hP⟩ | exact ⟨_, hS, hP⟩ | exact ⟨rfl, _, hS, hP⟩
set_option maxRecDepth 100000 in
set_option maxHeartbeats 2000000 in
theorem neg_any (b B : Nat) (σ : Sc) (v : Value) (c : Int) (w : World) (h : IsS w b B σ v) (hw : B ≤ w.heap.size) :
    Calls Tryz.prog 102 #[.pointer (some ⟨b, 0, none⟩), .int .u8 c] w fun e w' => ∃ v', e = .returned (.int .i64 (negQ σ c).1) ∧ IsS w' b B (negQ σ c).2 v' ∧ Stp b v w v' w' := by
  by_cases n0 : c = 48
  · subst n0
    have e1 : negQ σ 48 = σ.to 0 .s0 := by unfold negQ; rw [if_pos rfl]
    rw [e1]
    have hst := h.store 103
    have h1 := h.setQ .s0
    have s1 := Stp.set b v w 0 (fv .s0)
    clear h
    go_enter Tryz.func102, Tryz.ntmps102
    go_wp2_with (first | (go_at_call 97; refine (isW_any _ _).mono ?_; rintro e wz ⟨rfl, hz⟩; obtain rfl := hz.symm))
    all_goals go_ret
    first | exact ⟨_, rfl, h1, s1⟩ | exact ⟨_, h1, s1⟩ | exact ⟨rfl, _, h1, s1⟩
  have n0b : (c == 48) = false := by simpa using n0
  by_cases n1 : (decide (49 ≤ c) && decide (c ≤ 57)) = true
  · have r1 : 49 ≤ c ∧ c ≤ 57 := by simpa using n1
    obtain ⟨r1, r2⟩ := r1
    have e1 : negQ σ c = σ.to 0 .s1 := by unfold negQ; rw [if_neg n0]; rw [if_pos n1]
    rw [e1]
    clear n0 n1
    have d1 : decide (49 ≤ c) = true := decide_eq_true r1
    have d2 : decide (c ≤ 57) = true := decide_eq_true r2
    clear r1 r2
    have hst := h.store 107
    have h1 := h.setQ .s1
    have s1 := Stp.set b v w 0 (fv .s1)
    clear h
    go_enter Tryz.func102, Tryz.ntmps102
    go_wp2_with (first | (go_at_call 97; refine (isW_any _ _).mono ?_; rintro e wz ⟨rfl, hz⟩; obtain rfl := hz.symm))
    all_goals go_ret
    first | exact ⟨_, rfl, h1, s1⟩ | exact ⟨_, h1, s1⟩ | exact ⟨rfl, _, h1, s1⟩
  have n1r : c < 49 ∨ 57 < c := by have : ¬ (49 ≤ c ∧ c ≤ 57) := fun h => n1 (by simpa [digB] using h); omega
  have e1 : negQ σ c = σ.err := by unfold negQ; rw [if_neg n0]; rw [if_neg n1]; first | done | rfl
  rw [e1]
  rcases n1r with r1 | r1
  · have d1n1 : decide (49 ≤ c) = false := decide_eq_false (by omega)
    have d2n1 : decide (c ≤ 57) = true := decide_eq_true (by omega)
    clear r1
    clear n0 n1
    go_enter Tryz.func102, Tryz.ntmps102
    go_wp2_with (first | (go_at_call 97; refine (isW_any _ _).mono ?_; rintro e wz ⟨rfl, hz⟩; obtain rfl := hz.symm) | (go_at_call 108; refine (error_any b B _ _ c _ (by decide) _ h hw).mono ?_; rintro e w2 ⟨rfl, hS, hP⟩))
    all_goals go_ret
    first | exact ⟨_, rfl, hS, hP⟩ | exact ⟨_, hS, hP⟩
  · have d1n1 : decide (49 ≤ c) = true := decide_eq_true (by omega)
    have d2n1 : decide (c ≤ 57) = false := decide_eq_false (by omega)
    clear r1
    clear n0 n1
    go_enter Tryz.func102, Tryz.ntmps102
    go_wp2_with (first | (go_at_call 97; refine (isW_any _ _).mono ?_; rintro e wz ⟨rfl, hz⟩; obtain rfl := hz.symm) | (go_at_call 108; refine (error_any b B _ _ c _ (by decide) _ h hw).mono ?_; rintro e w2 ⟨rfl, hS, hP⟩))
    all_goals go_ret
    first | exact ⟨_, rfl, hS, hP⟩ | exact ⟨_, hS, hP⟩
set_option maxRecDepth 100000 in
set_option maxHeartbeats 2000000 in
theorem str_any (b B : Nat) (σ : Sc) (v : Value) (c : Int) (w : World) (h : IsS w b B σ v) (hw : B ≤ w.heap.size) :
    Calls Tryz.prog 101 #[.pointer (some ⟨b, 0, none⟩), .int .u8 c] w fun e w' => ∃ v', e = .returned (.int .i64 (strQ σ c).1) ∧ IsS w' b B (strQ σ c).2 v' ∧ Stp b v w v' w' := by
  by_cases n0 : c = 34
  · subst n0
    have e1 : strQ σ 34 = σ.to 0 .ev := by unfold strQ; rw [if_pos rfl]
    rw [e1]
    have hst := h.store 113
    have h1 := h.setQ .ev
    have s1 := Stp.set b v w 0 (fv .ev)
    clear h
    go_enter Tryz.func101, Tryz.ntmps101
    go_wp2_with (first | (go_at_call 97; refine (isW_any _ _).mono ?_; rintro e wz ⟨rfl, hz⟩; obtain rfl := hz.symm))
    all_goals go_ret
    first | exact ⟨_, rfl, h1, s1⟩ | exact ⟨_, h1, s1⟩ | exact ⟨rfl, _, h1, s1⟩
  have n0b : (c == 34) = false := by simpa using n0
  by_cases n1 : c = 92
  · subst n1
    have e1 : strQ σ 92 = σ.to 0 .esc := by unfold strQ; rw [if_neg n0]; rw [if_pos rfl]
    rw [e1]
    clear n0
    have hst := h.store 115
    have h1 := h.setQ .esc
    have s1 := Stp.set b v w 0 (fv .esc)
    clear h
    go_enter Tryz.func101, Tryz.ntmps101
    go_wp2_with (first | (go_at_call 97; refine (isW_any _ _).mono ?_; rintro e wz ⟨rfl, hz⟩; obtain rfl := hz.symm))
    all_goals go_ret
    first | exact ⟨_, rfl, h1, s1⟩ | exact ⟨_, h1, s1⟩ | exact ⟨rfl, _, h1, s1⟩
  have n1b : (c == 92) = false := by simpa using n1
  by_cases n2 : c < 32
  · have e1 : strQ σ c = σ.err := by unfold strQ; rw [if_neg n0]; rw [if_neg n1]; rw [if_pos n2]
    rw [e1]
    clear n0 n1
    go_enter Tryz.func101, Tryz.ntmps101
    go_wp2_with (first | (go_at_call 97; refine (isW_any _ _).mono ?_; rintro e wz ⟨rfl, hz⟩; obtain rfl := hz.symm) | (go_at_call 108; refine (error_any b B _ _ c _ (by decide) _ h hw).mono ?_; rintro e w2 ⟨rfl, hS, hP⟩))
    all_goals go_ret
    first | exact ⟨_, rfl, hS, hP⟩ | exact ⟨_, hS, hP⟩
  have n2l : 32 ≤ c := by omega
  have e1 : strQ σ c = (0, σ) := by unfold strQ; rw [if_neg n0]; rw [if_neg n1]; rw [if_neg n2]; first | done | rfl
  rw [e1]
  clear n0 n1 n2
  go_enter Tryz.func101, Tryz.ntmps101
  go_wp2_with (first | (go_at_call 97; refine (isW_any _ _).mono ?_; rintro e wz ⟨rfl, hz⟩; obtain rfl := hz.symm))
  all_goals go_ret
  first | exact ⟨_, rfl, h, Stp.refl _ _ _⟩ | exact ⟨_, h, Stp.refl _ _ _⟩
set_option maxRecDepth 100000 in
set_option maxHeartbeats 2000000 in
theorem esc_any (b B : Nat) (σ : Sc) (v : Value) (c : Int) (w : World) (h : IsS w b B σ v) (hw : B ≤ w.heap.size) :
    Calls Tryz.prog 115 #[.pointer (some ⟨b, 0, none⟩), .int .u8 c] w fun e w' => ∃ v', e = .returned (.int .i64 (escQ σ c).1) ∧ IsS w' b B (escQ σ c).2 v' ∧ Stp b v w v' w' := by
  by_cases n0_98 : c = 98
  · subst n0_98
    have e1 : escQ σ 98 = σ.to 0 .str := by unfold escQ; rw [if_pos (by decide)]
    rw [e1]
    have hst := h.store 101
    have h1 := h.setQ .str
    have s1 := Stp.set b v w 0 (fv .str)
    clear h
    go_enter Tryz.func115, Tryz.ntmps115
    go_wp2_with (first | (go_at_call 97; refine (isW_any _ _).mono ?_; rintro e wz ⟨rfl, hz⟩; obtain rfl := hz.symm))
    all_goals go_ret
    first | exact ⟨_, rfl, h1, s1⟩ | exact ⟨_, h1, s1⟩ | exact ⟨rfl, _, h1, s1⟩
  have n0_98b : (c == 98) = false := by simpa using n0_98
  by_cases n0_102 : c = 102
  · subst n0_102
    have e1 : escQ σ 102 = σ.to 0 .str := by unfold escQ; rw [if_pos (by decide)]
    rw [e1]
    have hst := h.store 101
    have h1 := h.setQ .str
    have s1 := Stp.set b v w 0 (fv .str)
    clear h
    go_enter Tryz.func115, Tryz.ntmps115
    go_wp2_with (first | (go_at_call 97; refine (isW_any _ _).mono ?_; rintro e wz ⟨rfl, hz⟩; obtain rfl := hz.symm))
    all_goals go_ret
    first | exact ⟨_, rfl, h1, s1⟩ | exact ⟨_, h1, s1⟩ | exact ⟨rfl, _, h1, s1⟩
  have n0_102b : (c == 102) = false := by simpa using n0_102
  by_cases n0_110 : c = 110
  · subst n0_110
    have e1 : escQ σ 110 = σ.to 0 .str := by unfold escQ; rw [if_pos (by decide)]
    rw [e1]
    have hst := h.store 101
    have h1 := h.setQ .str
    have s1 := Stp.set b v w 0 (fv .str)
    clear h
    go_enter Tryz.func115, Tryz.ntmps115
    go_wp2_with (first | (go_at_call 97; refine (isW_any _ _).mono ?_; rintro e wz ⟨rfl, hz⟩; obtain rfl := hz.symm))
    all_goals go_ret
    first | exact ⟨_, rfl, h1, s1⟩ | exact ⟨_, h1, s1⟩ | exact ⟨rfl, _, h1, s1⟩
  have n0_110b : (c == 110) = false := by simpa using n0_110
  by_cases n0_114 : c = 114
  · subst n0_114
    have e1 : escQ σ 114 = σ.to 0 .str := by unfold escQ; rw [if_pos (by decide)]
    rw [e1]
    have hst := h.store 101
    have h1 := h.setQ .str
    have s1 := Stp.set b v w 0 (fv .str)
    clear h
    go_enter Tryz.func115, Tryz.ntmps115
    go_wp2_with (first | (go_at_call 97; refine (isW_any _ _).mono ?_; rintro e wz ⟨rfl, hz⟩; obtain rfl := hz.symm))
    all_goals go_ret
    first | exact ⟨_, rfl, h1, s1⟩ | exact ⟨_, h1, s1⟩ | exact ⟨rfl, _, h1, s1⟩
  have n0_114b : (c == 114) = false := by simpa using n0_114
  by_cases n0_116 : c = 116
  · subst n0_116
    have e1 : escQ σ 116 = σ.to 0 .str := by unfold escQ; rw [if_pos (by decide)]
    rw [e1]
    have hst := h.store 101
    have h1 := h.setQ .str
    have s1 := Stp.set b v w 0 (fv .str)
    clear h
    go_enter Tryz.func115, Tryz.ntmps115
    go_wp2_with (first | (go_at_call 97; refine (isW_any _ _).mono ?_; rintro e wz ⟨rfl, hz⟩; obtain rfl := hz.symm))
    all_goals go_ret
    first | exact ⟨_, rfl, h1, s1⟩ | exact ⟨_, h1, s1⟩ | exact ⟨rfl, _, h1, s1⟩
  have n0_116b : (c == 116) = false := by simpa using n0_116
  by_cases n0_92 : c = 92
  · subst n0_92
    have e1 : escQ σ 92 = σ.to 0 .str := by unfold escQ; rw [if_pos (by decide)]
    rw [e1]
    have hst := h.store 101
    have h1 := h.setQ .str
    have s1 := Stp.set b v w 0 (fv .str)
    clear h
    go_enter Tryz.func115, Tryz.ntmps115
    go_wp2_with (first | (go_at_call 97; refine (isW_any _ _).mono ?_; rintro e wz ⟨rfl, hz⟩; obtain rfl := hz.symm))
    all_goals go_ret
    first | exact ⟨_, rfl, h1, s1⟩ | exact ⟨_, h1, s1⟩ | exact ⟨rfl, _, h1, s1⟩
  have n0_92b : (c == 92) = false := by simpa using n0_92
  by_cases n0_47 : c = 47
  · subst n0_47
    have e1 : escQ σ 47 = σ.to 0 .str := by unfold escQ; rw [if_pos (by decide)]
    rw [e1]
    have hst := h.store 101
    have h1 := h.setQ .str
    have s1 := Stp.set b v w 0 (fv .str)
    clear h
    go_enter Tryz.func115, Tryz.ntmps115
    go_wp2_with (first | (go_at_call 97; refine (isW_any _ _).mono ?_; rintro e wz ⟨rfl, hz⟩; obtain rfl := hz.symm))
    all_goals go_ret
    first | exact ⟨_, rfl, h1, s1⟩ | exact ⟨_, h1, s1⟩ | exact ⟨rfl, _, h1, s1⟩
  have n0_47b : (c == 47) = false := by simpa using n0_47
  by_cases n0_34 : c = 34
  · subst n0_34
    have e1 : escQ σ 34 = σ.to 0 .str := by unfold escQ; rw [if_pos (by decide)]
    rw [e1]
    have hst := h.store 101
    have h1 := h.setQ .str
    have s1 := Stp.set b v w 0 (fv .str)
    clear h
    go_enter Tryz.func115, Tryz.ntmps115
    go_wp2_with (first | (go_at_call 97; refine (isW_any _ _).mono ?_; rintro e wz ⟨rfl, hz⟩; obtain rfl := hz.symm))
    all_goals go_ret
    first | exact ⟨_, rfl, h1, s1⟩ | exact ⟨_, h1, s1⟩ | exact ⟨rfl, _, h1, s1⟩
  have n0_34b : (c == 34) = false := by simpa using n0_34
  have n0 : ¬ (c = 98 ∨ c = 102 ∨ c = 110 ∨ c = 114 ∨ c = 116 ∨ c = 92 ∨ c = 47 ∨ c = 34) := by omega
  clear n0_98 n0_102 n0_110 n0_114 n0_116 n0_92 n0_47 n0_34
  by_cases n1 : c = 117
  · subst n1
    have e1 : escQ σ 117 = σ.to 0 .u0 := by unfold escQ; rw [if_neg n0]; rw [if_pos rfl]
    rw [e1]
    clear n0
    have hst := h.store 131
    have h1 := h.setQ .u0
    have s1 := Stp.set b v w 0 (fv .u0)
    clear h
    go_enter Tryz.func115, Tryz.ntmps115
    go_wp2_with (first | (go_at_call 97; refine (isW_any _ _).mono ?_; rintro e wz ⟨rfl, hz⟩; obtain rfl := hz.symm))
    all_goals go_ret
    first | exact ⟨_, rfl, h1, s1⟩ | exact ⟨_, h1, s1⟩ | exact ⟨rfl, _, h1, s1⟩
  have n1b : (c == 117) = false := by simpa using n1
  have e1 : escQ σ c = σ.err := by unfold escQ; rw [if_neg n0]; rw [if_neg n1]; first | done | rfl
  rw [e1]
  clear n0 n1
  go_enter Tryz.func115, Tryz.ntmps115
  go_wp2_with (first | (go_at_call 97; refine (isW_any _ _).mono ?_; rintro e wz ⟨rfl, hz⟩; obtain rfl := hz.symm) | (go_at_call 108; refine (error_any b B _ _ c _ (by decide) _ h hw).mono ?_; rintro e w2 ⟨rfl, hS, hP⟩))
  all_goals go_ret
  first | exact ⟨_, rfl, hS, hP⟩ | exact ⟨_, hS, hP⟩
set_option maxRecDepth 100000 in
set_option maxHeartbeats 2000000 in
theorem bvE_any (b B : Nat) (σ : Sc) (v : Value) (c : Int) (w : World) (h : IsS w b B σ v) (hw : B ≤ w.heap.size) (hl : σ.stk.length < 10000) :
    Calls Tryz.prog 100 #[.pointer (some ⟨b, 0, none⟩), .int .u8 c] w fun e w' => ∃ v', e = .returned (.int .i64 (bvEQ σ c).1) ∧ IsS w' b B (bvEQ σ c).2 v' ∧ Stp b v w v' w' := by
  cases hW : isW c
  case true =>
    have e1 : bvEQ σ c = (9, σ) := by unfold bvEQ; rw [hW]; rfl
    rw [e1]
    go_enter Tryz.func100, Tryz.ntmps100
    go_wp2_with (first | (go_at_call 97; refine (isW_any _ _).mono ?_; rintro e wz ⟨rfl, hz⟩; obtain rfl := hz.symm))
    all_goals go_ret
    first | exact ⟨_, rfl, h, Stp.refl _ _ _⟩ | exact ⟨_, h, Stp.refl _ _ _⟩
  by_cases n0 : c = 93
  · subst n0
    have e1 : bvEQ σ 93 = endQ σ 93 := by unfold bvEQ; rw [hW, if_neg (by decide)]; rw [if_pos rfl]
    rw [e1]
    go_enter Tryz.func100, Tryz.ntmps100
    go_wp2_with (first | (go_at_call 97; refine (isW_any _ _).mono ?_; rintro e wz ⟨rfl, hz⟩; obtain rfl := hz.symm) | (go_at_call 113; refine (end_any b B _ _ _ _ h hw).mono ?_; rintro e w2 ⟨v', rfl, hS, hP⟩))
    all_goals go_ret
    first | exact ⟨_, rfl, hS, hP⟩ | exact ⟨_, hS, hP⟩ | exact ⟨rfl, _, hS, hP⟩
  have n0b : (c == 93) = false := by simpa using n0
  have e1 : bvEQ σ c = bvQ σ c := by unfold bvEQ; rw [hW, if_neg (by decide)]; rw [if_neg n0]; first | done | rfl
  rw [e1]
  clear n0
  go_enter Tryz.func100, Tryz.ntmps100
  go_wp2_with (first | (go_at_call 97; refine (isW_any _ _).mono ?_; rintro e wz ⟨rfl, hz⟩; obtain rfl := hz.symm) | (go_at_call 89; refine (bv_any b B _ _ c _ h hw hl).mono ?_; rintro e w2 ⟨v', rfl, hS, hP⟩))
  all_goals go_ret
  first | exact ⟨_, rfl, hS, hP⟩ | exact ⟨_, hS, hP⟩ | exact ⟨rfl, _, hS, hP⟩
end Go.Proofs.YtjbffgjclnjkoaaGreatDoor
