/- The scanner's states: digits of an escape, a closing brace; one step. -/
import Derived.Test.YtjbffgjclnjkoaaGreatDoorSh
namespace Go.Proofs.YtjbffgjclnjkoaaGreatDoor
set_option linter.unusedVariables false
set_option linter.unusedSimpArgs false
open Go.RowKit Go.Shelf

set_option maxRecDepth 100000 in
set_option maxHeartbeats 2000000 in
theorem u0_any (b B : Nat) (σ : Sc) (v : Value) (c : Int) (w : World) (h : IsS w b B σ v) (hw : B ≤ w.heap.size) :
    Calls Tryz.prog 131 #[.pointer (some ⟨b, 0, none⟩), .int .u8 c] w fun e w' => ∃ v', e = .returned (.int .i64 (hexQ σ c .u1).1) ∧ IsS w' b B (hexQ σ c .u1).2 v' ∧ Stp b v w v' w' := by
  have hcl : c < 48 ∨ (48 ≤ c ∧ c ≤ 57) ∨ (57 < c ∧ c < 65) ∨ (65 ≤ c ∧ c ≤ 70) ∨ (70 < c ∧ c < 97) ∨ (97 ≤ c ∧ c ≤ 102) ∨ 102 < c := by omega
  rcases hcl with x | ⟨x, y⟩ | ⟨x, y⟩ | ⟨x, y⟩ | ⟨x, y⟩ | ⟨x, y⟩ | x
  · have l48 : decide (48 ≤ c) = false := decide_eq_false (by omega)
    have u57 : decide (c ≤ 57) = true := decide_eq_true (by omega)
    have l65 : decide (65 ≤ c) = false := decide_eq_false (by omega)
    have u70 : decide (c ≤ 70) = true := decide_eq_true (by omega)
    have l97 : decide (97 ≤ c) = false := decide_eq_false (by omega)
    have u102 : decide (c ≤ 102) = true := decide_eq_true (by omega)
    have e1 : hexQ σ c .u1 = σ.err := by unfold hexQ hexB digB; rw [l48, u57, l65, u70, l97, u102]; rfl
    rw [e1]
    try clear y
    clear x
    go_enter Tryz.func131, Tryz.ntmps131
    go_wp2_with (first | (go_at_call 97; refine (isW_any _ _).mono ?_; rintro e wz ⟨rfl, hz⟩; obtain rfl := hz.symm) | (go_at_call 108; refine (error_any b B _ _ c _ (by decide) _ h hw).mono ?_; rintro e w2 ⟨rfl, hS, hP⟩))
    all_goals go_ret
    first | exact ⟨_, rfl, hS, hP⟩ | exact ⟨_, hS, hP⟩
  · have l48 : decide (48 ≤ c) = true := decide_eq_true (by omega)
    have u57 : decide (c ≤ 57) = true := decide_eq_true (by omega)
    have l65 : decide (65 ≤ c) = false := decide_eq_false (by omega)
    have u70 : decide (c ≤ 70) = true := decide_eq_true (by omega)
    have l97 : decide (97 ≤ c) = false := decide_eq_false (by omega)
    have u102 : decide (c ≤ 102) = true := decide_eq_true (by omega)
    have e1 : hexQ σ c .u1 = σ.to 0 .u1 := by unfold hexQ hexB digB; rw [l48, u57, l65, u70, l97, u102]; rfl
    rw [e1]
    try clear y
    clear x
    have hst := h.store 137
    have h1 := h.setQ .u1
    have s1 := Stp.set b v w 0 (fv .u1)
    clear h
    go_enter Tryz.func131, Tryz.ntmps131
    go_wp2_with (first | (go_at_call 97; refine (isW_any _ _).mono ?_; rintro e wz ⟨rfl, hz⟩; obtain rfl := hz.symm))
    all_goals go_ret
    first | exact ⟨_, rfl, h1, s1⟩ | exact ⟨_, h1, s1⟩ | exact ⟨rfl, _, h1, s1⟩
  · have l48 : decide (48 ≤ c) = true := decide_eq_true (by omega)
    have u57 : decide (c ≤ 57) = false := decide_eq_false (by omega)
    have l65 : decide (65 ≤ c) = false := decide_eq_false (by omega)
    have u70 : decide (c ≤ 70) = true := decide_eq_true (by omega)
    have l97 : decide (97 ≤ c) = false := decide_eq_false (by omega)
    have u102 : decide (c ≤ 102) = true := decide_eq_true (by omega)
    have e1 : hexQ σ c .u1 = σ.err := by unfold hexQ hexB digB; rw [l48, u57, l65, u70, l97, u102]; rfl
    rw [e1]
    try clear y
    clear x
    go_enter Tryz.func131, Tryz.ntmps131
    go_wp2_with (first | (go_at_call 97; refine (isW_any _ _).mono ?_; rintro e wz ⟨rfl, hz⟩; obtain rfl := hz.symm) | (go_at_call 108; refine (error_any b B _ _ c _ (by decide) _ h hw).mono ?_; rintro e w2 ⟨rfl, hS, hP⟩))
    all_goals go_ret
    first | exact ⟨_, rfl, hS, hP⟩ | exact ⟨_, hS, hP⟩
  · have l48 : decide (48 ≤ c) = true := decide_eq_true (by omega)
    have u57 : decide (c ≤ 57) = false := decide_eq_false (by omega)
    have l65 : decide (65 ≤ c) = true := decide_eq_true (by omega)
    have u70 : decide (c ≤ 70) = true := decide_eq_true (by omega)
    have l97 : decide (97 ≤ c) = false := decide_eq_false (by omega)
    have u102 : decide (c ≤ 102) = true := decide_eq_true (by omega)
    have e1 : hexQ σ c .u1 = σ.to 0 .u1 := by unfold hexQ hexB digB; rw [l48, u57, l65, u70, l97, u102]; rfl
    rw [e1]
    try clear y
    clear x
    have hst := h.store 137
    have h1 := h.setQ .u1
    have s1 := Stp.set b v w 0 (fv .u1)
    clear h
    go_enter Tryz.func131, Tryz.ntmps131
    go_wp2_with (first | (go_at_call 97; refine (isW_any _ _).mono ?_; rintro e wz ⟨rfl, hz⟩; obtain rfl := hz.symm))
    all_goals go_ret
    first | exact ⟨_, rfl, h1, s1⟩ | exact ⟨_, h1, s1⟩ | exact ⟨rfl, _, h1, s1⟩
  · have l48 : decide (48 ≤ c) = true := decide_eq_true (by omega)
    have u57 : decide (c ≤ 57) = false := decide_eq_false (by omega)
    have l65 : decide (65 ≤ c) = true := decide_eq_true (by omega)
    have u70 : decide (c ≤ 70) = false := decide_eq_false (by omega)
    have l97 : decide (97 ≤ c) = false := decide_eq_false (by omega)
    have u102 : decide (c ≤ 102) = true := decide_eq_true (by omega)
    have e1 : hexQ σ c .u1 = σ.err := by unfold hexQ hexB digB; rw [l48, u57, l65, u70, l97, u102]; rfl
    rw [e1]
    try clear y
    clear x
    go_enter Tryz.func131, Tryz.ntmps131
    go_wp2_with (first | (go_at_call 97; refine (isW_any _ _).mono ?_; rintro e wz ⟨rfl, hz⟩; obtain rfl := hz.symm) | (go_at_call 108; refine (error_any b B _ _ c _ (by decide) _ h hw).mono ?_; rintro e w2 ⟨rfl, hS, hP⟩))
    all_goals go_ret
    first | exact ⟨_, rfl, hS, hP⟩ | exact ⟨_, hS, hP⟩
  · have l48 : decide (48 ≤ c) = true := decide_eq_true (by omega)
    have u57 : decide (c ≤ 57) = false := decide_eq_false (by omega)
    have l65 : decide (65 ≤ c) = true := decide_eq_true (by omega)
    have u70 : decide (c ≤ 70) = false := decide_eq_false (by omega)
    have l97 : decide (97 ≤ c) = true := decide_eq_true (by omega)
    have u102 : decide (c ≤ 102) = true := decide_eq_true (by omega)
    have e1 : hexQ σ c .u1 = σ.to 0 .u1 := by unfold hexQ hexB digB; rw [l48, u57, l65, u70, l97, u102]; rfl
    rw [e1]
    try clear y
    clear x
    have hst := h.store 137
    have h1 := h.setQ .u1
    have s1 := Stp.set b v w 0 (fv .u1)
    clear h
    go_enter Tryz.func131, Tryz.ntmps131
    go_wp2_with (first | (go_at_call 97; refine (isW_any _ _).mono ?_; rintro e wz ⟨rfl, hz⟩; obtain rfl := hz.symm))
    all_goals go_ret
    first | exact ⟨_, rfl, h1, s1⟩ | exact ⟨_, h1, s1⟩ | exact ⟨rfl, _, h1, s1⟩
  · have l48 : decide (48 ≤ c) = true := decide_eq_true (by omega)
    have u57 : decide (c ≤ 57) = false := decide_eq_false (by omega)
    have l65 : decide (65 ≤ c) = true := decide_eq_true (by omega)
    have u70 : decide (c ≤ 70) = false := decide_eq_false (by omega)
    have l97 : decide (97 ≤ c) = true := decide_eq_true (by omega)
    have u102 : decide (c ≤ 102) = false := decide_eq_false (by omega)
    have e1 : hexQ σ c .u1 = σ.err := by unfold hexQ hexB digB; rw [l48, u57, l65, u70, l97, u102]; rfl
    rw [e1]
    try clear y
    clear x
    go_enter Tryz.func131, Tryz.ntmps131
    go_wp2_with (first | (go_at_call 97; refine (isW_any _ _).mono ?_; rintro e wz ⟨rfl, hz⟩; obtain rfl := hz.symm) | (go_at_call 108; refine (error_any b B _ _ c _ (by decide) _ h hw).mono ?_; rintro e w2 ⟨rfl, hS, hP⟩))
    all_goals go_ret
    first | exact ⟨_, rfl, hS, hP⟩ | exact ⟨_, hS, hP⟩

set_option maxRecDepth 100000 in
set_option maxHeartbeats 2000000 in
theorem u1_any (b B : Nat) (σ : Sc) (v : Value) (c : Int) (w : World) (h : IsS w b B σ v) (hw : B ≤ w.heap.size) :
    Calls Tryz.prog 137 #[.pointer (some ⟨b, 0, none⟩), .int .u8 c] w fun e w' => ∃ v', e = .returned (.int .i64 (hexQ σ c .u2).1) ∧ IsS w' b B (hexQ σ c .u2).2 v' ∧ Stp b v w v' w' := by
  have hcl : c < 48 ∨ (48 ≤ c ∧ c ≤ 57) ∨ (57 < c ∧ c < 65) ∨ (65 ≤ c ∧ c ≤ 70) ∨ (70 < c ∧ c < 97) ∨ (97 ≤ c ∧ c ≤ 102) ∨ 102 < c := by omega
  rcases hcl with x | ⟨x, y⟩ | ⟨x, y⟩ | ⟨x, y⟩ | ⟨x, y⟩ | ⟨x, y⟩ | x
  · have l48 : decide (48 ≤ c) = false := decide_eq_false (by omega)
    have u57 : decide (c ≤ 57) = true := decide_eq_true (by omega)
    have l65 : decide (65 ≤ c) = false := decide_eq_false (by omega)
    have u70 : decide (c ≤ 70) = true := decide_eq_true (by omega)
    have l97 : decide (97 ≤ c) = false := decide_eq_false (by omega)
    have u102 : decide (c ≤ 102) = true := decide_eq_true (by omega)
    have e1 : hexQ σ c .u2 = σ.err := by unfold hexQ hexB digB; rw [l48, u57, l65, u70, l97, u102]; rfl
    rw [e1]
    try clear y
    clear x
    go_enter Tryz.func137, Tryz.ntmps137
    go_wp2_with (first | (go_at_call 97; refine (isW_any _ _).mono ?_; rintro e wz ⟨rfl, hz⟩; obtain rfl := hz.symm) | (go_at_call 108; refine (error_any b B _ _ c _ (by decide) _ h hw).mono ?_; rintro e w2 ⟨rfl, hS, hP⟩))
    all_goals go_ret
    first | exact ⟨_, rfl, hS, hP⟩ | exact ⟨_, hS, hP⟩
  · have l48 : decide (48 ≤ c) = true := decide_eq_true (by omega)
    have u57 : decide (c ≤ 57) = true := decide_eq_true (by omega)
    have l65 : decide (65 ≤ c) = false := decide_eq_false (by omega)
    have u70 : decide (c ≤ 70) = true := decide_eq_true (by omega)
    have l97 : decide (97 ≤ c) = false := decide_eq_false (by omega)
    have u102 : decide (c ≤ 102) = true := decide_eq_true (by omega)
    have e1 : hexQ σ c .u2 = σ.to 0 .u2 := by unfold hexQ hexB digB; rw [l48, u57, l65, u70, l97, u102]; rfl
    rw [e1]
    try clear y
    clear x
    have hst := h.store 140
    have h1 := h.setQ .u2
    have s1 := Stp.set b v w 0 (fv .u2)
    clear h
    go_enter Tryz.func137, Tryz.ntmps137
    go_wp2_with (first | (go_at_call 97; refine (isW_any _ _).mono ?_; rintro e wz ⟨rfl, hz⟩; obtain rfl := hz.symm))
    all_goals go_ret
    first | exact ⟨_, rfl, h1, s1⟩ | exact ⟨_, h1, s1⟩ | exact ⟨rfl, _, h1, s1⟩
  · have l48 : decide (48 ≤ c) = true := decide_eq_true (by omega)
    have u57 : decide (c ≤ 57) = false := decide_eq_false (by omega)
    have l65 : decide (65 ≤ c) = false := decide_eq_false (by omega)
    have u70 : decide (c ≤ 70) = true := decide_eq_true (by omega)
    have l97 : decide (97 ≤ c) = false := decide_eq_false (by omega)
    have u102 : decide (c ≤ 102) = true := decide_eq_true (by omega)
    have e1 : hexQ σ c .u2 = σ.err := by unfold hexQ hexB digB; rw [l48, u57, l65, u70, l97, u102]; rfl
    rw [e1]
    try clear y
    clear x
    go_enter Tryz.func137, Tryz.ntmps137
    go_wp2_with (first | (go_at_call 97; refine (isW_any _ _).mono ?_; rintro e wz ⟨rfl, hz⟩; obtain rfl := hz.symm) | (go_at_call 108; refine (error_any b B _ _ c _ (by decide) _ h hw).mono ?_; rintro e w2 ⟨rfl, hS, hP⟩))
    all_goals go_ret
    first | exact ⟨_, rfl, hS, hP⟩ | exact ⟨_, hS, hP⟩
  · have l48 : decide (48 ≤ c) = true := decide_eq_true (by omega)
    have u57 : decide (c ≤ 57) = false := decide_eq_false (by omega)
    have l65 : decide (65 ≤ c) = true := decide_eq_true (by omega)
    have u70 : decide (c ≤ 70) = true := decide_eq_true (by omega)
    have l97 : decide (97 ≤ c) = false := decide_eq_false (by omega)
    have u102 : decide (c ≤ 102) = true := decide_eq_true (by omega)
    have e1 : hexQ σ c .u2 = σ.to 0 .u2 := by unfold hexQ hexB digB; rw [l48, u57, l65, u70, l97, u102]; rfl
    rw [e1]
    try clear y
    clear x
    have hst := h.store 140
    have h1 := h.setQ .u2
    have s1 := Stp.set b v w 0 (fv .u2)
    clear h
    go_enter Tryz.func137, Tryz.ntmps137
    go_wp2_with (first | (go_at_call 97; refine (isW_any _ _).mono ?_; rintro e wz ⟨rfl, hz⟩; obtain rfl := hz.symm))
    all_goals go_ret
    first | exact ⟨_, rfl, h1, s1⟩ | exact ⟨_, h1, s1⟩ | exact ⟨rfl, _, h1, s1⟩
  · have l48 : decide (48 ≤ c) = true := decide_eq_true (by omega)
    have u57 : decide (c ≤ 57) = false := decide_eq_false (by omega)
    have l65 : decide (65 ≤ c) = true := decide_eq_true (by omega)
    have u70 : decide (c ≤ 70) = false := decide_eq_false (by omega)
    have l97 : decide (97 ≤ c) = false := decide_eq_false (by omega)
    have u102 : decide (c ≤ 102) = true := decide_eq_true (by omega)
    have e1 : hexQ σ c .u2 = σ.err := by unfold hexQ hexB digB; rw [l48, u57, l65, u70, l97, u102]; rfl
    rw [e1]
    try clear y
    clear x
    go_enter Tryz.func137, Tryz.ntmps137
    go_wp2_with (first | (go_at_call 97; refine (isW_any _ _).mono ?_; rintro e wz ⟨rfl, hz⟩; obtain rfl := hz.symm) | (go_at_call 108; refine (error_any b B _ _ c _ (by decide) _ h hw).mono ?_; rintro e w2 ⟨rfl, hS, hP⟩))
    all_goals go_ret
    first | exact ⟨_, rfl, hS, hP⟩ | exact ⟨_, hS, hP⟩
  · have l48 : decide (48 ≤ c) = true := decide_eq_true (by omega)
    have u57 : decide (c ≤ 57) = false := decide_eq_false (by omega)
    have l65 : decide (65 ≤ c) = true := decide_eq_true (by omega)
    have u70 : decide (c ≤ 70) = false := decide_eq_false (by omega)
    have l97 : decide (97 ≤ c) = true := decide_eq_true (by omega)
    have u102 : decide (c ≤ 102) = true := decide_eq_true (by omega)
    have e1 : hexQ σ c .u2 = σ.to 0 .u2 := by unfold hexQ hexB digB; rw [l48, u57, l65, u70, l97, u102]; rfl
    rw [e1]
    try clear y
    clear x
    have hst := h.store 140
    have h1 := h.setQ .u2
    have s1 := Stp.set b v w 0 (fv .u2)
    clear h
    go_enter Tryz.func137, Tryz.ntmps137
    go_wp2_with (first | (go_at_call 97; refine (isW_any _ _).mono ?_; rintro e wz ⟨rfl, hz⟩; obtain rfl := hz.symm))
    all_goals go_ret
    first | exact ⟨_, rfl, h1, s1⟩ | exact ⟨_, h1, s1⟩ | exact ⟨rfl, _, h1, s1⟩
  · have l48 : decide (48 ≤ c) = true := decide_eq_true (by omega)
    have u57 : decide (c ≤ 57) = false := decide_eq_false (by omega)
    have l65 : decide (65 ≤ c) = true := decide_eq_true (by omega)
    have u70 : decide (c ≤ 70) = false := decide_eq_false (by omega)
    have l97 : decide (97 ≤ c) = true := decide_eq_true (by omega)
    have u102 : decide (c ≤ 102) = false := decide_eq_false (by omega)
    have e1 : hexQ σ c .u2 = σ.err := by unfold hexQ hexB digB; rw [l48, u57, l65, u70, l97, u102]; rfl
    rw [e1]
    try clear y
    clear x
    go_enter Tryz.func137, Tryz.ntmps137
    go_wp2_with (first | (go_at_call 97; refine (isW_any _ _).mono ?_; rintro e wz ⟨rfl, hz⟩; obtain rfl := hz.symm) | (go_at_call 108; refine (error_any b B _ _ c _ (by decide) _ h hw).mono ?_; rintro e w2 ⟨rfl, hS, hP⟩))
    all_goals go_ret
    first | exact ⟨_, rfl, hS, hP⟩ | exact ⟨_, hS, hP⟩

set_option maxRecDepth 100000 in
set_option maxHeartbeats 2000000 in
theorem u2_any (b B : Nat) (σ : Sc) (v : Value) (c : Int) (w : World) (h : IsS w b B σ v) (hw : B ≤ w.heap.size) :
    Calls Tryz.prog 140 #[.pointer (some ⟨b, 0, none⟩), .int .u8 c] w fun e w' => ∃ v', e = .returned (.int .i64 (hexQ σ c .u3).1) ∧ IsS w' b B (hexQ σ c .u3).2 v' ∧ Stp b v w v' w' := by
  have hcl : c < 48 ∨ (48 ≤ c ∧ c ≤ 57) ∨ (57 < c ∧ c < 65) ∨ (65 ≤ c ∧ c ≤ 70) ∨ (70 < c ∧ c < 97) ∨ (97 ≤ c ∧ c ≤ 102) ∨ 102 < c := by omega
  rcases hcl with x | ⟨x, y⟩ | ⟨x, y⟩ | ⟨x, y⟩ | ⟨x, y⟩ | ⟨x, y⟩ | x
  · have l48 : decide (48 ≤ c) = false := decide_eq_false (by omega)
    have u57 : decide (c ≤ 57) = true := decide_eq_true (by omega)
    have l65 : decide (65 ≤ c) = false := decide_eq_false (by omega)
    have u70 : decide (c ≤ 70) = true := decide_eq_true (by omega)
    have l97 : decide (97 ≤ c) = false := decide_eq_false (by omega)
    have u102 : decide (c ≤ 102) = true := decide_eq_true (by omega)
    have e1 : hexQ σ c .u3 = σ.err := by unfold hexQ hexB digB; rw [l48, u57, l65, u70, l97, u102]; rfl
    rw [e1]
    try clear y
    clear x
    go_enter Tryz.func140, Tryz.ntmps140
    go_wp2_with (first | (go_at_call 97; refine (isW_any _ _).mono ?_; rintro e wz ⟨rfl, hz⟩; obtain rfl := hz.symm) | (go_at_call 108; refine (error_any b B _ _ c _ (by decide) _ h hw).mono ?_; rintro e w2 ⟨rfl, hS, hP⟩))
    all_goals go_ret
    first | exact ⟨_, rfl, hS, hP⟩ | exact ⟨_, hS, hP⟩
  · have l48 : decide (48 ≤ c) = true := decide_eq_true (by omega)
    have u57 : decide (c ≤ 57) = true := decide_eq_true (by omega)
    have l65 : decide (65 ≤ c) = false := decide_eq_false (by omega)
    have u70 : decide (c ≤ 70) = true := decide_eq_true (by omega)
    have l97 : decide (97 ≤ c) = false := decide_eq_false (by omega)
    have u102 : decide (c ≤ 102) = true := decide_eq_true (by omega)
    have e1 : hexQ σ c .u3 = σ.to 0 .u3 := by unfold hexQ hexB digB; rw [l48, u57, l65, u70, l97, u102]; rfl
    rw [e1]
    try clear y
    clear x
    have hst := h.store 141
    have h1 := h.setQ .u3
    have s1 := Stp.set b v w 0 (fv .u3)
    clear h
    go_enter Tryz.func140, Tryz.ntmps140
    go_wp2_with (first | (go_at_call 97; refine (isW_any _ _).mono ?_; rintro e wz ⟨rfl, hz⟩; obtain rfl := hz.symm))
    all_goals go_ret
    first | exact ⟨_, rfl, h1, s1⟩ | exact ⟨_, h1, s1⟩ | exact ⟨rfl, _, h1, s1⟩
  · have l48 : decide (48 ≤ c) = true := decide_eq_true (by omega)
    have u57 : decide (c ≤ 57) = false := decide_eq_false (by omega)
    have l65 : decide (65 ≤ c) = false := decide_eq_false (by omega)
    have u70 : decide (c ≤ 70) = true := decide_eq_true (by omega)
    have l97 : decide (97 ≤ c) = false := decide_eq_false (by omega)
    have u102 : decide (c ≤ 102) = true := decide_eq_true (by omega)
    have e1 : hexQ σ c .u3 = σ.err := by unfold hexQ hexB digB; rw [l48, u57, l65, u70, l97, u102]; rfl
    rw [e1]
    try clear y
    clear x
    go_enter Tryz.func140, Tryz.ntmps140
    go_wp2_with (first | (go_at_call 97; refine (isW_any _ _).mono ?_; rintro e wz ⟨rfl, hz⟩; obtain rfl := hz.symm) | (go_at_call 108; refine (error_any b B _ _ c _ (by decide) _ h hw).mono ?_; rintro e w2 ⟨rfl, hS, hP⟩))
    all_goals go_ret
    first | exact ⟨_, rfl, hS, hP⟩ | exact ⟨_, hS, hP⟩
  · have l48 : decide (48 ≤ c) = true := decide_eq_true (by omega)
    have u57 : decide (c ≤ 57) = false := decide_eq_false (by omega)
    have l65 : decide (65 ≤ c) = true := decide_eq_true (by omega)
    have u70 : decide (c ≤ 70) = true := decide_eq_true (by omega)
    have l97 : decide (97 ≤ c) = false := decide_eq_false (by omega)
    have u102 : decide (c ≤ 102) = true := decide_eq_true (by omega)
    have e1 : hexQ σ c .u3 = σ.to 0 .u3 := by unfold hexQ hexB digB; rw [l48, u57, l65, u70, l97, u102]; rfl
    rw [e1]
    try clear y
    clear x
    have hst := h.store 141
    have h1 := h.setQ .u3
    have s1 := Stp.set b v w 0 (fv .u3)
    clear h
    go_enter Tryz.func140, Tryz.ntmps140
    go_wp2_with (first | (go_at_call 97; refine (isW_any _ _).mono ?_; rintro e wz ⟨rfl, hz⟩; obtain rfl := hz.symm))
    all_goals go_ret
    first | exact ⟨_, rfl, h1, s1⟩ | exact ⟨_, h1, s1⟩ | exact ⟨rfl, _, h1, s1⟩
  · have l48 : decide (48 ≤ c) = true := decide_eq_true (by omega)
    have u57 : decide (c ≤ 57) = false := decide_eq_false (by omega)
    have l65 : decide (65 ≤ c) = true := decide_eq_true (by omega)
    have u70 : decide (c ≤ 70) = false := decide_eq_false (by omega)
    have l97 : decide (97 ≤ c) = false := decide_eq_false (by omega)
    have u102 : decide (c ≤ 102) = true := decide_eq_true (by omega)
    have e1 : hexQ σ c .u3 = σ.err := by unfold hexQ hexB digB; rw [l48, u57, l65, u70, l97, u102]; rfl
    rw [e1]
    try clear y
    clear x
    go_enter Tryz.func140, Tryz.ntmps140
    go_wp2_with (first | (go_at_call 97; refine (isW_any _ _).mono ?_; rintro e wz ⟨rfl, hz⟩; obtain rfl := hz.symm) | (go_at_call 108; refine (error_any b B _ _ c _ (by decide) _ h hw).mono ?_; rintro e w2 ⟨rfl, hS, hP⟩))
    all_goals go_ret
    first | exact ⟨_, rfl, hS, hP⟩ | exact ⟨_, hS, hP⟩
  · have l48 : decide (48 ≤ c) = true := decide_eq_true (by omega)
    have u57 : decide (c ≤ 57) = false := decide_eq_false (by omega)
    have l65 : decide (65 ≤ c) = true := decide_eq_true (by omega)
    have u70 : decide (c ≤ 70) = false := decide_eq_false (by omega)
    have l97 : decide (97 ≤ c) = true := decide_eq_true (by omega)
    have u102 : decide (c ≤ 102) = true := decide_eq_true (by omega)
    have e1 : hexQ σ c .u3 = σ.to 0 .u3 := by unfold hexQ hexB digB; rw [l48, u57, l65, u70, l97, u102]; rfl
    rw [e1]
    try clear y
    clear x
    have hst := h.store 141
    have h1 := h.setQ .u3
    have s1 := Stp.set b v w 0 (fv .u3)
    clear h
    go_enter Tryz.func140, Tryz.ntmps140
    go_wp2_with (first | (go_at_call 97; refine (isW_any _ _).mono ?_; rintro e wz ⟨rfl, hz⟩; obtain rfl := hz.symm))
    all_goals go_ret
    first | exact ⟨_, rfl, h1, s1⟩ | exact ⟨_, h1, s1⟩ | exact ⟨rfl, _, h1, s1⟩
  · have l48 : decide (48 ≤ c) = true := decide_eq_true (by omega)
    have u57 : decide (c ≤ 57) = false := decide_eq_false (by omega)
    have l65 : decide (65 ≤ c) = true := decide_eq_true (by omega)
    have u70 : decide (c ≤ 70) = false := decide_eq_false (by omega)
    have l97 : decide (97 ≤ c) = true := decide_eq_true (by omega)
    have u102 : decide (c ≤ 102) = false := decide_eq_false (by omega)
    have e1 : hexQ σ c .u3 = σ.err := by unfold hexQ hexB digB; rw [l48, u57, l65, u70, l97, u102]; rfl
    rw [e1]
    try clear y
    clear x
    go_enter Tryz.func140, Tryz.ntmps140
    go_wp2_with (first | (go_at_call 97; refine (isW_any _ _).mono ?_; rintro e wz ⟨rfl, hz⟩; obtain rfl := hz.symm) | (go_at_call 108; refine (error_any b B _ _ c _ (by decide) _ h hw).mono ?_; rintro e w2 ⟨rfl, hS, hP⟩))
    all_goals go_ret
    first | exact ⟨_, rfl, hS, hP⟩ | exact ⟨_, hS, hP⟩

set_option maxRecDepth 100000 in
set_option maxHeartbeats 2000000 in
theorem u3_any (b B : Nat) (σ : Sc) (v : Value) (c : Int) (w : World) (h : IsS w b B σ v) (hw : B ≤ w.heap.size) :
    Calls Tryz.prog 141 #[.pointer (some ⟨b, 0, none⟩), .int .u8 c] w fun e w' => ∃ v', e = .returned (.int .i64 (hexQ σ c .str).1) ∧ IsS w' b B (hexQ σ c .str).2 v' ∧ Stp b v w v' w' := by
  have hcl : c < 48 ∨ (48 ≤ c ∧ c ≤ 57) ∨ (57 < c ∧ c < 65) ∨ (65 ≤ c ∧ c ≤ 70) ∨ (70 < c ∧ c < 97) ∨ (97 ≤ c ∧ c ≤ 102) ∨ 102 < c := by omega
  rcases hcl with x | ⟨x, y⟩ | ⟨x, y⟩ | ⟨x, y⟩ | ⟨x, y⟩ | ⟨x, y⟩ | x
  · have l48 : decide (48 ≤ c) = false := decide_eq_false (by omega)
    have u57 : decide (c ≤ 57) = true := decide_eq_true (by omega)
    have l65 : decide (65 ≤ c) = false := decide_eq_false (by omega)
    have u70 : decide (c ≤ 70) = true := decide_eq_true (by omega)
    have l97 : decide (97 ≤ c) = false := decide_eq_false (by omega)
    have u102 : decide (c ≤ 102) = true := decide_eq_true (by omega)
    have e1 : hexQ σ c .str = σ.err := by unfold hexQ hexB digB; rw [l48, u57, l65, u70, l97, u102]; rfl
    rw [e1]
    try clear y
    clear x
    go_enter Tryz.func141, Tryz.ntmps141
    go_wp2_with (first | (go_at_call 97; refine (isW_any _ _).mono ?_; rintro e wz ⟨rfl, hz⟩; obtain rfl := hz.symm) | (go_at_call 108; refine (error_any b B _ _ c _ (by decide) _ h hw).mono ?_; rintro e w2 ⟨rfl, hS, hP⟩))
    all_goals go_ret
    first | exact ⟨_, rfl, hS, hP⟩ | exact ⟨_, hS, hP⟩
  · have l48 : decide (48 ≤ c) = true := decide_eq_true (by omega)
    have u57 : decide (c ≤ 57) = true := decide_eq_true (by omega)
    have l65 : decide (65 ≤ c) = false := decide_eq_false (by omega)
    have u70 : decide (c ≤ 70) = true := decide_eq_true (by omega)
    have l97 : decide (97 ≤ c) = false := decide_eq_false (by omega)
    have u102 : decide (c ≤ 102) = true := decide_eq_true (by omega)
    have e1 : hexQ σ c .str = σ.to 0 .str := by unfold hexQ hexB digB; rw [l48, u57, l65, u70, l97, u102]; rfl
    rw [e1]
    try clear y
    clear x
    have hst := h.store 101
    have h1 := h.setQ .str
    have s1 := Stp.set b v w 0 (fv .str)
    clear h
    go_enter Tryz.func141, Tryz.ntmps141
    go_wp2_with (first | (go_at_call 97; refine (isW_any _ _).mono ?_; rintro e wz ⟨rfl, hz⟩; obtain rfl := hz.symm))
    all_goals go_ret
    first | exact ⟨_, rfl, h1, s1⟩ | exact ⟨_, h1, s1⟩ | exact ⟨rfl, _, h1, s1⟩
  · have l48 : decide (48 ≤ c) = true := decide_eq_true (by omega)
    have u57 : decide (c ≤ 57) = false := decide_eq_false (by omega)
    have l65 : decide (65 ≤ c) = false := decide_eq_false (by omega)
    have u70 : decide (c ≤ 70) = true := decide_eq_true (by omega)
    have l97 : decide (97 ≤ c) = false := decide_eq_false (by omega)
    have u102 : decide (c ≤ 102) = true := decide_eq_true (by omega)
    have e1 : hexQ σ c .str = σ.err := by unfold hexQ hexB digB; rw [l48, u57, l65, u70, l97, u102]; rfl
    rw [e1]
    try clear y
    clear x
    go_enter Tryz.func141, Tryz.ntmps141
    go_wp2_with (first | (go_at_call 97; refine (isW_any _ _).mono ?_; rintro e wz ⟨rfl, hz⟩; obtain rfl := hz.symm) | (go_at_call 108; refine (error_any b B _ _ c _ (by decide) _ h hw).mono ?_; rintro e w2 ⟨rfl, hS, hP⟩))
    all_goals go_ret
    first | exact ⟨_, rfl, hS, hP⟩ | exact ⟨_, hS, hP⟩
  · have l48 : decide (48 ≤ c) = true := decide_eq_true (by omega)
    have u57 : decide (c ≤ 57) = false := decide_eq_false (by omega)
    have l65 : decide (65 ≤ c) = true := decide_eq_true (by omega)
    have u70 : decide (c ≤ 70) = true := decide_eq_true (by omega)
    have l97 : decide (97 ≤ c) = false := decide_eq_false (by omega)
    have u102 : decide (c ≤ 102) = true := decide_eq_true (by omega)
    have e1 : hexQ σ c .str = σ.to 0 .str := by unfold hexQ hexB digB; rw [l48, u57, l65, u70, l97, u102]; rfl
    rw [e1]
    try clear y
    clear x
    have hst := h.store 101
    have h1 := h.setQ .str
    have s1 := Stp.set b v w 0 (fv .str)
    clear h
    go_enter Tryz.func141, Tryz.ntmps141
    go_wp2_with (first | (go_at_call 97; refine (isW_any _ _).mono ?_; rintro e wz ⟨rfl, hz⟩; obtain rfl := hz.symm))
    all_goals go_ret
    first | exact ⟨_, rfl, h1, s1⟩ | exact ⟨_, h1, s1⟩ | exact ⟨rfl, _, h1, s1⟩
  · have l48 : decide (48 ≤ c) = true := decide_eq_true (by omega)
    have u57 : decide (c ≤ 57) = false := decide_eq_false (by omega)
    have l65 : decide (65 ≤ c) = true := decide_eq_true (by omega)
    have u70 : decide (c ≤ 70) = false := decide_eq_false (by omega)
    have l97 : decide (97 ≤ c) = false := decide_eq_false (by omega)
    have u102 : decide (c ≤ 102) = true := decide_eq_true (by omega)
    have e1 : hexQ σ c .str = σ.err := by unfold hexQ hexB digB; rw [l48, u57, l65, u70, l97, u102]; rfl
    rw [e1]
    try clear y
    clear x
    go_enter Tryz.func141, Tryz.ntmps141
    go_wp2_with (first | (go_at_call 97; refine (isW_any _ _).mono ?_; rintro e wz ⟨rfl, hz⟩; obtain rfl := hz.symm) | (go_at_call 108; refine (error_any b B _ _ c _ (by decide) _ h hw).mono ?_; rintro e w2 ⟨rfl, hS, hP⟩))
    all_goals go_ret
    first | exact ⟨_, rfl, hS, hP⟩ | exact ⟨_, hS, hP⟩
  · have l48 : decide (48 ≤ c) = true := decide_eq_true (by omega)
    have u57 : decide (c ≤ 57) = false := decide_eq_false (by omega)
    have l65 : decide (65 ≤ c) = true := decide_eq_true (by omega)
    have u70 : decide (c ≤ 70) = false := decide_eq_false (by omega)
    have l97 : decide (97 ≤ c) = true := decide_eq_true (by omega)
    have u102 : decide (c ≤ 102) = true := decide_eq_true (by omega)
    have e1 : hexQ σ c .str = σ.to 0 .str := by unfold hexQ hexB digB; rw [l48, u57, l65, u70, l97, u102]; rfl
    rw [e1]
    try clear y
    clear x
    have hst := h.store 101
    have h1 := h.setQ .str
    have s1 := Stp.set b v w 0 (fv .str)
    clear h
    go_enter Tryz.func141, Tryz.ntmps141
    go_wp2_with (first | (go_at_call 97; refine (isW_any _ _).mono ?_; rintro e wz ⟨rfl, hz⟩; obtain rfl := hz.symm))
    all_goals go_ret
    first | exact ⟨_, rfl, h1, s1⟩ | exact ⟨_, h1, s1⟩ | exact ⟨rfl, _, h1, s1⟩
  · have l48 : decide (48 ≤ c) = true := decide_eq_true (by omega)
    have u57 : decide (c ≤ 57) = false := decide_eq_false (by omega)
    have l65 : decide (65 ≤ c) = true := decide_eq_true (by omega)
    have u70 : decide (c ≤ 70) = false := decide_eq_false (by omega)
    have l97 : decide (97 ≤ c) = true := decide_eq_true (by omega)
    have u102 : decide (c ≤ 102) = false := decide_eq_false (by omega)
    have e1 : hexQ σ c .str = σ.err := by unfold hexQ hexB digB; rw [l48, u57, l65, u70, l97, u102]; rfl
    rw [e1]
    try clear y
    clear x
    go_enter Tryz.func141, Tryz.ntmps141
    go_wp2_with (first | (go_at_call 97; refine (isW_any _ _).mono ?_; rintro e wz ⟨rfl, hz⟩; obtain rfl := hz.symm) | (go_at_call 108; refine (error_any b B _ _ c _ (by decide) _ h hw).mono ?_; rintro e w2 ⟨rfl, hS, hP⟩))
    all_goals go_ret
    first | exact ⟨_, rfl, hS, hP⟩ | exact ⟨_, hS, hP⟩

set_option maxRecDepth 100000 in
set_option maxHeartbeats 2000000 in
theorem bsE_any (b B : Nat) (σ : Sc) (v : Value) (c : Int) (w : World) (h : IsS w b B σ v) (hw : B ≤ w.heap.size) (hne : σ.stk ≠ []) :
    Calls Tryz.prog 98 #[.pointer (some ⟨b, 0, none⟩), .int .u8 c] w fun e w' => ∃ v', e = .returned (.int .i64 (bsEQ σ c).1) ∧ IsS w' b B (bsEQ σ c).2 v' ∧ Stp b v w v' w' := by
  cases hW : isW c
  case true =>
    have e1 : bsEQ σ c = (9, σ) := by unfold bsEQ; rw [hW]; rfl
    rw [e1]
    go_enter Tryz.func98, Tryz.ntmps98
    go_wp2_with (first | (go_at_call 97; refine (isW_any _ _).mono ?_; rintro e wz ⟨rfl, hz⟩; obtain rfl := hz.symm))
    all_goals go_ret
    first | exact ⟨_, rfl, h, Stp.refl _ _ _⟩ | exact ⟨_, h, Stp.refl _ _ _⟩
  by_cases n0 : c = 125
  · subst n0
    obtain ⟨q, top, stk, bad⟩ := σ
    cases stk with
    | nil => exact absurd rfl hne
    | cons k r =>
      have e1 : bsEQ ⟨q, top, k :: r, bad⟩ 125 = endQ ⟨q, top, 1 :: r, bad⟩ 125 := rfl
      rw [e1]
      obtain ⟨g, cap, rfl, hc1, hc2⟩ := h.form (k := k) (r := r) rfl
      have hcI : (cap : Int) ≤ 9223372036854775807 := by unfold maxLen at hc2; omega
      have hh := h.setHead (k := k) (r := r) rfl 1
      obtain ⟨m, hm⟩ : ∃ m, r.length = m := ⟨_, rfl⟩
      rw [hm] at h hc1 hh ⊢
      obtain ⟨ck, cf, hH, sH⟩ := hh
      have hmI : (0 : Int) ≤ (m : Int) := by omega
      have hmc : (m : Int) + 1 ≤ (cap : Int) := by omega
      obtain ⟨e, n, _, _, _, c2, _, _, _⟩ := h.cells
      clear hc1 hc2 hm hne h
      go_enter Tryz.func98, Tryz.ntmps98
      go_upto_region 6 with (go_at_call 97; refine (isW_any _ _).mono ?_; rintro e wz ⟨rfl, hz⟩; obtain rfl := hz.symm)
      clear ck cf c2
      generalize w.setCell ⟨g, m, none⟩ (.int .i64 1) = w1 at hH sH ⊢
      have hn := end_any b B _ _ 125 w1 hH (Nat.le_trans hw sH.size)
      go_wp2_with (go_at_call 113; refine hn.mono ?_; rintro e w2 ⟨v', rfl, hS, hP'⟩; have hP := sH.trans hP')
      all_goals go_ret
      first | exact ⟨_, rfl, hS, hP⟩ | exact ⟨_, hS, hP⟩ | exact ⟨rfl, _, hS, hP⟩
  · have n0b : (c == 125) = false := by simpa using n0
    have e1 : bsEQ σ c = bsQ σ c := by unfold bsEQ; rw [hW, if_neg (by decide), if_neg n0]
    rw [e1]
    clear n0
    go_enter Tryz.func98, Tryz.ntmps98
    go_wp2_with (first | (go_at_call 97; refine (isW_any _ _).mono ?_; rintro e wz ⟨rfl, hz⟩; obtain rfl := hz.symm) | (go_at_call 114; refine (bs_any b B _ _ c _ h hw).mono ?_; rintro e w2 ⟨v', rfl, hS, hP⟩))
    all_goals go_ret
    first | exact ⟨_, rfl, hS, hP⟩ | exact ⟨_, hS, hP⟩ | exact ⟨rfl, _, hS, hP⟩

set_option maxRecDepth 100000 in
set_option maxHeartbeats 2000000 in
theorem er_any (b B : Nat) (σ : Sc) (v : Value) (c : Int) (w : World) (h : IsS w b B σ v) (hw : B ≤ w.heap.size) :
    Calls Tryz.prog 121 #[.pointer (some ⟨b, 0, none⟩), .int .u8 c] w fun e w' => ∃ v', e = .returned (.int .i64 (((11, σ) : Int × Sc)).1) ∧ IsS w' b B (((11, σ) : Int × Sc)).2 v' ∧ Stp b v w v' w' := by
  go_enter Tryz.func121, Tryz.ntmps121
  go_wp2_with (first | (go_at_call 97; refine (isW_any _ _).mono ?_; rintro e wz ⟨rfl, hz⟩; obtain rfl := hz.symm))
  all_goals go_ret
  first | exact ⟨_, rfl, h, Stp.refl _ _ _⟩ | exact ⟨_, h, Stp.refl _ _ _⟩

/-- One step of the scanner. -/
theorem step_any (b B : Nat) (σ : Sc) (v : Value) (c : Int) (w : World) (h : IsS w b B σ v) (hw : B ≤ w.heap.size) (hl : σ.stk.length < 10000) (hne : σ.q = .bsE → σ.stk ≠ []) :
    Calls Tryz.prog (fnQ σ.q) #[.pointer (some ⟨b, 0, none⟩), .int .u8 c] w fun e w' => ∃ v', e = .returned (.int .i64 (stepQ σ c).1) ∧ IsS w' b B (stepQ σ c).2 v' ∧ Stp b v w v' w' := by
  obtain ⟨q, top, stk, bad⟩ := σ
  cases q
  · exact bv_any b B _ v c w h hw hl
  · exact bvE_any b B _ v c w h hw hl
  · exact bsE_any b B _ v c w h hw (hne rfl)
  · exact bs_any b B _ v c w h hw
  · exact end_any b B _ v c w h hw
  · exact top_any b B _ v c w h hw
  · exact str_any b B _ v c w h hw
  · exact esc_any b B _ v c w h hw
  · exact u0_any b B _ v c w h hw
  · exact u1_any b B _ v c w h hw
  · exact u2_any b B _ v c w h hw
  · exact u3_any b B _ v c w h hw
  · exact neg_any b B _ v c w h hw
  · exact s1_any b B _ v c w h hw
  · exact s0_any b B _ v c w h hw
  · exact dot_any b B _ v c w h hw
  · exact dot0_any b B _ v c w h hw
  · exact ee_any b B _ v c w h hw
  · exact esg_any b B _ v c w h hw
  · exact e0_any b B _ v c w h hw
  · exact t1_any b B _ v c w h hw
  · exact t2_any b B _ v c w h hw
  · exact t3_any b B _ v c w h hw
  · exact f1_any b B _ v c w h hw
  · exact f2_any b B _ v c w h hw
  · exact f3_any b B _ v c w h hw
  · exact f4_any b B _ v c w h hw
  · exact n1_any b B _ v c w h hw
  · exact n2_any b B _ v c w h hw
  · exact n3_any b B _ v c w h hw
  · exact er_any b B _ v c w h hw

end Go.Proofs.YtjbffgjclnjkoaaGreatDoor
