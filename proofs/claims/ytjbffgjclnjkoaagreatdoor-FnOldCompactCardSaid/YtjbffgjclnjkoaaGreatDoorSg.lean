/- The scanner's states: beginning of a value, of a name; literals. -/
import Derived.Test.YtjbffgjclnjkoaaGreatDoorSf
namespace Go.Proofs.YtjbffgjclnjkoaaGreatDoor
set_option linter.unusedVariables false
set_option linter.unusedSimpArgs false
open Go.RowKit Go.Shelf

set_option maxRecDepth 100000 in
set_option maxHeartbeats 2000000 in
theorem bv_any (b B : Nat) (σ : Sc) (v : Value) (c : Int) (w : World) (h : IsS w b B σ v) (hw : B ≤ w.heap.size) (hl : σ.stk.length < 10000) :
    Calls Tryz.prog 89 #[.pointer (some ⟨b, 0, none⟩), .int .u8 c] w fun e w' => ∃ v', e = .returned (.int .i64 (bvQ σ c).1) ∧ IsS w' b B (bvQ σ c).2 v' ∧ Stp b v w v' w' := by
  cases hW : isW c
  case true =>
    have e1 : bvQ σ c = (9, σ) := by unfold bvQ; rw [hW]; rfl
    rw [e1]
    go_enter Tryz.func89, Tryz.ntmps89
    go_wp2_with (first | (go_at_call 97; refine (isW_any _ _).mono ?_; rintro e wz ⟨rfl, hz⟩; obtain rfl := hz.symm))
    all_goals go_ret
    first | exact ⟨_, rfl, h, Stp.refl _ _ _⟩ | exact ⟨_, h, Stp.refl _ _ _⟩
  by_cases n0 : c = 123
  · subst n0
    have e1 : bvQ σ 123 = (2, { σ.pushed 0 with q := .bsE }) := by unfold bvQ; rw [hW, if_neg (by decide)]; rw [if_pos rfl]
    rw [e1]
    have hst := h.store 98
    have h1 := h.setQ .bsE
    have s1 := Stp.set b v w 0 (fv .bsE)
    have h1' : IsS (w.setCell ⟨b, 0, none⟩ (.func (.func 98) #[] #[])) b B { σ with q := .bsE } v := h1
    have s1' : Stp b v w v (w.setCell ⟨b, 0, none⟩ (.func (.func 98) #[] #[])) := s1
    clear h1 s1 h
    go_enter Tryz.func89, Tryz.ntmps89
    go_upto_region 6 with (go_at_call 97; refine (isW_any _ _).mono ?_; rintro e wz ⟨rfl, hz⟩; obtain rfl := hz.symm)
    clear hst
    generalize w.setCell ⟨b, 0, none⟩ (.func (.func 98) #[] #[]) = w1 at h1' s1' ⊢
    have hpu := fun y x => push_any b B _ _ y 0 x w1 h1' (Nat.le_trans hw s1'.size) hl
    go_wp2_with (go_at_call 99; refine (hpu _ _).mono ?_; rintro e w2 ⟨rfl, v', hS, hP'⟩; have hP := s1'.trans hP')
    all_goals go_ret
    first | exact ⟨_, rfl, hS, hP⟩ | exact ⟨_, hS, hP⟩ | exact ⟨rfl, _, hS, hP⟩
  have n0b : (c == 123) = false := by simpa using n0
  by_cases n1 : c = 91
  · subst n1
    have e1 : bvQ σ 91 = (6, { σ.pushed 2 with q := .bvE }) := by unfold bvQ; rw [hW, if_neg (by decide)]; rw [if_neg n0]; rw [if_pos rfl]
    rw [e1]
    clear n0
    have hst := h.store 100
    have h1 := h.setQ .bvE
    have s1 := Stp.set b v w 0 (fv .bvE)
    have h1' : IsS (w.setCell ⟨b, 0, none⟩ (.func (.func 100) #[] #[])) b B { σ with q := .bvE } v := h1
    have s1' : Stp b v w v (w.setCell ⟨b, 0, none⟩ (.func (.func 100) #[] #[])) := s1
    clear h1 s1 h
    go_enter Tryz.func89, Tryz.ntmps89
    go_upto_region 9 with (go_at_call 97; refine (isW_any _ _).mono ?_; rintro e wz ⟨rfl, hz⟩; obtain rfl := hz.symm)
    clear hst
    generalize w.setCell ⟨b, 0, none⟩ (.func (.func 100) #[] #[]) = w1 at h1' s1' ⊢
    have hpu := fun y x => push_any b B _ _ y 2 x w1 h1' (Nat.le_trans hw s1'.size) hl
    go_wp2_with (go_at_call 99; refine (hpu _ _).mono ?_; rintro e w2 ⟨rfl, v', hS, hP'⟩; have hP := s1'.trans hP')
    all_goals go_ret
    first | exact ⟨_, rfl, hS, hP⟩ | exact ⟨_, hS, hP⟩ | exact ⟨rfl, _, hS, hP⟩
  have n1b : (c == 91) = false := by simpa using n1
  by_cases n2 : c = 34
  · subst n2
    have e1 : bvQ σ 34 = σ.to 1 .str := by unfold bvQ; rw [hW, if_neg (by decide)]; rw [if_neg n0]; rw [if_neg n1]; rw [if_pos rfl]
    rw [e1]
    clear n0 n1
    have hst := h.store 101
    have h1 := h.setQ .str
    have s1 := Stp.set b v w 0 (fv .str)
    clear h
    go_enter Tryz.func89, Tryz.ntmps89
    go_wp2_with (first | (go_at_call 97; refine (isW_any _ _).mono ?_; rintro e wz ⟨rfl, hz⟩; obtain rfl := hz.symm))
    all_goals go_ret
    first | exact ⟨_, rfl, h1, s1⟩ | exact ⟨_, h1, s1⟩ | exact ⟨rfl, _, h1, s1⟩
  have n2b : (c == 34) = false := by simpa using n2
  by_cases n3 : c = 45
  · subst n3
    have e1 : bvQ σ 45 = σ.to 1 .neg := by unfold bvQ; rw [hW, if_neg (by decide)]; rw [if_neg n0]; rw [if_neg n1]; rw [if_neg n2]; rw [if_pos rfl]
    rw [e1]
    clear n0 n1 n2
    have hst := h.store 102
    have h1 := h.setQ .neg
    have s1 := Stp.set b v w 0 (fv .neg)
    clear h
    go_enter Tryz.func89, Tryz.ntmps89
    go_wp2_with (first | (go_at_call 97; refine (isW_any _ _).mono ?_; rintro e wz ⟨rfl, hz⟩; obtain rfl := hz.symm))
    all_goals go_ret
    first | exact ⟨_, rfl, h1, s1⟩ | exact ⟨_, h1, s1⟩ | exact ⟨rfl, _, h1, s1⟩
  have n3b : (c == 45) = false := by simpa using n3
  by_cases n4 : c = 48
  · subst n4
    have e1 : bvQ σ 48 = σ.to 1 .s0 := by unfold bvQ; rw [hW, if_neg (by decide)]; rw [if_neg n0]; rw [if_neg n1]; rw [if_neg n2]; rw [if_neg n3]; rw [if_pos rfl]
    rw [e1]
    clear n0 n1 n2 n3
    have hst := h.store 103
    have h1 := h.setQ .s0
    have s1 := Stp.set b v w 0 (fv .s0)
    clear h
    go_enter Tryz.func89, Tryz.ntmps89
    go_wp2_with (first | (go_at_call 97; refine (isW_any _ _).mono ?_; rintro e wz ⟨rfl, hz⟩; obtain rfl := hz.symm))
    all_goals go_ret
    first | exact ⟨_, rfl, h1, s1⟩ | exact ⟨_, h1, s1⟩ | exact ⟨rfl, _, h1, s1⟩
  have n4b : (c == 48) = false := by simpa using n4
  by_cases n5 : c = 116
  · subst n5
    have e1 : bvQ σ 116 = σ.to 1 .t1 := by unfold bvQ; rw [hW, if_neg (by decide)]; rw [if_neg n0]; rw [if_neg n1]; rw [if_neg n2]; rw [if_neg n3]; rw [if_neg n4]; rw [if_pos rfl]
    rw [e1]
    clear n0 n1 n2 n3 n4
    have hst := h.store 104
    have h1 := h.setQ .t1
    have s1 := Stp.set b v w 0 (fv .t1)
    clear h
    go_enter Tryz.func89, Tryz.ntmps89
    go_wp2_with (first | (go_at_call 97; refine (isW_any _ _).mono ?_; rintro e wz ⟨rfl, hz⟩; obtain rfl := hz.symm))
    all_goals go_ret
    first | exact ⟨_, rfl, h1, s1⟩ | exact ⟨_, h1, s1⟩ | exact ⟨rfl, _, h1, s1⟩
  have n5b : (c == 116) = false := by simpa using n5
  by_cases n6 : c = 102
  · subst n6
    have e1 : bvQ σ 102 = σ.to 1 .f1 := by unfold bvQ; rw [hW, if_neg (by decide)]; rw [if_neg n0]; rw [if_neg n1]; rw [if_neg n2]; rw [if_neg n3]; rw [if_neg n4]; rw [if_neg n5]; rw [if_pos rfl]
    rw [e1]
    clear n0 n1 n2 n3 n4 n5
    have hst := h.store 105
    have h1 := h.setQ .f1
    have s1 := Stp.set b v w 0 (fv .f1)
    clear h
    go_enter Tryz.func89, Tryz.ntmps89
    go_wp2_with (first | (go_at_call 97; refine (isW_any _ _).mono ?_; rintro e wz ⟨rfl, hz⟩; obtain rfl := hz.symm))
    all_goals go_ret
    first | exact ⟨_, rfl, h1, s1⟩ | exact ⟨_, h1, s1⟩ | exact ⟨rfl, _, h1, s1⟩
  have n6b : (c == 102) = false := by simpa using n6
  by_cases n7 : c = 110
  · subst n7
    have e1 : bvQ σ 110 = σ.to 1 .n1 := by unfold bvQ; rw [hW, if_neg (by decide)]; rw [if_neg n0]; rw [if_neg n1]; rw [if_neg n2]; rw [if_neg n3]; rw [if_neg n4]; rw [if_neg n5]; rw [if_neg n6]; rw [if_pos rfl]
    rw [e1]
    clear n0 n1 n2 n3 n4 n5 n6
    have hst := h.store 106
    have h1 := h.setQ .n1
    have s1 := Stp.set b v w 0 (fv .n1)
    clear h
    go_enter Tryz.func89, Tryz.ntmps89
    go_wp2_with (first | (go_at_call 97; refine (isW_any _ _).mono ?_; rintro e wz ⟨rfl, hz⟩; obtain rfl := hz.symm))
    all_goals go_ret
    first | exact ⟨_, rfl, h1, s1⟩ | exact ⟨_, h1, s1⟩ | exact ⟨rfl, _, h1, s1⟩
  have n7b : (c == 110) = false := by simpa using n7
  by_cases n8 : (decide (49 ≤ c) && decide (c ≤ 57)) = true
  · have r1 : 49 ≤ c ∧ c ≤ 57 := by simpa using n8
    obtain ⟨r1, r2⟩ := r1
    have e1 : bvQ σ c = σ.to 1 .s1 := by unfold bvQ; rw [hW, if_neg (by decide)]; rw [if_neg n0]; rw [if_neg n1]; rw [if_neg n2]; rw [if_neg n3]; rw [if_neg n4]; rw [if_neg n5]; rw [if_neg n6]; rw [if_neg n7]; rw [if_pos n8]
    rw [e1]
    clear n0 n1 n2 n3 n4 n5 n6 n7 n8
    have d1 : decide (49 ≤ c) = true := decide_eq_true r1
    have d2 : decide (c ≤ 57) = true := decide_eq_true r2
    clear r1 r2
    have hst := h.store 107
    have h1 := h.setQ .s1
    have s1 := Stp.set b v w 0 (fv .s1)
    clear h
    go_enter Tryz.func89, Tryz.ntmps89
    go_wp2_with (first | (go_at_call 97; refine (isW_any _ _).mono ?_; rintro e wz ⟨rfl, hz⟩; obtain rfl := hz.symm))
    all_goals go_ret
    first | exact ⟨_, rfl, h1, s1⟩ | exact ⟨_, h1, s1⟩ | exact ⟨rfl, _, h1, s1⟩
  have n8r : c < 49 ∨ 57 < c := by have : ¬ (49 ≤ c ∧ c ≤ 57) := fun h => n8 (by simpa [digB] using h); omega
  have e1 : bvQ σ c = σ.err := by unfold bvQ; rw [hW, if_neg (by decide)]; rw [if_neg n0]; rw [if_neg n1]; rw [if_neg n2]; rw [if_neg n3]; rw [if_neg n4]; rw [if_neg n5]; rw [if_neg n6]; rw [if_neg n7]; rw [if_neg n8]; first | done | rfl
  rw [e1]
  rcases n8r with r1 | r1
  · have d1n8 : decide (49 ≤ c) = false := decide_eq_false (by omega)
    have d2n8 : decide (c ≤ 57) = true := decide_eq_true (by omega)
    clear r1
    clear n0 n1 n2 n3 n4 n5 n6 n7 n8
    go_enter Tryz.func89, Tryz.ntmps89
    go_wp2_with (first | (go_at_call 97; refine (isW_any _ _).mono ?_; rintro e wz ⟨rfl, hz⟩; obtain rfl := hz.symm) | (go_at_call 108; refine (error_any b B _ _ c _ (by decide) _ h hw).mono ?_; rintro e w2 ⟨rfl, hS, hP⟩))
    all_goals go_ret
    first | exact ⟨_, rfl, hS, hP⟩ | exact ⟨_, hS, hP⟩
  · have d1n8 : decide (49 ≤ c) = true := decide_eq_true (by omega)
    have d2n8 : decide (c ≤ 57) = false := decide_eq_false (by omega)
    clear r1
    clear n0 n1 n2 n3 n4 n5 n6 n7 n8
    go_enter Tryz.func89, Tryz.ntmps89
    go_wp2_with (first | (go_at_call 97; refine (isW_any _ _).mono ?_; rintro e wz ⟨rfl, hz⟩; obtain rfl := hz.symm) | (go_at_call 108; refine (error_any b B _ _ c _ (by decide) _ h hw).mono ?_; rintro e w2 ⟨rfl, hS, hP⟩))
    all_goals go_ret
    first | exact ⟨_, rfl, hS, hP⟩ | exact ⟨_, hS, hP⟩
set_option maxRecDepth 100000 in
set_option maxHeartbeats 2000000 in
theorem bs_any (b B : Nat) (σ : Sc) (v : Value) (c : Int) (w : World) (h : IsS w b B σ v) (hw : B ≤ w.heap.size) :
    Calls Tryz.prog 114 #[.pointer (some ⟨b, 0, none⟩), .int .u8 c] w fun e w' => ∃ v', e = .returned (.int .i64 (bsQ σ c).1) ∧ IsS w' b B (bsQ σ c).2 v' ∧ Stp b v w v' w' := by
  cases hW : isW c
  case true =>
    have e1 : bsQ σ c = (9, σ) := by unfold bsQ; rw [hW]; rfl
    rw [e1]
    go_enter Tryz.func114, Tryz.ntmps114
    go_wp2_with (first | (go_at_call 97; refine (isW_any _ _).mono ?_; rintro e wz ⟨rfl, hz⟩; obtain rfl := hz.symm))
    all_goals go_ret
    first | exact ⟨_, rfl, h, Stp.refl _ _ _⟩ | exact ⟨_, h, Stp.refl _ _ _⟩
  by_cases n0 : c = 34
  · subst n0
    have e1 : bsQ σ 34 = σ.to 1 .str := by unfold bsQ; rw [hW, if_neg (by decide)]; rw [if_pos rfl]
    rw [e1]
    have hst := h.store 101
    have h1 := h.setQ .str
    have s1 := Stp.set b v w 0 (fv .str)
    clear h
    go_enter Tryz.func114, Tryz.ntmps114
    go_wp2_with (first | (go_at_call 97; refine (isW_any _ _).mono ?_; rintro e wz ⟨rfl, hz⟩; obtain rfl := hz.symm))
    all_goals go_ret
    first | exact ⟨_, rfl, h1, s1⟩ | exact ⟨_, h1, s1⟩ | exact ⟨rfl, _, h1, s1⟩
  have n0b : (c == 34) = false := by simpa using n0
  have e1 : bsQ σ c = σ.err := by unfold bsQ; rw [hW, if_neg (by decide)]; rw [if_neg n0]; first | done | rfl
  rw [e1]
  clear n0
  go_enter Tryz.func114, Tryz.ntmps114
  go_wp2_with (first | (go_at_call 97; refine (isW_any _ _).mono ?_; rintro e wz ⟨rfl, hz⟩; obtain rfl := hz.symm) | (go_at_call 108; refine (error_any b B _ _ c _ (by decide) _ h hw).mono ?_; rintro e w2 ⟨rfl, hS, hP⟩))
  all_goals go_ret
  first | exact ⟨_, rfl, hS, hP⟩ | exact ⟨_, hS, hP⟩
set_option maxRecDepth 100000 in
set_option maxHeartbeats 2000000 in
theorem t1_any (b B : Nat) (σ : Sc) (v : Value) (c : Int) (w : World) (h : IsS w b B σ v) (hw : B ≤ w.heap.size) :
    Calls Tryz.prog 104 #[.pointer (some ⟨b, 0, none⟩), .int .u8 c] w fun e w' => ∃ v', e = .returned (.int .i64 (litQ σ c 114 .t2).1) ∧ IsS w' b B (litQ σ c 114 .t2).2 v' ∧ Stp b v w v' w' := by
  by_cases n0 : c = 114
  · subst n0
    have e1 : litQ σ 114 114 .t2 = σ.to 0 .t2 := by unfold litQ; rw [if_pos rfl]
    rw [e1]
    have hst := h.store 118
    have h1 := h.setQ .t2
    have s1 := Stp.set b v w 0 (fv .t2)
    clear h
    go_enter Tryz.func104, Tryz.ntmps104
    go_wp2_with (first | (go_at_call 97; refine (isW_any _ _).mono ?_; rintro e wz ⟨rfl, hz⟩; obtain rfl := hz.symm))
    all_goals go_ret
    first | exact ⟨_, rfl, h1, s1⟩ | exact ⟨_, h1, s1⟩ | exact ⟨rfl, _, h1, s1⟩
  have n0b : (c == 114) = false := by simpa using n0
  have e1 : litQ σ c 114 .t2 = σ.err := by unfold litQ; rw [if_neg n0]; first | done | rfl
  rw [e1]
  clear n0
  go_enter Tryz.func104, Tryz.ntmps104
  go_wp2_with (first | (go_at_call 97; refine (isW_any _ _).mono ?_; rintro e wz ⟨rfl, hz⟩; obtain rfl := hz.symm) | (go_at_call 108; refine (error_any b B _ _ c _ (by decide) _ h hw).mono ?_; rintro e w2 ⟨rfl, hS, hP⟩))
  all_goals go_ret
  first | exact ⟨_, rfl, hS, hP⟩ | exact ⟨_, hS, hP⟩
set_option maxRecDepth 100000 in
set_option maxHeartbeats 2000000 in
theorem t2_any (b B : Nat) (σ : Sc) (v : Value) (c : Int) (w : World) (h : IsS w b B σ v) (hw : B ≤ w.heap.size) :
    Calls Tryz.prog 118 #[.pointer (some ⟨b, 0, none⟩), .int .u8 c] w fun e w' => ∃ v', e = .returned (.int .i64 (litQ σ c 117 .t3).1) ∧ IsS w' b B (litQ σ c 117 .t3).2 v' ∧ Stp b v w v' w' := by
  by_cases n0 : c = 117
  · subst n0
    have e1 : litQ σ 117 117 .t3 = σ.to 0 .t3 := by unfold litQ; rw [if_pos rfl]
    rw [e1]
    have hst := h.store 134
    have h1 := h.setQ .t3
    have s1 := Stp.set b v w 0 (fv .t3)
    clear h
    go_enter Tryz.func118, Tryz.ntmps118
    go_wp2_with (first | (go_at_call 97; refine (isW_any _ _).mono ?_; rintro e wz ⟨rfl, hz⟩; obtain rfl := hz.symm))
    all_goals go_ret
    first | exact ⟨_, rfl, h1, s1⟩ | exact ⟨_, h1, s1⟩ | exact ⟨rfl, _, h1, s1⟩
  have n0b : (c == 117) = false := by simpa using n0
  have e1 : litQ σ c 117 .t3 = σ.err := by unfold litQ; rw [if_neg n0]; first | done | rfl
  rw [e1]
  clear n0
  go_enter Tryz.func118, Tryz.ntmps118
  go_wp2_with (first | (go_at_call 97; refine (isW_any _ _).mono ?_; rintro e wz ⟨rfl, hz⟩; obtain rfl := hz.symm) | (go_at_call 108; refine (error_any b B _ _ c _ (by decide) _ h hw).mono ?_; rintro e w2 ⟨rfl, hS, hP⟩))
  all_goals go_ret
  first | exact ⟨_, rfl, hS, hP⟩ | exact ⟨_, hS, hP⟩
set_option maxRecDepth 100000 in
set_option maxHeartbeats 2000000 in
theorem t3_any (b B : Nat) (σ : Sc) (v : Value) (c : Int) (w : World) (h : IsS w b B σ v) (hw : B ≤ w.heap.size) :
    Calls Tryz.prog 134 #[.pointer (some ⟨b, 0, none⟩), .int .u8 c] w fun e w' => ∃ v', e = .returned (.int .i64 (litQ σ c 101 .ev).1) ∧ IsS w' b B (litQ σ c 101 .ev).2 v' ∧ Stp b v w v' w' := by
  by_cases n0 : c = 101
  · subst n0
    have e1 : litQ σ 101 101 .ev = σ.to 0 .ev := by unfold litQ; rw [if_pos rfl]
    rw [e1]
    have hst := h.store 113
    have h1 := h.setQ .ev
    have s1 := Stp.set b v w 0 (fv .ev)
    clear h
    go_enter Tryz.func134, Tryz.ntmps134
    go_wp2_with (first | (go_at_call 97; refine (isW_any _ _).mono ?_; rintro e wz ⟨rfl, hz⟩; obtain rfl := hz.symm))
    all_goals go_ret
    first | exact ⟨_, rfl, h1, s1⟩ | exact ⟨_, h1, s1⟩ | exact ⟨rfl, _, h1, s1⟩
  have n0b : (c == 101) = false := by simpa using n0
  have e1 : litQ σ c 101 .ev = σ.err := by unfold litQ; rw [if_neg n0]; first | done | rfl
  rw [e1]
  clear n0
  go_enter Tryz.func134, Tryz.ntmps134
  go_wp2_with (first | (go_at_call 97; refine (isW_any _ _).mono ?_; rintro e wz ⟨rfl, hz⟩; obtain rfl := hz.symm) | (go_at_call 108; refine (error_any b B _ _ c _ (by decide) _ h hw).mono ?_; rintro e w2 ⟨rfl, hS, hP⟩))
  all_goals go_ret
  first | exact ⟨_, rfl, hS, hP⟩ | exact ⟨_, hS, hP⟩
set_option maxRecDepth 100000 in
set_option maxHeartbeats 2000000 in
theorem f1_any (b B : Nat) (σ : Sc) (v : Value) (c : Int) (w : World) (h : IsS w b B σ v) (hw : B ≤ w.heap.size) :
    Calls Tryz.prog 105 #[.pointer (some ⟨b, 0, none⟩), .int .u8 c] w fun e w' => ∃ v', e = .returned (.int .i64 (litQ σ c 97 .f2).1) ∧ IsS w' b B (litQ σ c 97 .f2).2 v' ∧ Stp b v w v' w' := by
  by_cases n0 : c = 97
  · subst n0
    have e1 : litQ σ 97 97 .f2 = σ.to 0 .f2 := by unfold litQ; rw [if_pos rfl]
    rw [e1]
    have hst := h.store 119
    have h1 := h.setQ .f2
    have s1 := Stp.set b v w 0 (fv .f2)
    clear h
    go_enter Tryz.func105, Tryz.ntmps105
    go_wp2_with (first | (go_at_call 97; refine (isW_any _ _).mono ?_; rintro e wz ⟨rfl, hz⟩; obtain rfl := hz.symm))
    all_goals go_ret
    first | exact ⟨_, rfl, h1, s1⟩ | exact ⟨_, h1, s1⟩ | exact ⟨rfl, _, h1, s1⟩
  have n0b : (c == 97) = false := by simpa using n0
  have e1 : litQ σ c 97 .f2 = σ.err := by unfold litQ; rw [if_neg n0]; first | done | rfl
  rw [e1]
  clear n0
  go_enter Tryz.func105, Tryz.ntmps105
  go_wp2_with (first | (go_at_call 97; refine (isW_any _ _).mono ?_; rintro e wz ⟨rfl, hz⟩; obtain rfl := hz.symm) | (go_at_call 108; refine (error_any b B _ _ c _ (by decide) _ h hw).mono ?_; rintro e w2 ⟨rfl, hS, hP⟩))
  all_goals go_ret
  first | exact ⟨_, rfl, hS, hP⟩ | exact ⟨_, hS, hP⟩
set_option maxRecDepth 100000 in
set_option maxHeartbeats 2000000 in
theorem f2_any (b B : Nat) (σ : Sc) (v : Value) (c : Int) (w : World) (h : IsS w b B σ v) (hw : B ≤ w.heap.size) :
    Calls Tryz.prog 119 #[.pointer (some ⟨b, 0, none⟩), .int .u8 c] w fun e w' => ∃ v', e = .returned (.int .i64 (litQ σ c 108 .f3).1) ∧ IsS w' b B (litQ σ c 108 .f3).2 v' ∧ Stp b v w v' w' := by
  by_cases n0 : c = 108
  · subst n0
    have e1 : litQ σ 108 108 .f3 = σ.to 0 .f3 := by unfold litQ; rw [if_pos rfl]
    rw [e1]
    have hst := h.store 135
    have h1 := h.setQ .f3
    have s1 := Stp.set b v w 0 (fv .f3)
    clear h
    go_enter Tryz.func119, Tryz.ntmps119
    go_wp2_with (first | (go_at_call 97; refine (isW_any _ _).mono ?_; rintro e wz ⟨rfl, hz⟩; obtain rfl := hz.symm))
    all_goals go_ret
    first | exact ⟨_, rfl, h1, s1⟩ | exact ⟨_, h1, s1⟩ | exact ⟨rfl, _, h1, s1⟩
  have n0b : (c == 108) = false := by simpa using n0
  have e1 : litQ σ c 108 .f3 = σ.err := by unfold litQ; rw [if_neg n0]; first | done | rfl
  rw [e1]
  clear n0
  go_enter Tryz.func119, Tryz.ntmps119
  go_wp2_with (first | (go_at_call 97; refine (isW_any _ _).mono ?_; rintro e wz ⟨rfl, hz⟩; obtain rfl := hz.symm) | (go_at_call 108; refine (error_any b B _ _ c _ (by decide) _ h hw).mono ?_; rintro e w2 ⟨rfl, hS, hP⟩))
  all_goals go_ret
  first | exact ⟨_, rfl, hS, hP⟩ | exact ⟨_, hS, hP⟩
set_option maxRecDepth 100000 in
set_option maxHeartbeats 2000000 in
theorem f3_any (b B : Nat) (σ : Sc) (v : Value) (c : Int) (w : World) (h : IsS w b B σ v) (hw : B ≤ w.heap.size) :
    Calls Tryz.prog 135 #[.pointer (some ⟨b, 0, none⟩), .int .u8 c] w fun e w' => ∃ v', e = .returned (.int .i64 (litQ σ c 115 .f4).1) ∧ IsS w' b B (litQ σ c 115 .f4).2 v' ∧ Stp b v w v' w' := by
  by_cases n0 : c = 115
  · subst n0
    have e1 : litQ σ 115 115 .f4 = σ.to 0 .f4 := by unfold litQ; rw [if_pos rfl]
    rw [e1]
    have hst := h.store 139
    have h1 := h.setQ .f4
    have s1 := Stp.set b v w 0 (fv .f4)
    clear h
    go_enter Tryz.func135, Tryz.ntmps135
    go_wp2_with (first | (go_at_call 97; refine (isW_any _ _).mono ?_; rintro e wz ⟨rfl, hz⟩; obtain rfl := hz.symm))
    all_goals go_ret
    first | exact ⟨_, rfl, h1, s1⟩ | exact ⟨_, h1, s1⟩ | exact ⟨rfl, _, h1, s1⟩
  have n0b : (c == 115) = false := by simpa using n0
  have e1 : litQ σ c 115 .f4 = σ.err := by unfold litQ; rw [if_neg n0]; first | done | rfl
  rw [e1]
  clear n0
  go_enter Tryz.func135, Tryz.ntmps135
  go_wp2_with (first | (go_at_call 97; refine (isW_any _ _).mono ?_; rintro e wz ⟨rfl, hz⟩; obtain rfl := hz.symm) | (go_at_call 108; refine (error_any b B _ _ c _ (by decide) _ h hw).mono ?_; rintro e w2 ⟨rfl, hS, hP⟩))
  all_goals go_ret
  first | exact ⟨_, rfl, hS, hP⟩ | exact ⟨_, hS, hP⟩
set_option maxRecDepth 100000 in
set_option maxHeartbeats 2000000 in
theorem f4_any (b B : Nat) (σ : Sc) (v : Value) (c : Int) (w : World) (h : IsS w b B σ v) (hw : B ≤ w.heap.size) :
    Calls Tryz.prog 139 #[.pointer (some ⟨b, 0, none⟩), .int .u8 c] w fun e w' => ∃ v', e = .returned (.int .i64 (litQ σ c 101 .ev).1) ∧ IsS w' b B (litQ σ c 101 .ev).2 v' ∧ Stp b v w v' w' := by
  by_cases n0 : c = 101
  · subst n0
    have e1 : litQ σ 101 101 .ev = σ.to 0 .ev := by unfold litQ; rw [if_pos rfl]
    rw [e1]
    have hst := h.store 113
    have h1 := h.setQ .ev
    have s1 := Stp.set b v w 0 (fv .ev)
    clear h
    go_enter Tryz.func139, Tryz.ntmps139
    go_wp2_with (first | (go_at_call 97; refine (isW_any _ _).mono ?_; rintro e wz ⟨rfl, hz⟩; obtain rfl := hz.symm))
    all_goals go_ret
    first | exact ⟨_, rfl, h1, s1⟩ | exact ⟨_, h1, s1⟩ | exact ⟨rfl, _, h1, s1⟩
  have n0b : (c == 101) = false := by simpa using n0
  have e1 : litQ σ c 101 .ev = σ.err := by unfold litQ; rw [if_neg n0]; first | done | rfl
  rw [e1]
  clear n0
  go_enter Tryz.func139, Tryz.ntmps139
  go_wp2_with (first | (go_at_call 97; refine (isW_any _ _).mono ?_; rintro e wz ⟨rfl, hz⟩; obtain rfl := hz.symm) | (go_at_call 108; refine (error_any b B _ _ c _ (by decide) _ h hw).mono ?_; rintro e w2 ⟨rfl, hS, hP⟩))
  all_goals go_ret
  first | exact ⟨_, rfl, hS, hP⟩ | exact ⟨_, hS, hP⟩
set_option maxRecDepth 100000 in
set_option maxHeartbeats 2000000 in
theorem n1_any (b B : Nat) (σ : Sc) (v : Value) (c : Int) (w : World) (h : IsS w b B σ v) (hw : B ≤ w.heap.size) :
    Calls Tryz.prog 106 #[.pointer (some ⟨b, 0, none⟩), .int .u8 c] w fun e w' => ∃ v', e = .returned (.int .i64 (litQ σ c 117 .n2).1) ∧ IsS w' b B (litQ σ c 117 .n2).2 v' ∧ Stp b v w v' w' := by
  by_cases n0 : c = 117
  · subst n0
    have e1 : litQ σ 117 117 .n2 = σ.to 0 .n2 := by unfold litQ; rw [if_pos rfl]
    rw [e1]
    have hst := h.store 120
    have h1 := h.setQ .n2
    have s1 := Stp.set b v w 0 (fv .n2)
    clear h
    go_enter Tryz.func106, Tryz.ntmps106
    go_wp2_with (first | (go_at_call 97; refine (isW_any _ _).mono ?_; rintro e wz ⟨rfl, hz⟩; obtain rfl := hz.symm))
    all_goals go_ret
    first | exact ⟨_, rfl, h1, s1⟩ | exact ⟨_, h1, s1⟩ | exact ⟨rfl, _, h1, s1⟩
  have n0b : (c == 117) = false := by simpa using n0
  have e1 : litQ σ c 117 .n2 = σ.err := by unfold litQ; rw [if_neg n0]; first | done | rfl
  rw [e1]
  clear n0
  go_enter Tryz.func106, Tryz.ntmps106
  go_wp2_with (first | (go_at_call 97; refine (isW_any _ _).mono ?_; rintro e wz ⟨rfl, hz⟩; obtain rfl := hz.symm) | (go_at_call 108; refine (error_any b B _ _ c _ (by decide) _ h hw).mono ?_; rintro e w2 ⟨rfl, hS, hP⟩))
  all_goals go_ret
  first | exact ⟨_, rfl, hS, hP⟩ | exact ⟨_, hS, hP⟩
set_option maxRecDepth 100000 in
set_option maxHeartbeats 2000000 in
theorem n2_any (b B : Nat) (σ : Sc) (v : Value) (c : Int) (w : World) (h : IsS w b B σ v) (hw : B ≤ w.heap.size) :
    Calls Tryz.prog 120 #[.pointer (some ⟨b, 0, none⟩), .int .u8 c] w fun e w' => ∃ v', e = .returned (.int .i64 (litQ σ c 108 .n3).1) ∧ IsS w' b B (litQ σ c 108 .n3).2 v' ∧ Stp b v w v' w' := by
  by_cases n0 : c = 108
  · subst n0
    have e1 : litQ σ 108 108 .n3 = σ.to 0 .n3 := by unfold litQ; rw [if_pos rfl]
    rw [e1]
    have hst := h.store 136
    have h1 := h.setQ .n3
    have s1 := Stp.set b v w 0 (fv .n3)
    clear h
    go_enter Tryz.func120, Tryz.ntmps120
    go_wp2_with (first | (go_at_call 97; refine (isW_any _ _).mono ?_; rintro e wz ⟨rfl, hz⟩; obtain rfl := hz.symm))
    all_goals go_ret
    first | exact ⟨_, rfl, h1, s1⟩ | exact ⟨_, h1, s1⟩ | exact ⟨rfl, _, h1, s1⟩
  have n0b : (c == 108) = false := by simpa using n0
  have e1 : litQ σ c 108 .n3 = σ.err := by unfold litQ; rw [if_neg n0]; first | done | rfl
  rw [e1]
  clear n0
  go_enter Tryz.func120, Tryz.ntmps120
  go_wp2_with (first | (go_at_call 97; refine (isW_any _ _).mono ?_; rintro e wz ⟨rfl, hz⟩; obtain rfl := hz.symm) | (go_at_call 108; refine (error_any b B _ _ c _ (by decide) _ h hw).mono ?_; rintro e w2 ⟨rfl, hS, hP⟩))
  all_goals go_ret
  first | exact ⟨_, rfl, hS, hP⟩ | exact ⟨_, hS, hP⟩
set_option maxRecDepth 100000 in
set_option maxHeartbeats 2000000 in
theorem n3_any (b B : Nat) (σ : Sc) (v : Value) (c : Int) (w : World) (h : IsS w b B σ v) (hw : B ≤ w.heap.size) :
    Calls Tryz.prog 136 #[.pointer (some ⟨b, 0, none⟩), .int .u8 c] w fun e w' => ∃ v', e = .returned (.int .i64 (litQ σ c 108 .ev).1) ∧ IsS w' b B (litQ σ c 108 .ev).2 v' ∧ Stp b v w v' w' := by
  by_cases n0 : c = 108
  · subst n0
    have e1 : litQ σ 108 108 .ev = σ.to 0 .ev := by unfold litQ; rw [if_pos rfl]
    rw [e1]
    have hst := h.store 113
    have h1 := h.setQ .ev
    have s1 := Stp.set b v w 0 (fv .ev)
    clear h
    go_enter Tryz.func136, Tryz.ntmps136
    go_wp2_with (first | (go_at_call 97; refine (isW_any _ _).mono ?_; rintro e wz ⟨rfl, hz⟩; obtain rfl := hz.symm))
    all_goals go_ret
    first | exact ⟨_, rfl, h1, s1⟩ | exact ⟨_, h1, s1⟩ | exact ⟨rfl, _, h1, s1⟩
  have n0b : (c == 108) = false := by simpa using n0
  have e1 : litQ σ c 108 .ev = σ.err := by unfold litQ; rw [if_neg n0]; first | done | rfl
  rw [e1]
  clear n0
  go_enter Tryz.func136, Tryz.ntmps136
  go_wp2_with (first | (go_at_call 97; refine (isW_any _ _).mono ?_; rintro e wz ⟨rfl, hz⟩; obtain rfl := hz.symm) | (go_at_call 108; refine (error_any b B _ _ c _ (by decide) _ h hw).mono ?_; rintro e w2 ⟨rfl, hS, hP⟩))
  all_goals go_ret
  first | exact ⟨_, rfl, hS, hP⟩ | exact ⟨_, hS, hP⟩
end Go.Proofs.YtjbffgjclnjkoaaGreatDoor
