/- Joined texts: Gq, Gs, Gn, Gv, Gp, Iw. -/
import Derived.Test.YtjbffgjclnjkoaaGreatDoorJr
import Derived.Test.YtjbffgjclnjkoaaGreatDoorSv
namespace Go.Proofs.YtjbffgjclnjkoaaGreatDoor
set_option linter.unusedVariables false
set_option linter.unusedSimpArgs false
section
/- (Gq) The reader of the reference and the scanner of encoding/json go together: the plain mathematics. -/
/-- The scanner goes over the bytes from a place to another one without a fault. -/
inductive RunQ (s : ByteArray) : Nat → Sc → Nat → Sc → Prop
  | refl {a A} : RunQ s a A a A
  | step {a A a' A'} : a < s.size → (stepQ A (bAt s a)).1 ≠ 11 → (stepQ A (bAt s a)).2.bad = false → RunQ s (a + 1) (stepQ A (bAt s a)).2 a' A' → RunQ s a A a' A'
namespace RunQ
variable {s : ByteArray}
theorem trans {a b c : Nat} {A B C : Sc} (h : RunQ s a A b B) (k : RunQ s b B c C) : RunQ s a A c C := by
  induction h with
  | refl => exact k
  | step h1 h2 h3 _ ih => exact .step h1 h2 h3 (ih k)
theorem one {a : Nat} {A : Sc} {k : Int} {B : Sc} (h : a < s.size) (e : stepQ A (bAt s a) = (k, B)) (hk : k ≠ 11) (hb : B.bad = false) : RunQ s a A (a + 1) B := by
  have h1 : (stepQ A (bAt s a)).1 ≠ 11 := by rw [e]; exact hk
  have h2 : (stepQ A (bAt s a)).2.bad = false := by rw [e]; exact hb
  have := RunQ.step (a' := a + 1) (A' := (stepQ A (bAt s a)).2) h h1 h2 .refl
  rw [e] at this
  exact this
end RunQ
/-- The scanner comes to its fault here. -/
def Dead (s : ByteArray) (a : Nat) (A : Sc) : Prop :=
  (a < s.size ∧ ((stepQ A (bAt s a)).1 = 11 ∨ (stepQ A (bAt s a)).2.bad = true)) ∨ (a = s.size ∧ (eofQ A).1 = 11)
/-- A value has ended. -/
structure EndA (s : ByteArray) (a : Nat) (A : Sc) (K : List Int) : Prop where
  bad : A.bad = false
  stk : A.stk = K
  nx : a < s.size → stepQ A (bAt s a) = endQ A (bAt s a)
  eof : stepQ A 32 = endQ A 32
  top : A.top = true → K = []
theorem isW_sp (c : Int) : isW c = isSp c := by
  unfold isW isSp
  rw [Bool.eq_iff_iff]
  simp
  omega
theorem dead_err {s : ByteArray} {a : Nat} {A : Sc} (ha : a < s.size) (h : stepQ A (bAt s a) = A.err) : Dead s a A := .inl ⟨ha, .inl (by rw [h]; rfl)⟩
theorem dead_end {s : ByteArray} {a : Nat} {A : Sc} (ha : a = s.size) (ht : (stepQ A 32).2.top = false) (ht0 : A.top = false) : Dead s a A := by
  refine .inr ⟨ha, ?_⟩
  unfold eofQ
  cases hb : A.bad
  · rw [if_neg (by decide), ht0, if_neg (by decide), ht, if_neg (by decide)]
  · rfl
theorem sp_step {s : ByteArray} {n : Nat} {σ : St} (h : σ.at_ < s.size ∧ isSp (bAt s σ.at_) = true) : St.space s (n + 1) σ = St.space s n { σ with at_ := σ.at_ + 1 } := by
  rw [St.space, if_pos h]
theorem sp_stop {s : ByteArray} {n : Nat} {σ : St} (h : ¬ (σ.at_ < s.size ∧ isSp (bAt s σ.at_) = true)) : St.space s (n + 1) σ = σ := by
  rw [St.space, if_neg h]
/-- What white space ends with. -/
theorem sp_spec (s : ByteArray) : ∀ (n : Nat) (σ : St), σ.at_ ≤ s.size → s.size - σ.at_ ≤ n → (St.space s n σ).at_ ≤ s.size ∧ σ.at_ ≤ (St.space s n σ).at_ ∧ (St.space s n σ).fault = σ.fault ∧ ((St.space s n σ).at_ < s.size → isSp (bAt s (St.space s n σ).at_) = false)
  | 0, σ, h, hn => ⟨h, Nat.le_refl _, rfl, fun hlt => by exfalso; simp only [St.space] at hlt; omega⟩
  | n + 1, σ, h, hn => by
    by_cases hc : σ.at_ < s.size ∧ isSp (bAt s σ.at_) = true
    · rw [sp_step hc]
      have := sp_spec s n { σ with at_ := σ.at_ + 1 } (by simp; omega) (by simp; omega)
      obtain ⟨h1, h2, h3, h4⟩ := this
      exact ⟨h1, by simp at h2; omega, h3, h4⟩
    · rw [sp_stop hc]
      refine ⟨h, Nat.le_refl _, rfl, fun hlt => ?_⟩
      cases hb : isSp (bAt s σ.at_)
      · rfl
      · exact absurd ⟨hlt, hb⟩ hc
/-- A state that stays over white space. -/
theorem sp_run (s : ByteArray) (A : Sc) (hb : A.bad = false) (hA : ∀ c, isW c = true → stepQ A c = (9, A) ∨ stepQ A c = (10, A)) : ∀ (n : Nat) (σ : St), RunQ s σ.at_ A (St.space s n σ).at_ A
  | 0, σ => .refl
  | n + 1, σ => by
    by_cases hc : σ.at_ < s.size ∧ isSp (bAt s σ.at_) = true
    · rw [sp_step hc]
      refine RunQ.trans ?_ (sp_run s A hb hA n { σ with at_ := σ.at_ + 1 })
      rcases hA (bAt s σ.at_) (by rw [isW_sp]; exact hc.2) with e | e
      · exact .one hc.1 e (by decide) hb
      · exact .one hc.1 e (by decide) hb
    · rw [sp_stop hc]; exact .refl
/-- Behind a value's end. -/
theorem endA_sp {s : ByteArray} {K : List Int} {A : Sc} {σ : St} (ha : σ.at_ ≤ s.size) (h : EndA s σ.at_ A K) : ∃ B, RunQ s σ.at_ A (St.sp s σ).at_ B ∧ EndA s (St.sp s σ).at_ B K ∧ (isSp (bAt s (St.sp s σ).at_) = false ∨ (St.sp s σ).at_ = s.size) ∧ (St.sp s σ).at_ ≤ s.size ∧ (St.sp s σ).fault = σ.fault := by
  have hs := sp_spec s (s.size - σ.at_) σ ha (Nat.le_refl _)
  have hsp : isSp (bAt s (St.sp s σ).at_) = false ∨ (St.sp s σ).at_ = s.size := by
    by_cases hl : (St.sp s σ).at_ < s.size
    · exact .inl (hs.2.2.2 hl)
    · exact .inr (by have := hs.1; unfold St.sp at hl ⊢; omega)
  by_cases hc : σ.at_ < s.size ∧ isSp (bAt s σ.at_) = true
  · -- one space at least: the state is that of a value's end
    have hw : isW (bAt s σ.at_) = true := by rw [isW_sp]; exact hc.2
    obtain ⟨B, hB, hBE⟩ : ∃ B : Sc, (stepQ A (bAt s σ.at_) = (9, B) ∨ stepQ A (bAt s σ.at_) = (10, B)) ∧ (B.bad = false ∧ B.stk = K ∧ (∀ c, stepQ B c = endQ B c) ∧ (B.top = true → K = []) ∧ ∀ c, isW c = true → stepQ B c = (9, B) ∨ stepQ B c = (10, B)) := by
      rw [h.nx hc.1]
      obtain ⟨q, t, k, d⟩ := A
      have hk := h.stk
      have hd := h.bad
      dsimp only at hk hd
      subst hk hd
      cases k with
      | nil =>
        refine ⟨⟨.et, true, [], false⟩, .inr ?_, rfl, rfl, fun c => rfl, fun _ => rfl, fun c hc => .inr ?_⟩
        · show topQ _ _ = _
          unfold topQ
          rw [if_pos hw]
        · show topQ _ _ = _
          unfold topQ
          rw [if_pos hc]
      | cons x r =>
        have ht : t = false := by
          cases t
          · rfl
          · exact absurd (h.top rfl) (by simp)
        subst ht
        refine ⟨⟨.ev, false, x :: r, false⟩, .inl ?_, rfl, rfl, fun c => rfl, fun h => (by cases h), fun c hc => .inl ?_⟩
        · unfold endQ
          dsimp only
          rw [if_pos hw]
          rfl
        · show endQ (⟨.ev, false, x :: r, false⟩ : Sc) c = _
          unfold endQ
          dsimp only
          rw [if_pos hc]
          rfl
    obtain ⟨b1, b2, b3, b4, b5⟩ := hBE
    have hr1 : RunQ s σ.at_ A (σ.at_ + 1) B := by
      rcases hB with e | e
      · exact .one hc.1 e (by decide) b1
      · exact .one hc.1 e (by decide) b1
    have hn : s.size - σ.at_ = (s.size - (σ.at_ + 1)) + 1 := by omega
    have hsp2 : St.sp s σ = St.space s (s.size - (σ.at_ + 1)) { σ with at_ := σ.at_ + 1 } := by unfold St.sp; rw [hn, sp_step hc]
    refine ⟨B, ?_, ⟨b1, b2, fun _ => b3 _, b3 _, b4⟩, hsp, hs.1, hs.2.2.1⟩
    rw [hsp2]
    exact hr1.trans (sp_run s B b1 b5 _ { σ with at_ := σ.at_ + 1 })
  · have hsp2 : St.sp s σ = σ := by
      unfold St.sp
      cases hn : s.size - σ.at_ with
      | zero => rfl
      | succ n => exact sp_stop hc
    rw [hsp2] at hsp ⊢
    exact ⟨A, .refl, h, hsp, ha, rfl⟩
/-- An object or an array has ended. -/
theorem endA_pop {s : ByteArray} {a : Nat} {A : Sc} {k : Int} {K : List Int} (hb : A.bad = false) (hs : A.stk = k :: K) (ht : A.top = false) : EndA s a A.pop K ∧ A.pop.bad = false := by
  obtain ⟨q, t, S, d⟩ := A
  dsimp only at hb hs ht
  subst hb hs ht
  cases K with
  | nil => exact ⟨⟨rfl, rfl, fun _ => rfl, rfl, fun _ => rfl⟩, rfl⟩
  | cons x r => exact ⟨⟨rfl, rfl, fun _ => rfl, rfl, fun h => (by cases h)⟩, rfl⟩
theorem endA_top {s : ByteArray} {a : Nat} {A : Sc} {k : Int} {K : List Int} (h : EndA s a A (k :: K)) : A.top = false := by
  cases ht : A.top
  · rfl
  · exact absurd (h.top ht) (by simp)
/-- What comes behind a value in an array. -/
theorem arr_close {s : ByteArray} {a : Nat} {A : Sc} {K : List Int} (h : EndA s a A (2 :: K)) (ha : a < s.size) (hc : bAt s a = 93) : ∃ B, RunQ s a A (a + 1) B ∧ EndA s (a + 1) B K := by
  have e : stepQ A (bAt s a) = (8, A.pop) := by
    rw [h.nx ha, hc]
    unfold endQ
    rw [h.stk]
    rfl
  have hp := endA_pop (s := s) (a := a + 1) h.bad h.stk (endA_top h)
  exact ⟨_, .one ha e (by decide) hp.2, hp.1⟩
theorem arr_comma {s : ByteArray} {a : Nat} {A : Sc} {K : List Int} (h : EndA s a A (2 :: K)) (ha : a < s.size) (hc : bAt s a = 44) : RunQ s a A (a + 1) ⟨.bv, false, 2 :: K, false⟩ := by
  refine .one (k := 7) ha ?_ (by decide) rfl
  rw [h.nx ha, hc]
  have ht := endA_top h
  have hb := h.bad
  have hs := h.stk
  obtain ⟨q, t, S, d⟩ := A
  dsimp only at hb hs ht
  subst hb hs ht
  rfl
theorem arr_dead {s : ByteArray} {a : Nat} {A : Sc} {K : List Int} (h : EndA s a A (2 :: K)) (ha : a ≤ s.size) (hsp : isSp (bAt s a) = false ∨ a = s.size) (h1 : bAt s a ≠ 93) (h2 : bAt s a ≠ 44) : Dead s a A := by
  by_cases hl : a < s.size
  · have hw : isW (bAt s a) = false := by rw [isW_sp]; rcases hsp with h | h; exact h; omega
    refine dead_err hl ?_
    rw [h.nx hl]
    unfold endQ
    rw [h.stk]
    dsimp only
    rw [hw, if_neg (by decide), if_neg (by decide), if_neg (by decide), if_pos rfl, if_neg h2, if_neg h1]
  · refine dead_end (by omega) ?_ (endA_top h)
    rw [h.eof]
    have ht := endA_top h
    unfold endQ
    rw [h.stk]
    exact ht
theorem obj_close {s : ByteArray} {a : Nat} {A : Sc} {K : List Int} (h : EndA s a A (1 :: K)) (ha : a < s.size) (hc : bAt s a = 125) : ∃ B, RunQ s a A (a + 1) B ∧ EndA s (a + 1) B K := by
  have e : stepQ A (bAt s a) = (5, A.pop) := by
    rw [h.nx ha, hc]
    unfold endQ
    rw [h.stk]
    rfl
  have hp := endA_pop (s := s) (a := a + 1) h.bad h.stk (endA_top h)
  exact ⟨_, .one ha e (by decide) hp.2, hp.1⟩
theorem obj_comma {s : ByteArray} {a : Nat} {A : Sc} {K : List Int} (h : EndA s a A (1 :: K)) (ha : a < s.size) (hc : bAt s a = 44) : RunQ s a A (a + 1) ⟨.bs, false, 0 :: K, false⟩ := by
  refine .one (k := 4) ha ?_ (by decide) rfl
  rw [h.nx ha, hc]
  have ht := endA_top h
  have hb := h.bad
  have hs := h.stk
  obtain ⟨q, t, S, d⟩ := A
  dsimp only at hb hs ht
  subst hb hs ht
  rfl
theorem obj_dead {s : ByteArray} {a : Nat} {A : Sc} {K : List Int} (h : EndA s a A (1 :: K)) (ha : a ≤ s.size) (hsp : isSp (bAt s a) = false ∨ a = s.size) (h1 : bAt s a ≠ 125) (h2 : bAt s a ≠ 44) : Dead s a A := by
  by_cases hl : a < s.size
  · have hw : isW (bAt s a) = false := by rw [isW_sp]; rcases hsp with h | h; exact h; omega
    refine dead_err hl ?_
    rw [h.nx hl]
    unfold endQ
    rw [h.stk]
    dsimp only
    rw [hw, if_neg (by decide), if_neg (by decide), if_pos rfl, if_neg h2, if_neg h1]
  · refine dead_end (by omega) ?_ (endA_top h)
    rw [h.eof]
    have ht := endA_top h
    unfold endQ
    rw [h.stk]
    exact ht
theorem key_colon {s : ByteArray} {a : Nat} {A : Sc} {K : List Int} (h : EndA s a A (0 :: K)) (ha : a < s.size) (hc : bAt s a = 58) : RunQ s a A (a + 1) ⟨.bv, false, 1 :: K, false⟩ := by
  refine .one (k := 3) ha ?_ (by decide) rfl
  rw [h.nx ha, hc]
  have ht := endA_top h
  have hb := h.bad
  have hs := h.stk
  obtain ⟨q, t, S, d⟩ := A
  dsimp only at hb hs ht
  subst hb hs ht
  rfl
theorem key_dead {s : ByteArray} {a : Nat} {A : Sc} {K : List Int} (h : EndA s a A (0 :: K)) (ha : a ≤ s.size) (hsp : isSp (bAt s a) = false ∨ a = s.size) (h1 : bAt s a ≠ 58) : Dead s a A := by
  by_cases hl : a < s.size
  · have hw : isW (bAt s a) = false := by rw [isW_sp]; rcases hsp with h | h; exact h; omega
    refine dead_err hl ?_
    rw [h.nx hl]
    unfold endQ
    rw [h.stk]
    dsimp only
    rw [hw, if_neg (by decide), if_pos rfl, if_neg h1]
  · refine dead_end (by omega) ?_ (endA_top h)
    rw [h.eof]
    have ht := endA_top h
    unfold endQ
    rw [h.stk]
    exact ht
/-- How a scalar's reading goes with the scanner. -/
def Goes (s : ByteArray) (K : List Int) (a : Nat) (A : Sc) (f0 : Int) (r : Bool) (σ' : St) : Prop :=
  if r then σ'.fault = f0 ∧ ∃ B, RunQ s a A σ'.at_ B ∧ EndA s σ'.at_ B K else σ'.fault ≠ 0 ∧ ∃ B, RunQ s a A σ'.at_ B ∧ Dead s σ'.at_ B
theorem fail_ne (σ : St) {k : Int} (hk : k ≠ 0) : (σ.fail k).fault ≠ 0 := by
  unfold St.fail
  split
  · exact hk
  · assumption
theorem need_cases (s : ByteArray) (σ : St) (x y : Int) : (St.need s σ x y = (true, { σ with at_ := σ.at_ + 1 }) ∧ σ.at_ < s.size ∧ x ≤ bAt s σ.at_ ∧ bAt s σ.at_ ≤ y) ∨ (St.need s σ x y = (false, σ.fail 4) ∧ (σ.at_ < s.size → ¬ (x ≤ bAt s σ.at_ ∧ bAt s σ.at_ ≤ y))) := by
  unfold St.need
  split
  · rename_i h; exact .inl ⟨rfl, h⟩
  · rename_i h; exact .inr ⟨rfl, fun hl hh => h ⟨hl, hh⟩⟩
def lastQ : Sq → List (Int × Sq) → Sq
  | q, [] => q
  | _, (_, q') :: l => lastQ q' l
/-- Words. -/
theorem word_goes (s : ByteArray) (K : List Int) (f0 : Int) : ∀ (l : List (Int × Sq)) (q : Sq) (σ : St), σ.at_ ≤ s.size → σ.fault = f0 →
    (∀ (m : List (Int × Sq)) (c : Int) (q' : Sq) (n : List (Int × Sq)), l = m ++ (c, q') :: n → ∀ K' c', stepQ ⟨lastQ q m, false, K', false⟩ c' = litQ ⟨lastQ q m, false, K', false⟩ c' c q') →
    (lastQ q l = .ev) → (∀ c ∈ l.map Prod.fst, c ≠ 32) →
    ∀ r σ', St.word s (l.map Prod.fst) σ = (r, σ') → Goes s K σ.at_ ⟨q, false, K, false⟩ f0 r σ'
  | [], q, σ, ha, hf, _, hl, _, r, σ', h => by
    simp only [List.map_nil, St.word] at h
    injection h with h1 h2
    subst h1 h2
    have hl : q = .ev := hl
    subst hl
    unfold Goes
    rw [if_pos rfl]
    exact ⟨hf, _, .refl, rfl, rfl, fun _ => rfl, rfl, fun h => (by cases h)⟩
  | (c, q') :: l, q, σ, ha, hf, hst, hl, h32, r, σ', h => by
    simp only [List.map_cons, St.word] at h
    have h0 := hst [] c q' l rfl K
    change ∀ c', stepQ ⟨q, false, K, false⟩ c' = litQ ⟨q, false, K, false⟩ c' c q' at h0
    rcases need_cases s σ c c with ⟨e, hlt, h1, h2⟩ | ⟨e, hno⟩
    · have hc : bAt s σ.at_ = c := by omega
      rw [e] at h
      simp only [St.andThen, if_true] at h
      have ih := word_goes s K f0 l q' { σ with at_ := σ.at_ + 1 } (by simp; omega) hf (fun m c2 q2 n e2 K' c' => by
        have := hst ((c, q') :: m) c2 q2 n (by rw [e2]; rfl) K' c'
        exact this) hl (fun x hx => h32 x (by simp at hx ⊢; exact .inr hx)) r σ' h
      have hr : RunQ s σ.at_ ⟨q, false, K, false⟩ (σ.at_ + 1) ⟨q', false, K, false⟩ := by
        refine .one (k := 0) hlt ?_ (by decide) rfl
        rw [h0, hc]
        unfold litQ
        rw [if_pos rfl]
        rfl
      unfold Goes at ih ⊢
      split
      · rename_i hr'
        rw [if_pos hr'] at ih
        obtain ⟨i1, B, i2, i3⟩ := ih
        exact ⟨i1, B, hr.trans i2, i3⟩
      · rename_i hr'
        rw [if_neg hr'] at ih
        obtain ⟨i1, B, i2, i3⟩ := ih
        exact ⟨i1, B, hr.trans i2, i3⟩
    · rw [e] at h
      simp only [St.andThen] at h
      have h' : (false, σ.fail 4) = (r, σ') := h
      injection h' with h1 h2
      subst h1 h2
      unfold Goes
      rw [if_neg (by decide)]
      refine ⟨fail_ne σ (by decide), ⟨q, false, K, false⟩, by rw [St.fail_at]; exact .refl, ?_⟩
      rw [St.fail_at]
      by_cases hlt : σ.at_ < s.size
      · refine dead_err hlt ?_
        rw [h0]
        unfold litQ
        rw [if_neg (fun e => hno hlt ⟨by omega, by omega⟩)]
      · refine dead_end (by omega) ?_ rfl
        rw [h0]
        unfold litQ
        rw [if_neg (fun e => h32 c (by simp) e.symm)]
        rfl
end
section
/- (Gs) The reader and the scanner go together: strings, numbers, scalars. -/
/-- A part of a string: the scanner stands within it behind the part, or comes to its fault with the reader. -/
def GoesS (s : ByteArray) (K : List Int) (a : Nat) (A : Sc) (f0 : Int) (r : Bool) (σ' : St) : Prop :=
  if r then σ'.fault = f0 ∧ RunQ s a A σ'.at_ ⟨.str, false, K, false⟩ else σ'.fault ≠ 0 ∧ ∃ B, RunQ s a A σ'.at_ B ∧ Dead s σ'.at_ B
theorem GoesS.pre {s : ByteArray} {K : List Int} {a b : Nat} {A B : Sc} {f0 : Int} {r : Bool} {σ' : St} (h : RunQ s a A b B) (k : GoesS s K b B f0 r σ') : GoesS s K a A f0 r σ' := by
  unfold GoesS at k ⊢
  split
  · rename_i hr
    rw [if_pos hr] at k
    exact ⟨k.1, h.trans k.2⟩
  · rename_i hr
    rw [if_neg hr] at k
    obtain ⟨k1, C, k2, k3⟩ := k
    exact ⟨k1, C, h.trans k2, k3⟩
theorem goesS_fail {s : ByteArray} {K : List Int} {A : Sc} {f0 : Int} {σ : St} {k : Int} (hk : k ≠ 0) (h : Dead s σ.at_ A) : GoesS s K σ.at_ A f0 false (σ.fail k) := by
  unfold GoesS
  rw [if_neg (by decide)]
  exact ⟨fail_ne σ hk, A, by rw [St.fail_at]; exact .refl, by rw [St.fail_at]; exact h⟩
theorem hexV_iff (c : Int) : (0 ≤ hexV c ∧ hexV c ≤ 15) ↔ hexB c = true := by
  unfold hexV hexB digB
  simp only [Bool.or_eq_true, Bool.and_eq_true, decide_eq_true_eq]
  repeat' split
  all_goals omega
theorem hex_cases (s : ByteArray) (σ : St) (ha : σ.at_ ≤ s.size) : (St.hex s σ 0 15 = (true, { σ with at_ := σ.at_ + 1 }) ∧ σ.at_ < s.size ∧ hexB (bAt s σ.at_) = true) ∨ (St.hex s σ 0 15 = (false, σ.fail 4) ∧ (σ.at_ < s.size → hexB (bAt s σ.at_) = false)) := by
  unfold St.hex
  have hi := hexV_iff (bAt s σ.at_)
  split
  · rename_i h
    refine .inr ⟨rfl, fun _ => ?_⟩
    cases hb : hexB (bAt s σ.at_)
    · rfl
    · have := hi.2 hb; omega
  · rename_i h
    refine .inl ⟨rfl, ?_, hi.1 (by omega)⟩
    by_cases hl : σ.at_ < s.size
    · exact hl
    · rw [bAt_ge hl] at h
      exact absurd (Or.inl (by decide : hexV 0 < 0)) h
theorem hex_goes {s : ByteArray} {K : List Int} (q q' : Sq) (hq : ∀ c, stepQ ⟨q, false, K, false⟩ c = hexQ ⟨q, false, K, false⟩ c q') {σ : St} (ha : σ.at_ ≤ s.size) {f : St → Bool × St} {r : Bool} {σ' : St} (f0 : Int) (hf : σ.fault = f0)
    (h : St.andThen (St.hex s σ 0 15) f = (r, σ')) (hk : ∀ τ : St, τ.at_ ≤ s.size → τ.fault = f0 → f τ = (r, σ') → GoesS s K τ.at_ ⟨q', false, K, false⟩ f0 r σ') : GoesS s K σ.at_ ⟨q, false, K, false⟩ f0 r σ' := by
  rcases hex_cases s σ ha with ⟨e, hlt, hx⟩ | ⟨e, hx⟩
  · rw [e] at h
    have h' : f { σ with at_ := σ.at_ + 1 } = (r, σ') := h
    refine GoesS.pre (b := σ.at_ + 1) (B := ⟨q', false, K, false⟩) ?_ (hk { σ with at_ := σ.at_ + 1 } (by simp; omega) hf h')
    refine .one (k := 0) hlt ?_ (by decide) rfl
    rw [hq]
    unfold hexQ
    rw [if_pos hx]
    rfl
  · rw [e] at h
    have h' : (false, σ.fail 4) = (r, σ') := h
    injection h' with h1 h2
    subst h1 h2
    refine goesS_fail (by decide) ?_
    by_cases hlt : σ.at_ < s.size
    · refine dead_err hlt ?_
      rw [hq]
      unfold hexQ
      rw [hx hlt]
      rfl
    · refine dead_end (by omega) ?_ rfl
      rw [hq]
      rfl
theorem esc_goes {s : ByteArray} {K : List Int} {σ : St} (ha : σ.at_ ≤ s.size) {r : Bool} {σ' : St} (f0 : Int) (hf : σ.fault = f0) (h : St.escape s true σ = (r, σ')) : GoesS s K σ.at_ ⟨.esc, false, K, false⟩ f0 r σ' := by
  unfold St.escape at h
  dsimp only at h
  by_cases hc : bAt s σ.at_ = 34 ∨ bAt s σ.at_ = 92 ∨ bAt s σ.at_ = 47 ∨ bAt s σ.at_ = 98 ∨ bAt s σ.at_ = 102 ∨ bAt s σ.at_ = 110 ∨ bAt s σ.at_ = 114 ∨ bAt s σ.at_ = 116
  · rw [if_pos hc] at h
    have hlt : σ.at_ < s.size := St.byte_in (s := s) (by omega)
    injection h with h1 h2
    subst h1 h2
    unfold GoesS
    rw [if_pos rfl]
    refine ⟨hf, .one (k := 0) hlt ?_ (by decide) rfl⟩
    show escQ _ _ = _
    unfold escQ
    rw [if_pos (by omega)]
    rfl
  · rw [if_neg hc] at h
    by_cases hu : bAt s σ.at_ = 117
    · rw [if_pos hu] at h
      have hlt : σ.at_ < s.size := St.byte_in (s := s) (by omega)
      have hun : St.unit s true false { σ with at_ := σ.at_ + 1 } = ((St.hex4 s { σ with at_ := σ.at_ + 1 }).1, false, (St.hex4 s { σ with at_ := σ.at_ + 1 }).2) := rfl
      rw [hun] at h
      simp only [Bool.and_false, Bool.false_eq_true, if_false] at h
      have h4 : St.hex4 s { σ with at_ := σ.at_ + 1 } = (r, σ') := h
      have hr : RunQ s σ.at_ ⟨.esc, false, K, false⟩ (σ.at_ + 1) ⟨.u0, false, K, false⟩ := by
        refine .one (k := 0) hlt ?_ (by decide) rfl
        rw [hu]; rfl
      refine GoesS.pre hr ?_
      refine hex_goes .u0 .u1 (fun _ => rfl) (σ := { σ with at_ := σ.at_ + 1 }) (by simp; omega) f0 hf h4 fun τ t1 t2 h3 => ?_
      refine hex_goes .u1 .u2 (fun _ => rfl) t1 f0 t2 h3 fun τ t1 t2 h2 => ?_
      refine hex_goes .u2 .u3 (fun _ => rfl) t1 f0 t2 h2 fun τ t1 t2 h1 => ?_
      have h1' : St.andThen (St.hex s τ 0 15) (fun σ => (true, σ)) = (r, σ') := by
        rw [← h1]; unfold St.andThen
        split
        · rename_i hp; rw [← hp]
        · rename_i hp
          have : (St.hex s τ 0 15).1 = false := by simpa using hp
          rw [← this]
      refine hex_goes .u3 .str (fun _ => rfl) t1 f0 t2 h1' fun τ t1 t2 h0 => ?_
      injection h0 with e1 e2
      subst e1 e2
      unfold GoesS
      rw [if_pos rfl]
      exact ⟨t2, .refl⟩
    · rw [if_neg hu] at h
      injection h with h1 h2
      subst h1 h2
      refine goesS_fail (by decide) ?_
      by_cases hlt : σ.at_ < s.size
      · refine dead_err hlt ?_
        show escQ _ _ = _
        unfold escQ
        rw [if_neg (by omega), if_neg hu]
      · exact dead_end (by omega) rfl rfl
theorem loop_goes {s : ByteArray} {K : List Int} (f0 : Int) : ∀ (n : Nat) (σ : St), s.size - σ.at_ ≤ n → σ.at_ ≤ s.size → σ.fault = f0 → ∀ r σ', St.strLoop s true n σ = (r, σ') →
    GoesS s K σ.at_ ⟨.str, false, K, false⟩ f0 r σ' ∧ (r = true → σ'.at_ < s.size ∧ bAt s σ'.at_ = 34)
  | 0, σ, hn, ha, hf, r, σ', h => by
    have h' : (false, σ.fail 4) = (r, σ') := h
    injection h' with h1 h2
    subst h1 h2
    exact ⟨goesS_fail (by decide) (dead_end (by omega) rfl rfl), fun h => by cases h⟩
  | n + 1, σ, hn, ha, hf, r, σ', h => by
    rw [St.strLoop] at h
    by_cases hlt : σ.at_ < s.size
    · rw [if_pos hlt] at h
      by_cases h34 : bAt s σ.at_ = 34
      · rw [if_pos h34] at h
        injection h with h1 h2
        subst h1 h2
        refine ⟨?_, fun _ => ⟨hlt, h34⟩⟩
        unfold GoesS
        rw [if_pos rfl]
        exact ⟨hf, .refl⟩
      · rw [if_neg h34] at h
        unfold St.inner at h
        dsimp only at h
        by_cases h92 : bAt s σ.at_ = 92
        · rw [if_pos h92] at h
          have hr : RunQ s σ.at_ ⟨.str, false, K, false⟩ (σ.at_ + 1) ⟨.esc, false, K, false⟩ := by
            refine .one (k := 0) hlt ?_ (by decide) rfl
            rw [h92]; rfl
          obtain ⟨p, τ, hp⟩ : ∃ p τ, St.escape s true { σ with at_ := σ.at_ + 1 } = (p, τ) := ⟨_, _, rfl⟩
          have he := esc_goes (K := K) (σ := { σ with at_ := σ.at_ + 1 }) (by simp; omega) f0 hf hp
          have had := St.escape_adv (s := s) (σ := { σ with at_ := σ.at_ + 1 }) (by simp; omega) true
          rw [hp] at h had
          cases p
          · have h' : (false, τ) = (r, σ') := h
            injection h' with h1 h2
            subst h1 h2
            exact ⟨GoesS.pre hr he, fun h => by cases h⟩
          · have h' : St.strLoop s true n τ = (r, σ') := h
            have h1 := had.1
            have h2 := had.2.1
            dsimp only at h1 h2
            unfold GoesS at he
            rw [if_pos rfl] at he
            have ih := loop_goes (K := K) f0 n τ (by omega) h2 he.1 r σ' h'
            exact ⟨GoesS.pre (hr.trans he.2) ih.1, ih.2⟩
        · rw [if_neg h92] at h
          by_cases h32 : bAt s σ.at_ < 32
          · rw [if_pos h32] at h
            have h' : (false, σ.fail 4) = (r, σ') := h
            injection h' with h1 h2
            subst h1 h2
            refine ⟨goesS_fail (by decide) (dead_err hlt ?_), fun h => by cases h⟩
            show strQ _ _ = _
            unfold strQ
            rw [if_neg h34, if_neg h92, if_pos h32]
          · rw [if_neg h32, if_pos (.inr rfl)] at h
            have h' : St.strLoop s true n { σ with at_ := σ.at_ + 1 } = (r, σ') := h
            have hr : RunQ s σ.at_ ⟨.str, false, K, false⟩ (σ.at_ + 1) ⟨.str, false, K, false⟩ := by
              refine .one (k := 0) hlt ?_ (by decide) rfl
              show strQ _ _ = _
              unfold strQ
              rw [if_neg h34, if_neg h92, if_neg h32]
            have ih := loop_goes (K := K) f0 n { σ with at_ := σ.at_ + 1 } (by simp; omega) (by simp; omega) hf r σ' h'
            exact ⟨GoesS.pre hr ih.1, ih.2⟩
    · rw [if_neg hlt] at h
      have h' : (false, σ.fail 4) = (r, σ') := h
      injection h' with h1 h2
      subst h1 h2
      exact ⟨goesS_fail (by decide) (dead_end (by omega) rfl rfl), fun h => by cases h⟩
/-- A string up to its last quotation mark, from a state that takes one. -/
theorem quoted_goes {s : ByteArray} {K : List Int} {A : Sc} (f0 : Int) {σ : St} (ha : σ.at_ ≤ s.size) (hf : σ.fault = f0) (h34 : bAt s σ.at_ = 34) (hA : stepQ A 34 = (1, ⟨.str, false, K, false⟩)) {r : Bool} {σ' : St} (h : St.quoted s true σ = (r, σ')) :
    GoesS s K σ.at_ A f0 r σ' ∧ (r = true → σ'.at_ < s.size ∧ bAt s σ'.at_ = 34) := by
  have hlt : σ.at_ < s.size := St.byte_in (s := s) (by omega)
  unfold St.quoted at h
  have hn : St.need s σ 34 34 = (true, { σ with at_ := σ.at_ + 1 }) := by
    unfold St.need
    rw [if_pos ⟨hlt, by omega, by omega⟩]
  rw [hn] at h
  have h' : St.strLoop s true (s.size - (σ.at_ + 1)) { σ with at_ := σ.at_ + 1 } = (r, σ') := h
  have hr : RunQ s σ.at_ A (σ.at_ + 1) ⟨.str, false, K, false⟩ := by
    refine .one (k := 1) hlt ?_ (by decide) rfl
    rw [h34, hA]
  have ih := loop_goes (K := K) f0 _ { σ with at_ := σ.at_ + 1 } (Nat.le_refl _) (by simp; omega) hf r σ' h'
  exact ⟨GoesS.pre hr ih.1, ih.2⟩
end
section
/- (Gn) The reader and the scanner go together: numbers, scalars. -/
theorem Goes.pre {s : ByteArray} {K : List Int} {a b : Nat} {A B : Sc} {f0 : Int} {r : Bool} {σ' : St} (h : RunQ s a A b B) (k : Goes s K b B f0 r σ') : Goes s K a A f0 r σ' := by
  unfold Goes at k ⊢
  split
  · rename_i hr
    rw [if_pos hr] at k
    obtain ⟨k1, C, k2, k3⟩ := k
    exact ⟨k1, C, h.trans k2, k3⟩
  · rename_i hr
    rw [if_neg hr] at k
    obtain ⟨k1, C, k2, k3⟩ := k
    exact ⟨k1, C, h.trans k2, k3⟩
theorem goes_fail {s : ByteArray} {K : List Int} {A : Sc} {f0 : Int} {σ : St} {k : Int} (hk : k ≠ 0) (h : Dead s σ.at_ A) : Goes s K σ.at_ A f0 false (σ.fail k) := by
  unfold Goes
  rw [if_neg (by decide)]
  exact ⟨fail_ne σ hk, A, by rw [St.fail_at]; exact .refl, by rw [St.fail_at]; exact h⟩
theorem goes_end {s : ByteArray} {K : List Int} {A : Sc} {f0 : Int} {σ : St} (hf : σ.fault = f0) (h : EndA s σ.at_ A K) : Goes s K σ.at_ A f0 true σ := by
  unfold Goes
  rw [if_pos rfl]
  exact ⟨hf, A, .refl, h⟩
theorem digB_iff' {c : Int} (h1 : 48 ≤ c) (h2 : c ≤ 57) : digB c = true := by unfold digB; simp; omega
theorem digB_dest {c : Int} (h : digB c = true) : 48 ≤ c ∧ c ≤ 57 := by unfold digB at h; simpa using h
theorem dgB_eq (c : Int) : dgB c = digB c := rfl
/-- Digits: the scanner stays where it is. -/
theorem dg_run (s : ByteArray) (A : Sc) (hb : A.bad = false) (hA : ∀ c, digB c = true → stepQ A c = (0, A)) : ∀ (n i : Nat), i ≤ s.size → s.size - i ≤ n → RunQ s i A (dgE s n i) A ∧ (dgE s n i < s.size → digB (bAt s (dgE s n i)) = false)
  | 0, i, h, hn => ⟨.refl, fun hl => by exfalso; simp only [dgE] at hl; omega⟩
  | n + 1, i, h, hn => by
    by_cases hc : i < s.size ∧ dgB (bAt s i) = true
    · rw [dgE, if_pos hc]
      have ih := dg_run s A hb hA n (i + 1) (by omega) (by omega)
      exact ⟨(RunQ.one hc.1 (hA _ hc.2) (by decide) hb).trans ih.1, ih.2⟩
    · rw [dgE, if_neg hc]
      refine ⟨.refl, fun hl => ?_⟩
      cases hd : digB (bAt s i)
      · rfl
      · exact absurd ⟨hl, hd⟩ hc
/-- One digit or more: from state q to state q1, which keeps digits. -/
theorem digits_goes {s : ByteArray} {K : List Int} (q q1 : Sq) (f0 : Int) {σ : St} (ha : σ.at_ ≤ s.size) (hf : σ.fault = f0) (hq : σ.at_ < s.size → digB (bAt s σ.at_) = true → stepQ ⟨q, false, K, false⟩ (bAt s σ.at_) = (0, ⟨q1, false, K, false⟩) ∨ stepQ ⟨q, false, K, false⟩ (bAt s σ.at_) = (1, ⟨q1, false, K, false⟩))
    (hq1 : ∀ c, digB c = true → stepQ ⟨q1, false, K, false⟩ c = (0, ⟨q1, false, K, false⟩)) (hn : σ.at_ < s.size → digB (bAt s σ.at_) = false → stepQ ⟨q, false, K, false⟩ (bAt s σ.at_) = Sc.err ⟨q, false, K, false⟩) (h32 : (stepQ ⟨q, false, K, false⟩ 32).2.top = false)
    {r : Bool} {σ' : St} (h : St.digits s σ = (r, σ')) :
    if r then σ'.fault = f0 ∧ σ'.at_ ≤ s.size ∧ RunQ s σ.at_ ⟨q, false, K, false⟩ σ'.at_ ⟨q1, false, K, false⟩ ∧ (σ'.at_ < s.size → digB (bAt s σ'.at_) = false)
    else σ'.fault ≠ 0 ∧ ∃ B, RunQ s σ.at_ ⟨q, false, K, false⟩ σ'.at_ B ∧ Dead s σ'.at_ B := by
  unfold St.digits at h
  rcases need_cases s σ 48 57 with ⟨e, hlt, h1, h2⟩ | ⟨e, hno⟩
  · rw [e] at h
    have h' : (true, ({ σ with at_ := dgE s (s.size - (σ.at_ + 1)) (σ.at_ + 1) } : St)) = (r, σ') := h
    injection h' with e1 e2
    subst e1 e2
    rw [if_pos rfl]
    have hd : digB (bAt s σ.at_) = true := digB_iff' h1 h2
    have hr : RunQ s σ.at_ ⟨q, false, K, false⟩ (σ.at_ + 1) ⟨q1, false, K, false⟩ := by
      rcases hq hlt hd with e | e
      · exact .one hlt e (by decide) rfl
      · exact .one hlt e (by decide) rfl
    have hg := dg_run s ⟨q1, false, K, false⟩ rfl hq1 (s.size - (σ.at_ + 1)) (σ.at_ + 1) (by omega) (Nat.le_refl _)
    exact ⟨hf, (dgE_le s _ _ (by omega)).2, hr.trans hg.1, hg.2⟩
  · rw [e] at h
    have h' : (false, σ.fail 4) = (r, σ') := h
    injection h' with e1 e2
    subst e1 e2
    rw [if_neg (by decide)]
    refine ⟨fail_ne σ (by decide), ⟨q, false, K, false⟩, by rw [St.fail_at]; exact .refl, ?_⟩
    rw [St.fail_at]
    by_cases hlt : σ.at_ < s.size
    · refine dead_err hlt (hn hlt ?_)
      cases hd : digB (bAt s σ.at_)
      · rfl
      · exact absurd (digB_dest hd) (hno hlt)
    · exact dead_end (by omega) h32 rfl
/-- The end of a number. -/
theorem num_endA {s : ByteArray} {K : List Int} {a : Nat} (q : Sq) (hx : a < s.size → stepQ ⟨q, false, K, false⟩ (bAt s a) = endQ ⟨q, false, K, false⟩ (bAt s a)) (h32 : stepQ ⟨q, false, K, false⟩ 32 = endQ ⟨q, false, K, false⟩ 32) : EndA s a ⟨q, false, K, false⟩ K :=
  ⟨rfl, rfl, hx, h32, fun h => by cases h⟩
theorem exp_goes {s : ByteArray} {K : List Int} (q : Sq) (f0 : Int) {σ : St} (ha : σ.at_ ≤ s.size) (hf : σ.fault = f0) (hE : ∀ c, c = 101 ∨ c = 69 → stepQ ⟨q, false, K, false⟩ c = (0, ⟨.ee, false, K, false⟩))
    (hx : σ.at_ < s.size → ¬ (bAt s σ.at_ = 101 ∨ bAt s σ.at_ = 69) → stepQ ⟨q, false, K, false⟩ (bAt s σ.at_) = endQ ⟨q, false, K, false⟩ (bAt s σ.at_)) (h32 : stepQ ⟨q, false, K, false⟩ 32 = endQ ⟨q, false, K, false⟩ 32)
    {r : Bool} {σ' : St} (h : St.numExp s σ = (r, σ')) : Goes s K σ.at_ ⟨q, false, K, false⟩ f0 r σ' := by
  unfold St.numExp at h
  by_cases he : bAt s σ.at_ = 101 ∨ bAt s σ.at_ = 69
  · rw [if_pos he] at h
    have hlt : σ.at_ < s.size := St.byte_in (s := s) (by omega)
    have hr : RunQ s σ.at_ ⟨q, false, K, false⟩ (σ.at_ + 1) ⟨.ee, false, K, false⟩ := .one hlt (hE _ he) (by decide) rfl
    refine Goes.pre hr ?_
    have fin : ∀ (q2 : Sq) (τ : St), τ.at_ ≤ s.size → τ.fault = f0 → (τ.at_ < s.size → digB (bAt s τ.at_) = true → stepQ ⟨q2, false, K, false⟩ (bAt s τ.at_) = (0, ⟨.e0, false, K, false⟩)) → (τ.at_ < s.size → digB (bAt s τ.at_) = false → stepQ ⟨q2, false, K, false⟩ (bAt s τ.at_) = Sc.err ⟨q2, false, K, false⟩) → (stepQ ⟨q2, false, K, false⟩ 32).2.top = false → St.digits s τ = (r, σ') → Goes s K τ.at_ ⟨q2, false, K, false⟩ f0 r σ' := by
      intro q2 τ t1 t2 t3 t4 t5 t6
      have hd := digits_goes (K := K) q2 .e0 f0 t1 t2 (fun a b => .inl (t3 a b)) (fun c hc => by show e0Q _ _ = _; unfold e0Q; rw [if_pos hc]) t4 t5 t6
      unfold Goes
      split
      · rename_i hr
        rw [if_pos hr] at hd
        obtain ⟨d1, d2, d3, d4⟩ := hd
        refine ⟨d1, _, d3, num_endA .e0 (fun hl => ?_) rfl⟩
        show e0Q _ _ = _
        unfold e0Q
        rw [d4 hl]
        rfl
      · rename_i hr
        rw [if_neg hr] at hd
        exact hd
    unfold St.sgn2 at h
    by_cases hs : bAt s σ.at1.at_ = 43 ∨ bAt s σ.at1.at_ = 45
    · rw [if_pos hs] at h
      have hlt2 : σ.at_ + 1 < s.size := St.byte_in (s := s) (σ := σ.at1) (by omega)
      have hr2 : RunQ s (σ.at_ + 1) ⟨.ee, false, K, false⟩ (σ.at_ + 1 + 1) ⟨.esg, false, K, false⟩ := by
        refine .one (k := 0) hlt2 ?_ (by decide) rfl
        show eeQ _ _ = _
        unfold eeQ
        rw [if_pos (show bAt s (σ.at_ + 1) = 43 ∨ bAt s (σ.at_ + 1) = 45 from hs)]
        rfl
      refine Goes.pre hr2 ?_
      refine fin .esg σ.at1.at1 (by show σ.at_ + 1 + 1 ≤ s.size; omega) hf (fun _ hd => ?_) (fun _ hd => ?_) rfl h
      · show esgQ _ _ = _
        unfold esgQ
        rw [if_pos hd]
        rfl
      · show esgQ _ _ = _
        unfold esgQ
        rw [hd]
        rfl
    · rw [if_neg hs] at h
      refine fin .ee σ.at1 (by show σ.at_ + 1 ≤ s.size; omega) hf (fun _ hd => ?_) (fun _ hd => ?_) rfl h
      · show eeQ _ _ = _
        unfold eeQ esgQ
        rw [if_neg hs, if_pos hd]
        rfl
      · show eeQ _ _ = _
        unfold eeQ esgQ
        rw [if_neg hs, hd]
        rfl
  · rw [if_neg he] at h
    injection h with e1 e2
    subst e1 e2
    exact goes_end hf (num_endA q (fun hl => hx hl he) h32)
theorem frac_goes {s : ByteArray} {K : List Int} (q : Sq) (f0 : Int) {σ : St} (ha : σ.at_ ≤ s.size) (hf : σ.fault = f0) (hq : q = .s0 ∨ q = .s1 ∧ (σ.at_ < s.size → digB (bAt s σ.at_) = false))
    {r : Bool} {σ' : St} (h : (St.andThen (St.numFrac s σ) fun σ => St.numExp s σ) = (r, σ')) : Goes s K σ.at_ ⟨q, false, K, false⟩ f0 r σ' := by
  have hs0 : ∀ c, (c = bAt s σ.at_ ∧ σ.at_ < s.size ∨ c = 32 ∨ c = 46 ∨ c = 101 ∨ c = 69) → stepQ ⟨q, false, K, false⟩ c = s0Q ⟨q, false, K, false⟩ c := by
    intro c hc
    rcases hq with rfl | ⟨rfl, hd⟩
    · rfl
    · show s1Q _ _ = _
      unfold s1Q
      have : digB c = false := by
        rcases hc with ⟨rfl, hl⟩ | rfl | rfl | rfl | rfl
        · exact hd hl
        all_goals rfl
      rw [this]
      rfl
  by_cases h46 : bAt s σ.at_ = 46
  · have hlt : σ.at_ < s.size := St.byte_in (s := s) (by omega)
    have hr : RunQ s σ.at_ ⟨q, false, K, false⟩ (σ.at_ + 1) ⟨.dot, false, K, false⟩ := by
      refine .one (k := 0) hlt ?_ (by decide) rfl
      rw [hs0 _ (.inl ⟨rfl, hlt⟩), h46]
      rfl
    refine Goes.pre hr ?_
    have hF : St.numFrac s σ = St.digits s σ.at1 := by unfold St.numFrac; rw [if_pos h46]
    rw [hF] at h
    obtain ⟨p, τ, hp⟩ : ∃ p τ, St.digits s σ.at1 = (p, τ) := ⟨_, _, rfl⟩
    have hd := digits_goes (K := K) .dot .dot0 f0 (σ := σ.at1) (by show σ.at_ + 1 ≤ s.size; omega) hf (fun _ hd => .inl (by show dotQ _ _ = _; unfold dotQ; rw [if_pos hd]; rfl)) (fun c hc => by show dot0Q _ _ = _; unfold dot0Q; rw [if_pos hc]) (fun _ hd => by show dotQ _ _ = _; unfold dotQ; rw [hd]; rfl) rfl hp
    rw [hp] at h
    cases p
    · have h' : (false, τ) = (r, σ') := h
      injection h' with e1 e2
      subst e1 e2
      unfold Goes
      rw [if_neg (by decide)] at hd ⊢
      exact hd
    · have h' : St.numExp s τ = (r, σ') := h
      rw [if_pos rfl] at hd
      obtain ⟨d1, d2, d3, d4⟩ := hd
      refine Goes.pre d3 (exp_goes .dot0 f0 d2 d1 (fun c hc => ?_) (fun hl hc => ?_) rfl h')
      · show dot0Q _ _ = _
        unfold dot0Q
        rw [if_neg (by rcases hc with rfl | rfl <;> decide), if_pos hc]
        rfl
      · show dot0Q _ _ = _
        unfold dot0Q
        rw [d4 hl, if_neg (by decide), if_neg hc]
  · have hF : St.numFrac s σ = (true, σ) := by unfold St.numFrac; rw [if_neg h46]
    rw [hF] at h
    have h' : St.numExp s σ = (r, σ') := h
    refine exp_goes q f0 ha hf (fun c hc => ?_) (fun hl hc => ?_) ?_ h'
    · rw [hs0 c (by rcases hc with rfl | rfl <;> simp)]
      unfold s0Q
      rw [if_neg (by omega), if_pos hc]
      rfl
    · rw [hs0 _ (.inl ⟨rfl, hl⟩)]
      unfold s0Q
      rw [if_neg h46, if_neg hc]
    · rw [hs0 32 (.inr (.inl rfl))]
      rfl
/-- Digits of a whole number, or a 0. -/
theorem int_goes {s : ByteArray} {K : List Int} (A : Sc) (f0 : Int) {σ : St} (ha : σ.at_ ≤ s.size) (hf : σ.fault = f0) (q : Sq) (hA : A = ⟨q, false, K, false⟩) (h48 : bAt s σ.at_ = 48 → ∃ k, k ≠ 11 ∧ stepQ A 48 = (k, ⟨.s0, false, K, false⟩))
    (hd : σ.at_ < s.size → bAt s σ.at_ ≠ 48 → digB (bAt s σ.at_) = true → stepQ A (bAt s σ.at_) = (0, ⟨.s1, false, K, false⟩) ∨ stepQ A (bAt s σ.at_) = (1, ⟨.s1, false, K, false⟩)) (hn : σ.at_ < s.size → digB (bAt s σ.at_) = false → stepQ A (bAt s σ.at_) = Sc.err A) (h32 : (stepQ A 32).2.top = false)
    {r : Bool} {σ' : St} (h : (St.andThen (St.numInt s σ) fun σ => St.andThen (St.numFrac s σ) fun σ => St.numExp s σ) = (r, σ')) : Goes s K σ.at_ A f0 r σ' := by
  subst hA
  by_cases hz : bAt s σ.at_ = 48
  · have hlt : σ.at_ < s.size := St.byte_in (s := s) (by omega)
    obtain ⟨k, hk, e⟩ := h48 hz
    have hr : RunQ s σ.at_ ⟨q, false, K, false⟩ (σ.at_ + 1) ⟨.s0, false, K, false⟩ := .one hlt (by rw [hz]; exact e) hk rfl
    have hI : St.numInt s σ = (true, σ.at1) := by unfold St.numInt; rw [if_pos hz]
    rw [hI] at h
    exact Goes.pre hr (frac_goes (σ := σ.at1) .s0 f0 (by show σ.at_ + 1 ≤ s.size; omega) hf (.inl rfl) h)
  · have hI : St.numInt s σ = St.digits s σ := by unfold St.numInt; rw [if_neg hz]
    rw [hI] at h
    obtain ⟨p, τ, hp⟩ : ∃ p τ, St.digits s σ = (p, τ) := ⟨_, _, rfl⟩
    have hdg := digits_goes (K := K) q .s1 f0 ha hf (fun a b => hd a hz b) (fun c hc => by show s1Q _ _ = _; unfold s1Q; rw [if_pos hc]; rfl) hn h32 hp
    rw [hp] at h
    cases p
    · have h' : (false, τ) = (r, σ') := h
      injection h' with e1 e2
      subst e1 e2
      unfold Goes
      rw [if_neg (by decide)] at hdg ⊢
      exact hdg
    · rw [if_pos rfl] at hdg
      obtain ⟨d1, d2, d3, d4⟩ := hdg
      exact Goes.pre d3 (frac_goes .s1 f0 d2 d1 (.inr ⟨rfl, d4⟩) h)
/-- A scalar, from a state that takes the beginning of a value. -/
theorem scalar_goes {s : ByteArray} {K : List Int} (q : Sq) (f0 : Int) {σ : St} (ha : σ.at_ ≤ s.size) (hf : σ.fault = f0) (hsp : isSp (bAt s σ.at_) = false ∨ σ.at_ = s.size)
    (hq : σ.at_ < s.size → stepQ ⟨q, false, K, false⟩ (bAt s σ.at_) = bvQ ⟨q, false, K, false⟩ (bAt s σ.at_)) (h32 : (stepQ ⟨q, false, K, false⟩ 32).2.top = false)
    (h1 : bAt s σ.at_ ≠ 123) (h2 : bAt s σ.at_ ≠ 91) {r : Bool} {σ' : St} (h : St.scalarF s true σ = (r, σ')) : Goes s K σ.at_ ⟨q, false, K, false⟩ f0 r σ' := by
  have hw : σ.at_ < s.size → isW (bAt s σ.at_) = false := fun hl => by rw [isW_sp]; rcases hsp with h | h; exact h; omega
  have hword : ∀ (c : Int) (q1 : Sq) (l : List (Int × Sq)), c ≠ 0 → bAt s σ.at_ = c → (∀ τ : Sc, isW c = false → bvQ τ c = τ.to 1 q1) → lastQ q1 l = .ev → (∀ x ∈ l.map Prod.fst, x ≠ 32) →
      (∀ (m : List (Int × Sq)) (c : Int) (q' : Sq) (n : List (Int × Sq)), l = m ++ (c, q') :: n → ∀ K' c', stepQ ⟨lastQ q1 m, false, K', false⟩ c' = litQ ⟨lastQ q1 m, false, K', false⟩ c' c q') →
      St.word s (c :: l.map Prod.fst) σ = (r, σ') → Goes s K σ.at_ ⟨q, false, K, false⟩ f0 r σ' := by
    intro c q1 l hc0 hc hb hl h32 hst hwd
    have hlt : σ.at_ < s.size := St.byte_in (s := s) (by omega)
    have hr : RunQ s σ.at_ ⟨q, false, K, false⟩ (σ.at_ + 1) ⟨q1, false, K, false⟩ := by
      refine .one (k := 1) hlt ?_ (by decide) rfl
      have hw' := hw hlt
      rw [hc] at hw'
      rw [hq hlt, hc, hb _ hw']
      rfl
    have hn : St.need s σ c c = (true, { σ with at_ := σ.at_ + 1 }) := by
      unfold St.need
      rw [if_pos ⟨hlt, by omega, by omega⟩]
    rw [St.word, hn] at hwd
    have h' : St.word s (l.map Prod.fst) { σ with at_ := σ.at_ + 1 } = (r, σ') := hwd
    exact Goes.pre hr (word_goes s K f0 l q1 { σ with at_ := σ.at_ + 1 } (by simp; omega) hf hst hl h32 r σ' h')
  unfold St.scalarF at h
  dsimp only at h
  by_cases c110 : bAt s σ.at_ = 110
  · rw [if_pos c110] at h
    refine hword 110 .n1 [(117, .n2), (108, .n3), (108, .ev)] (by decide) c110 (fun τ hw => by unfold bvQ; rw [hw]; rfl) rfl (by decide) ?_ h
    intro m c q' n e K' c'
    match m, e with
    | [], e => injection e with e1 e2; injection e1 with e1 e3; subst e1 e3; rfl
    | [_], e => injection e with e1 e2; subst e1; injection e2 with e1 e2; injection e1 with e1 e3; subst e1 e3; rfl
    | [_, _], e => injection e with e1 e2; subst e1; injection e2 with e1 e2; subst e1; injection e2 with e1 e2; injection e1 with e1 e3; subst e1 e3; rfl
    | _ :: _ :: _ :: m, e => simp at e
  rw [if_neg c110] at h
  by_cases c116 : bAt s σ.at_ = 116
  · rw [if_pos c116] at h
    refine hword 116 .t1 [(114, .t2), (117, .t3), (101, .ev)] (by decide) c116 (fun τ hw => by unfold bvQ; rw [hw]; rfl) rfl (by decide) ?_ h
    intro m c q' n e K' c'
    match m, e with
    | [], e => injection e with e1 e2; injection e1 with e1 e3; subst e1 e3; rfl
    | [_], e => injection e with e1 e2; subst e1; injection e2 with e1 e2; injection e1 with e1 e3; subst e1 e3; rfl
    | [_, _], e => injection e with e1 e2; subst e1; injection e2 with e1 e2; subst e1; injection e2 with e1 e2; injection e1 with e1 e3; subst e1 e3; rfl
    | _ :: _ :: _ :: m, e => simp at e
  rw [if_neg c116] at h
  by_cases c102 : bAt s σ.at_ = 102
  · rw [if_pos c102] at h
    refine hword 102 .f1 [(97, .f2), (108, .f3), (115, .f4), (101, .ev)] (by decide) c102 (fun τ hw => by unfold bvQ; rw [hw]; rfl) rfl (by decide) ?_ h
    intro m c q' n e K' c'
    match m, e with
    | [], e => injection e with e1 e2; injection e1 with e1 e3; subst e1 e3; rfl
    | [_], e => injection e with e1 e2; subst e1; injection e2 with e1 e2; injection e1 with e1 e3; subst e1 e3; rfl
    | [_, _], e => injection e with e1 e2; subst e1; injection e2 with e1 e2; subst e1; injection e2 with e1 e2; injection e1 with e1 e3; subst e1 e3; rfl
    | [_, _, _], e => injection e with e1 e2; subst e1; injection e2 with e1 e2; subst e1; injection e2 with e1 e2; subst e1; injection e2 with e1 e2; injection e1 with e1 e3; subst e1 e3; rfl
    | _ :: _ :: _ :: _ :: m, e => simp at e
  rw [if_neg c102] at h
  by_cases c34 : bAt s σ.at_ = 34
  · rw [if_pos c34] at h
    have hlt : σ.at_ < s.size := St.byte_in (s := s) (by omega)
    obtain ⟨p, τ, hp⟩ : ∃ p τ, St.quoted s true σ = (p, τ) := ⟨_, _, rfl⟩
    have hA : stepQ ⟨q, false, K, false⟩ 34 = (1, ⟨.str, false, K, false⟩) := by
      have := hq hlt
      rw [c34] at this
      rw [this]
      rfl
    obtain ⟨g1, g2⟩ := quoted_goes f0 ha hf c34 hA hp
    rw [hp] at h
    unfold GoesS at g1
    cases p
    · have h' : (false, τ) = (r, σ') := h
      injection h' with e1 e2
      subst e1 e2
      unfold Goes
      rw [if_neg (by decide)] at g1 ⊢
      exact g1
    · rw [if_pos rfl] at g1
      obtain ⟨g3, g4⟩ := g2 rfl
      have hn : St.need s τ 34 34 = (true, { τ with at_ := τ.at_ + 1 }) := by
        unfold St.need
        rw [if_pos ⟨g3, by omega, by omega⟩]
      have h' : St.need s τ 34 34 = (r, σ') := h
      rw [hn] at h'
      injection h' with e1 e2
      subst e1 e2
      have hr : RunQ s τ.at_ ⟨.str, false, K, false⟩ (τ.at_ + 1) ⟨.ev, false, K, false⟩ := by
        refine .one (k := 0) g3 ?_ (by decide) rfl
        rw [g4]
        rfl
      exact Goes.pre (g1.2.trans hr) (goes_end (σ := { τ with at_ := τ.at_ + 1 }) g1.1 ⟨rfl, rfl, fun _ => rfl, rfl, fun h => by cases h⟩)
  rw [if_neg c34] at h
  by_cases cnum : bAt s σ.at_ = 45 ∨ (48 ≤ bAt s σ.at_ ∧ bAt s σ.at_ ≤ 57)
  · rw [if_pos cnum] at h
    have hlt : σ.at_ < s.size := St.byte_in (s := s) (by omega)
    unfold St.number at h
    by_cases c45 : bAt s σ.at_ = 45
    · have hs : St.sgn s σ = σ.at1 := by unfold St.sgn; rw [if_pos c45]
      rw [hs] at h
      have hr : RunQ s σ.at_ ⟨q, false, K, false⟩ (σ.at_ + 1) ⟨.neg, false, K, false⟩ := by
        refine .one (k := 1) hlt ?_ (by decide) rfl
        rw [hq hlt, c45]
        rfl
      refine Goes.pre hr (int_goes (σ := σ.at1) ⟨.neg, false, K, false⟩ f0 (by show σ.at_ + 1 ≤ s.size; omega) hf .neg rfl (fun _ => ⟨0, by decide, rfl⟩) (fun hl hz hd => .inl ?_) (fun hl hd => ?_) rfl h)
      · show negQ _ _ = _
        have := digB_dest hd
        unfold negQ
        rw [if_neg hz, if_pos (by simp; omega)]
        rfl
      · show negQ _ _ = _
        unfold negQ
        rw [if_neg (fun e => by rw [e] at hd; cases hd), if_neg (fun e => by
          have e' : 49 ≤ bAt s σ.at1.at_ ∧ bAt s σ.at1.at_ ≤ 57 := by simpa using e
          rw [digB_iff' (by omega) e'.2] at hd; cases hd)]
    · have hs : St.sgn s σ = σ := by unfold St.sgn; rw [if_neg c45]
      rw [hs] at h
      have hb : ∀ c : Int, c = bAt s σ.at_ → stepQ ⟨q, false, K, false⟩ c = bvQ ⟨q, false, K, false⟩ c := fun c hc => by subst hc; exact hq hlt
      refine int_goes ⟨q, false, K, false⟩ f0 ha hf q rfl (fun hz => ⟨1, by decide, ?_⟩) (fun hl hz hd => .inr ?_) (fun hl hd => ?_) h32 h
      · rw [hb 48 hz.symm]
        rfl
      · have hd' := digB_dest hd
        rw [hq hlt]
        unfold bvQ
        rw [hw hl, if_neg (by decide), if_neg h1, if_neg h2, if_neg c34, if_neg c45, if_neg hz, if_neg c116, if_neg c102, if_neg c110, if_pos (by simp; omega)]
        rfl
      · exfalso
        rcases cnum with e | e
        · exact c45 e
        · rw [digB_iff' e.1 e.2] at hd; cases hd
  · rw [if_neg cnum] at h
    injection h with e1 e2
    subst e1 e2
    refine goes_fail (by decide) ?_
    by_cases hlt : σ.at_ < s.size
    · refine dead_err hlt ?_
      rw [hq hlt]
      unfold bvQ
      rw [hw hlt, if_neg (by decide), if_neg h1, if_neg h2, if_neg c34, if_neg (fun e => cnum (.inl e)), if_neg (fun e => cnum (.inr (by omega))), if_neg c116, if_neg c102, if_neg c110, if_neg (fun e => cnum (.inr (by
        have e' : 49 ≤ bAt s σ.at_ ∧ bAt s σ.at_ ≤ 57 := by simpa using e
        omega)))]
    · exact dead_end (by omega) h32 rfl
end
section
/- (Gv) The reader and the scanner go together: values, arrays, objects. -/
theorem RunQ.le {s : ByteArray} {a b : Nat} {A B : Sc} (h : RunQ s a A b B) (ha : a ≤ s.size) : b ≤ s.size := by
  induction h with
  | refl => exact ha
  | step h1 _ _ _ ih => exact ih (by omega)
theorem Goes.le {s : ByteArray} {K : List Int} {a : Nat} {A : Sc} {f0 : Int} {r : Bool} {σ' : St} (h : Goes s K a A f0 r σ') (ha : a ≤ s.size) : σ'.at_ ≤ s.size := by
  unfold Goes at h
  split at h
  · obtain ⟨_, B, h1, _⟩ := h; exact h1.le ha
  · obtain ⟨_, B, h1, _⟩ := h; exact h1.le ha
theorem goes_true {s : ByteArray} {K : List Int} {a : Nat} {A : Sc} {f0 : Int} {σ' : St} (h : Goes s K a A f0 true σ') : σ'.fault = f0 ∧ ∃ B, RunQ s a A σ'.at_ B ∧ EndA s σ'.at_ B K := by
  unfold Goes at h
  rw [if_pos rfl] at h
  exact h
theorem goes_false {s : ByteArray} {K K' : List Int} {a : Nat} {A : Sc} {f0 f1 : Int} {σ' : St} (h : Goes s K a A f0 false σ') : Goes s K' a A f1 false σ' := by
  unfold Goes at h ⊢
  rw [if_neg (by decide)] at h ⊢
  exact h
theorem goes_dead {s : ByteArray} {K : List Int} {a : Nat} {A B : Sc} {f0 : Int} {σ' : St} (hf : σ'.fault ≠ 0) (h1 : RunQ s a A σ'.at_ B) (h2 : Dead s σ'.at_ B) : Goes s K a A f0 false σ' := by
  unfold Goes
  rw [if_neg (by decide)]
  exact ⟨hf, B, h1, h2⟩
/-- A name with its colon. -/
def GoesN (s : ByteArray) (K : List Int) (a : Nat) (A : Sc) (f0 : Int) (r : Bool) (σ' : St) : Prop :=
  if r then σ'.fault = f0 ∧ RunQ s a A σ'.at_ ⟨.bv, false, 1 :: K, false⟩ else σ'.fault ≠ 0 ∧ ∃ B, RunQ s a A σ'.at_ B ∧ Dead s σ'.at_ B
def GT (s : ByteArray) : Tg → St → Bool → St → Prop
  | .val, σ, r, σ' => ∀ q K, σ.at_ ≤ s.size → (q = .bv ∨ q = .bvE ∧ bAt s (St.sp s σ).at_ ≠ 93) → Goes s K σ.at_ ⟨q, false, K, false⟩ σ.fault r σ'
  | .arr, σ, r, σ' => ∀ K, σ.at_ ≤ s.size → Goes s K σ.at_ ⟨.bvE, false, 2 :: K, false⟩ σ.fault r σ'
  | .arrL, σ, r, σ' => ∀ q K, σ.at_ ≤ s.size → (q = .bv ∨ q = .bvE ∧ bAt s (St.sp s σ).at_ ≠ 93) → Goes s K σ.at_ ⟨q, false, 2 :: K, false⟩ σ.fault r σ'
  | .obj, σ, r, σ' => ∀ K, σ.at_ ≤ s.size → Goes s K σ.at_ ⟨.bsE, false, 0 :: K, false⟩ σ.fault r σ'
  | .objL, σ, r, σ' => ∀ q K, σ.at_ ≤ s.size → (q = .bs ∨ q = .bsE ∧ bAt s σ.at_ ≠ 125) → (isSp (bAt s σ.at_) = false ∨ σ.at_ = s.size) → Goes s K σ.at_ ⟨q, false, 0 :: K, false⟩ σ.fault r σ'
  | .name, σ, r, σ' => ∀ q K, σ.at_ ≤ s.size → (q = .bs ∨ q = .bsE ∧ bAt s σ.at_ ≠ 125) → (isSp (bAt s σ.at_) = false ∨ σ.at_ = s.size) → GoesN s K σ.at_ ⟨q, false, 0 :: K, false⟩ σ.fault r σ'
/-- White space ahead of something. -/
theorem sp_facts {s : ByteArray} {σ : St} (ha : σ.at_ ≤ s.size) : (St.sp s σ).at_ ≤ s.size ∧ (St.sp s σ).fault = σ.fault ∧ (isSp (bAt s (St.sp s σ).at_) = false ∨ (St.sp s σ).at_ = s.size) := by
  have hs := sp_spec s (s.size - σ.at_) σ ha (Nat.le_refl _)
  refine ⟨hs.1, hs.2.2.1, ?_⟩
  by_cases hl : (St.sp s σ).at_ < s.size
  · exact .inl (hs.2.2.2 hl)
  · exact .inr (by have := hs.1; unfold St.sp at hl ⊢; omega)
theorem sp_idem {s : ByteArray} {σ : St} (ha : σ.at_ ≤ s.size) : St.sp s (St.sp s σ) = St.sp s σ := by
  have h := sp_facts ha
  generalize St.sp s σ = τ at h ⊢
  obtain ⟨h1, _, h3⟩ := h
  unfold St.sp
  cases hn : s.size - τ.at_ with
  | zero => rfl
  | succ n =>
    refine sp_stop fun hc => ?_
    rcases h3 with h | h
    · rw [h] at hc; exact absurd hc.2 (by decide)
    · omega
theorem stay_run {s : ByteArray} (q : Sq) (K : List Int) (hq : q = .bv ∨ q = .bvE ∨ q = .bs ∨ q = .bsE) (σ : St) : RunQ s σ.at_ ⟨q, false, K, false⟩ (St.sp s σ).at_ ⟨q, false, K, false⟩ := by
  refine sp_run s ⟨q, false, K, false⟩ rfl (fun c hc => .inl ?_) _ σ
  rcases hq with rfl | rfl | rfl | rfl
  · show bvQ _ _ = _; unfold bvQ; rw [if_pos hc]
  · show bvEQ _ _ = _; unfold bvEQ; rw [if_pos hc]
  · show bsQ _ _ = _; unfold bsQ; rw [if_pos hc]
  · show bsEQ _ _ = _; unfold bsEQ; rw [if_pos hc]
theorem begins {q : Sq} {K : List Int} {c : Int} (hq : q = .bv ∨ q = .bvE ∧ c ≠ 93) : stepQ ⟨q, false, K, false⟩ c = bvQ ⟨q, false, K, false⟩ c := by
  rcases hq with rfl | ⟨rfl, h⟩
  · rfl
  · show bvEQ _ _ = _
    unfold bvEQ bvQ
    by_cases hw : isW c = true
    · rw [if_pos hw, if_pos hw]
    · rw [if_neg hw, if_neg hw, if_neg h]
theorem begins32 {q : Sq} {K : List Int} {P : Prop} (hq : q = .bv ∨ q = .bvE ∧ P) : (stepQ ⟨q, false, K, false⟩ 32).2.top = false := by
  rcases hq with rfl | ⟨rfl, h⟩ <;> rfl
theorem begins34 {q : Sq} {K : List Int} {c : Int} (hq : q = .bs ∨ q = .bsE ∧ c ≠ 125) : stepQ ⟨q, false, K, false⟩ c = bsQ ⟨q, false, K, false⟩ c := by
  rcases hq with rfl | ⟨rfl, h⟩
  · rfl
  · show bsEQ _ _ = _
    unfold bsEQ bsQ
    by_cases hw : isW c = true
    · rw [if_pos hw, if_pos hw]
    · rw [if_neg hw, if_neg hw, if_neg h]
theorem name_dead {s : ByteArray} {q : Sq} {K : List Int} {a : Nat} (ha : a ≤ s.size) (hq : q = .bs ∨ q = .bsE ∧ bAt s a ≠ 125) (hsp : isSp (bAt s a) = false ∨ a = s.size) (h34 : bAt s a ≠ 34) : Dead s a ⟨q, false, 0 :: K, false⟩ := by
  by_cases hl : a < s.size
  · have hw : isW (bAt s a) = false := by rw [isW_sp]; rcases hsp with h | h; exact h; omega
    refine dead_err hl ?_
    rw [begins34 hq]
    unfold bsQ
    rw [hw, if_neg (by decide), if_neg h34]
  · refine dead_end (by omega) ?_ rfl
    rcases hq with rfl | ⟨rfl, _⟩ <;> rfl
theorem goesN_pre {s : ByteArray} {K : List Int} {a b : Nat} {A B : Sc} {f0 : Int} {r : Bool} {σ' : St} (h : RunQ s a A b B) (k : GoesN s K b B f0 r σ') : GoesN s K a A f0 r σ' := by
  unfold GoesN at k ⊢
  split
  · rename_i hr
    rw [if_pos hr] at k
    exact ⟨k.1, h.trans k.2⟩
  · rename_i hr
    rw [if_neg hr] at k
    obtain ⟨k1, C, k2, k3⟩ := k
    exact ⟨k1, C, h.trans k2, k3⟩
theorem reader_goes {s : ByteArray} {t : Tg} {σ : St} {r : Bool} {σ' : St} (h : RdR s true true t σ r σ') : GT s t σ r σ' := by
  induction h with
  | @scal σ r σ' h1 h2 h3 =>
    intro q K ha hq
    have hf := sp_facts ha
    have := scalar_goes (K := K) q σ.fault hf.1 hf.2.1 hf.2.2 (fun _ => begins hq) (begins32 hq) h1 h2 h3
    exact Goes.pre (stay_run q K (by rcases hq with rfl | ⟨rfl, _⟩ <;> simp) σ) this
  | @vobj σ r σ' h1 _ ih =>
    intro q K ha hq
    have hf := sp_facts ha
    have hlt : (St.sp s σ).at_ < s.size := St.byte_in (s := s) (by omega)
    have hr : RunQ s (St.sp s σ).at_ ⟨q, false, K, false⟩ ((St.sp s σ).at_ + 1) ⟨.bsE, false, 0 :: K, false⟩ := by
      refine .one (k := 2) hlt ?_ (by decide) rfl
      rw [begins hq, h1]
      rfl
    have hi := ih K (by show (St.sp s σ).at_ + 1 ≤ s.size; omega)
    rw [show (St.sp s σ).at1.fault = σ.fault from hf.2.1] at hi
    exact Goes.pre ((stay_run q K (by rcases hq with rfl | ⟨rfl, _⟩ <;> simp) σ).trans hr) hi
  | @varr σ r σ' h1 _ ih =>
    intro q K ha hq
    have hf := sp_facts ha
    have hlt : (St.sp s σ).at_ < s.size := St.byte_in (s := s) (by omega)
    have hr : RunQ s (St.sp s σ).at_ ⟨q, false, K, false⟩ ((St.sp s σ).at_ + 1) ⟨.bvE, false, 2 :: K, false⟩ := by
      refine .one (k := 6) hlt ?_ (by decide) rfl
      rw [begins hq, h1]
      rfl
    have hi := ih K (by show (St.sp s σ).at_ + 1 ≤ s.size; omega)
    rw [show (St.sp s σ).at1.fault = σ.fault from hf.2.1] at hi
    exact Goes.pre ((stay_run q K (by rcases hq with rfl | ⟨rfl, _⟩ <;> simp) σ).trans hr) hi
  | @arr0 σ h1 =>
    intro K ha
    have hf := sp_facts ha
    have hlt : (St.sp s σ).at_ < s.size := St.byte_in (s := s) (by omega)
    have hp := endA_pop (s := s) (a := (St.sp s σ).at_ + 1) (A := ⟨.bvE, false, 2 :: K, false⟩) rfl rfl rfl
    have hr : RunQ s (St.sp s σ).at_ ⟨.bvE, false, 2 :: K, false⟩ ((St.sp s σ).at_ + 1) (Sc.pop ⟨.bvE, false, 2 :: K, false⟩) := by
      refine .one (k := 8) hlt ?_ (by decide) hp.2
      rw [h1]
      rfl
    exact Goes.pre ((stay_run .bvE (2 :: K) (by simp) σ).trans hr) (goes_end (σ := (St.sp s σ).at1) hf.2.1 hp.1)
  | @arrB σ r σ' h1 _ ih =>
    intro K ha
    have hf := sp_facts ha
    have hi := ih .bvE K hf.1 (.inr ⟨rfl, by rw [sp_idem ha]; exact h1⟩)
    rw [hf.2.1] at hi
    exact Goes.pre (stay_run .bvE (2 :: K) (by simp) σ) hi
  | @arrF σ σ' _ ih =>
    intro q K ha hq
    exact goes_false (ih q (2 :: K) ha hq)
  | @arrE σ σ1 _ h1 ih =>
    intro q K ha hq
    have hg := ih q (2 :: K) ha hq
    have hle := hg.le ha
    obtain ⟨g1, B, g2, g3⟩ := goes_true hg
    obtain ⟨C, c1, c2, c3, c4, c5⟩ := endA_sp hle g3
    have hlt : (St.sp s σ1).at_ < s.size := St.byte_in (s := s) (by omega)
    obtain ⟨D, d1, d2⟩ := arr_close c2 hlt h1
    exact Goes.pre (g2.trans (c1.trans d1)) (goes_end (σ := (St.sp s σ1).at1) (c5.trans g1) d2)
  | @arrN σ σ1 σ' _ h1 h2 ih =>
    intro q K ha hq
    have hg := ih q (2 :: K) ha hq
    have hle := hg.le ha
    obtain ⟨g1, B, g2, g3⟩ := goes_true hg
    obtain ⟨C, c1, c2, c3, c4, c5⟩ := endA_sp hle g3
    rcases need_cases s (St.sp s σ1) 44 44 with ⟨e, _⟩ | ⟨e, hno⟩
    · rw [e] at h2; cases h2
    · rw [e] at h2
      injection h2 with _ h2
      subst h2
      have h44 : bAt s (St.sp s σ1).at_ ≠ 44 := fun h => by
        have := hno (St.byte_in (s := s) (by omega))
        omega
      refine goes_dead (fail_ne _ (by decide)) (B := C) ?_ ?_
      · rw [St.fail_at]; exact g2.trans c1
      · rw [St.fail_at]; exact arr_dead c2 c4 c3 h1 h44
  | @arrC σ σ1 σ2 r σ' _ h1 h2 _ ih1 ih2 =>
    intro q K ha hq
    have hg := ih1 q (2 :: K) ha hq
    have hle := hg.le ha
    obtain ⟨g1, B, g2, g3⟩ := goes_true hg
    obtain ⟨C, c1, c2, c3, c4, c5⟩ := endA_sp hle g3
    rcases need_cases s (St.sp s σ1) 44 44 with ⟨e, hlt, hc⟩ | ⟨e, hno⟩
    · rw [e] at h2
      injection h2 with _ h2
      subst h2
      have hr := arr_comma c2 hlt (by omega)
      have hi := ih2 .bv K (by show (St.sp s σ1).at_ + 1 ≤ s.size; omega) (.inl rfl)
      have hfe : ({ (St.sp s σ1) with at_ := (St.sp s σ1).at_ + 1 } : St).fault = σ.fault := c5.trans g1
      rw [hfe] at hi
      exact Goes.pre (g2.trans (c1.trans hr)) hi
    · rw [e] at h2; cases h2
  | @obj0 σ h1 =>
    intro K ha
    have hf := sp_facts ha
    have hlt : (St.sp s σ).at_ < s.size := St.byte_in (s := s) (by omega)
    have hp := endA_pop (s := s) (a := (St.sp s σ).at_ + 1) (A := ⟨.bsE, false, 1 :: K, false⟩) rfl rfl rfl
    have hr : RunQ s (St.sp s σ).at_ ⟨.bsE, false, 0 :: K, false⟩ ((St.sp s σ).at_ + 1) (Sc.pop ⟨.bsE, false, 1 :: K, false⟩) := by
      refine .one (k := 5) hlt ?_ (by decide) hp.2
      rw [h1]
      rfl
    exact Goes.pre ((stay_run .bsE (0 :: K) (by simp) σ).trans hr) (goes_end (σ := (St.sp s σ).at1) hf.2.1 hp.1)
  | @objB σ r σ' h1 _ ih =>
    intro K ha
    have hf := sp_facts ha
    have hi := ih .bsE K hf.1 (.inr ⟨rfl, h1⟩) hf.2.2
    rw [hf.2.1] at hi
    exact Goes.pre (stay_run .bsE (0 :: K) (by simp) σ) hi
  | @objF σ σ' _ ih =>
    intro q K ha hq hsp
    have hn := ih q K ha hq hsp
    unfold GoesN at hn
    unfold Goes
    rw [if_neg (by decide)] at hn ⊢
    exact hn
  | @objV σ σ1 σ' _ _ ih1 ih2 =>
    intro q K ha hq hsp
    have hn := ih1 q K ha hq hsp
    unfold GoesN at hn
    rw [if_pos rfl] at hn
    exact Goes.pre hn.2 (goes_false (ih2 .bv (1 :: K) (hn.2.le ha) (.inl rfl)))
  | @objE σ σ1 σ2 _ _ h1 ih1 ih2 =>
    intro q K ha hq hsp
    have hn := ih1 q K ha hq hsp
    unfold GoesN at hn
    rw [if_pos rfl] at hn
    have ha1 := hn.2.le ha
    have hg := ih2 .bv (1 :: K) ha1 (.inl rfl)
    have hle := hg.le ha1
    obtain ⟨g1, B, g2, g3⟩ := goes_true hg
    obtain ⟨C, c1, c2, c3, c4, c5⟩ := endA_sp hle g3
    have hlt : (St.sp s σ2).at_ < s.size := St.byte_in (s := s) (by omega)
    obtain ⟨D, d1, d2⟩ := obj_close c2 hlt h1
    exact Goes.pre (hn.2.trans (g2.trans (c1.trans d1))) (goes_end (σ := (St.sp s σ2).at1) (c5.trans (g1.trans hn.1)) d2)
  | @objN σ σ1 σ2 σ' _ _ h1 h2 ih1 ih2 =>
    intro q K ha hq hsp
    have hn := ih1 q K ha hq hsp
    unfold GoesN at hn
    rw [if_pos rfl] at hn
    have ha1 := hn.2.le ha
    have hg := ih2 .bv (1 :: K) ha1 (.inl rfl)
    have hle := hg.le ha1
    obtain ⟨g1, B, g2, g3⟩ := goes_true hg
    obtain ⟨C, c1, c2, c3, c4, c5⟩ := endA_sp hle g3
    rcases need_cases s (St.sp s σ2) 44 44 with ⟨e, _⟩ | ⟨e, hno⟩
    · rw [e] at h2; cases h2
    · rw [e] at h2
      injection h2 with _ h2
      subst h2
      have h44 : bAt s (St.sp s σ2).at_ ≠ 44 := fun h => by
        have := hno (St.byte_in (s := s) (by omega))
        omega
      refine goes_dead (fail_ne _ (by decide)) (B := C) ?_ ?_
      · rw [St.fail_at]; exact hn.2.trans (g2.trans c1)
      · rw [St.fail_at]; exact obj_dead c2 c4 c3 h1 h44
  | @objC σ σ1 σ2 σ3 r σ' _ _ h1 h2 _ ih1 ih2 ih3 =>
    intro q K ha hq hsp
    have hn := ih1 q K ha hq hsp
    unfold GoesN at hn
    rw [if_pos rfl] at hn
    have ha1 := hn.2.le ha
    have hg := ih2 .bv (1 :: K) ha1 (.inl rfl)
    have hle := hg.le ha1
    obtain ⟨g1, B, g2, g3⟩ := goes_true hg
    obtain ⟨C, c1, c2, c3, c4, c5⟩ := endA_sp hle g3
    rcases need_cases s (St.sp s σ2) 44 44 with ⟨e, hlt, hc⟩ | ⟨e, hno⟩
    · rw [e] at h2
      injection h2 with _ h2
      subst h2
      have hr := obj_comma c2 hlt (by omega)
      have ha3 : ({ (St.sp s σ2) with at_ := (St.sp s σ2).at_ + 1 } : St).at_ ≤ s.size := by show (St.sp s σ2).at_ + 1 ≤ s.size; omega
      have hf := sp_facts ha3
      have hi := ih3 .bs K hf.1 (.inl rfl) hf.2.2
      rw [show (St.sp s { (St.sp s σ2) with at_ := (St.sp s σ2).at_ + 1 }).fault = σ.fault from hf.2.1.trans (c5.trans (g1.trans hn.1))] at hi
      exact Goes.pre (hn.2.trans (g2.trans (c1.trans (hr.trans (stay_run .bs (0 :: K) (by simp) { (St.sp s σ2) with at_ := (St.sp s σ2).at_ + 1 }))))) hi
    · rw [e] at h2; cases h2
  | @nameK σ σ' h1 h2 h3 h4 =>
    intro q K ha hq hsp
    unfold GoesN
    rw [if_neg (by decide)]
    refine ⟨h4, ⟨q, false, 0 :: K, false⟩, by rw [h3]; exact .refl, ?_⟩
    rw [h3]
    exact name_dead ha hq hsp h1
  | @nameQ σ σ' h1 h2 =>
    intro q K ha hq hsp
    unfold GoesN
    rw [if_neg (by decide)]
    by_cases h34 : bAt s σ.at_ = 34
    · have hg := (quoted_goes (K := 0 :: K) σ.fault ha rfl h34 (A := ⟨q, false, 0 :: K, false⟩) (by rw [begins34 (by rcases hq with h | h; exact .inl h; exact .inr ⟨h.1, by decide⟩)]; rfl) h2).1
      unfold GoesS at hg
      rw [if_neg (by decide)] at hg
      exact hg
    · unfold St.quoted at h2
      rcases need_cases s σ 34 34 with ⟨e, _, hc⟩ | ⟨e, _⟩
      · omega
      · rw [e] at h2
        have h2' : (false, σ.fail 4) = (false, σ') := h2
        injection h2' with _ h3
        subst h3
        refine ⟨fail_ne _ (by decide), ⟨q, false, 0 :: K, false⟩, by rw [St.fail_at]; exact .refl, ?_⟩
        rw [St.fail_at]
        exact name_dead ha hq hsp h34
  | nameT _ h => cases h
  | @nameY σ σ1 σ2 r σ' h1 h2 h3 h4 =>
    intro q K ha hq hsp
    have h34 : bAt s σ.at_ = 34 := by
      unfold St.quoted at h1
      rcases need_cases s σ 34 34 with ⟨e, _, hc⟩ | ⟨e, _⟩
      · omega
      · rw [e] at h1
        cases h1
    have hg := quoted_goes (K := 0 :: K) σ.fault ha rfl h34 (A := ⟨q, false, 0 :: K, false⟩) (by rw [begins34 (by rcases hq with h | h; exact .inl h; exact .inr ⟨h.1, by decide⟩)]; rfl) h1
    obtain ⟨hg, hg2⟩ := hg
    obtain ⟨l1, l2⟩ := hg2 rfl
    unfold GoesS at hg
    rw [if_pos rfl] at hg
    rw [← h2] at hg l1 l2
    have hr : RunQ s σ2.at_ ⟨.str, false, 0 :: K, false⟩ (σ2.at_ + 1) ⟨.ev, false, 0 :: K, false⟩ := by
      refine .one (k := 0) l1 ?_ (by decide) rfl
      rw [l2]
      rfl
    have hE : EndA s σ2.at1.at_ ⟨.ev, false, 0 :: K, false⟩ (0 :: K) := ⟨rfl, rfl, fun _ => rfl, rfl, fun h => by cases h⟩
    obtain ⟨C, c1, c2, c3, c4, c5⟩ := endA_sp (σ := σ2.at1) (by show σ2.at_ + 1 ≤ s.size; omega) hE
    refine goesN_pre (hg.2.trans (hr.trans c1)) ?_
    rcases need_cases s (St.sp s σ2.at1) 58 58 with ⟨e, hlt, hc⟩ | ⟨e, hno⟩
    · rw [e] at h4
      injection h4 with e1 e2
      subst e1 e2
      unfold GoesN
      rw [if_pos rfl]
      exact ⟨c5.trans (h3.trans hg.1), key_colon c2 hlt (by omega)⟩
    · rw [e] at h4
      injection h4 with e1 e2
      subst e1 e2
      unfold GoesN
      rw [if_neg (by decide)]
      refine ⟨fail_ne _ (by decide), C, by rw [St.fail_at]; exact .refl, ?_⟩
      rw [St.fail_at]
      exact key_dead c2 c4 c3 (fun h => by
        have := hno (St.byte_in (s := s) (by omega))
        omega)
end
section
/- (Gp) Reading a whole text, and the scanner over it: the plain mathematics. -/
/-- Where something is wrong, the scanner's state says so. -/
def Br (r : Int × Sc) : Prop := r.2.bad = true → r.2.q = .er
theorem br_err {σ : Sc} : Br σ.err := fun _ => rfl
theorem br_of {r : Int × Sc} (h : r.2.bad = false) : Br r := fun e => by rw [h] at e; cases e
theorem pop_bad (σ : Sc) : σ.pop.bad = σ.bad := by
  obtain ⟨q, t, s, d⟩ := σ
  rcases s with _ | ⟨a, _ | ⟨b, r⟩⟩ <;> rfl
theorem br_top {σ : Sc} (h : σ.bad = false) (c : Int) : Br (topQ σ c) := by
  unfold topQ
  split
  · exact br_of h
  · exact fun _ => rfl
theorem br_end {σ : Sc} (h : σ.bad = false) (c : Int) : Br (endQ σ c) := by
  unfold endQ
  split
  · exact br_top (σ := { σ with q := .et, top := true }) h c
  · repeat' split
    all_goals first
      | exact br_err
      | exact br_of h
      | exact br_of (by rw [pop_bad]; exact h)
theorem br_bv {σ : Sc} (h : σ.bad = false) (c : Int) : Br (bvQ σ c) := by
  unfold bvQ
  repeat' split
  all_goals first
    | exact br_of h
    | exact br_err
theorem br_bs {σ : Sc} (h : σ.bad = false) (c : Int) : Br (bsQ σ c) := by
  unfold bsQ
  repeat' split
  all_goals first
    | exact br_of h
    | exact br_err
theorem br_step {σ : Sc} (h : σ.bad = false) (c : Int) : Br (stepQ σ c) := by
  have hE := br_end h c
  have hT := br_top h c
  have hV := br_bv h c
  have hS := br_bs h c
  obtain ⟨q, t, s, d⟩ := σ
  have hE2 := br_end (σ := ⟨q, t, 1 :: s.tail, d⟩) h c
  have h0 : Br (s0Q ⟨q, t, s, d⟩ c) := by
    unfold s0Q
    repeat' split
    all_goals first | exact br_of h | exact hE
  have hG : Br (esgQ ⟨q, t, s, d⟩ c) := by
    unfold esgQ
    repeat' split
    all_goals first | exact br_of h | exact br_err
  cases q
  case bv => exact hV
  case bs => exact hS
  case ev => exact hE
  case et => exact hT
  case s0 => exact h0
  case esg => exact hG
  case er => exact br_of h
  all_goals
    simp only [stepQ, bvEQ, bsEQ, strQ, escQ, hexQ, negQ, s1Q, dotQ, dot0Q, eeQ, e0Q, litQ]
    repeat' split
    all_goals first
      | exact br_of h
      | exact br_err
      | exact hE
      | exact hE2
      | exact hV
      | exact hS
      | exact h0
      | exact hG
theorem gdrop {t : ByteArray} {k : Nat} (h : k < t.size) : (bl t).drop k = bAt t k :: (bl t).drop (k + 1) := by
  have hl : k < (bl t).length := by rw [bl_len]; exact h
  rw [List.drop_eq_getElem_cons hl, bAt_lt h]
  congr 1
  simp [bl]
  rfl
theorem RunQ.bad {s : ByteArray} {a b : Nat} {A B : Sc} (h : RunQ s a A b B) (ha : A.bad = false) : B.bad = false := by
  induction h with
  | refl => exact ha
  | step _ _ h3 _ ih => exact ih h3
theorem RunQ.ge {s : ByteArray} {a b : Nat} {A B : Sc} (h : RunQ s a A b B) : a ≤ b := by
  induction h with
  | refl => exact Nat.le_refl _
  | step _ _ _ _ ih => omega
theorem run_valid {s : ByteArray} {a b : Nat} {A B : Sc} (h : RunQ s a A b B) : validQ A ((bl s).drop a) = validQ B ((bl s).drop b) := by
  induction h with
  | refl => rfl
  | step h1 h2 _ _ ih => rw [gdrop h1, validQ, if_neg h2, ih]
theorem valid_bad (σ : Sc) (h : σ.q = .er) (hb : σ.bad = true) (l : List Int) : validQ σ l = false := by
  obtain ⟨q, t, s, d⟩ := σ
  dsimp only at h hb
  subst h hb
  cases l with
  | nil => rfl
  | cons c l => rfl
theorem dead_valid {s : ByteArray} {a : Nat} {A : Sc} (hb : A.bad = false) (h : Dead s a A) : validQ A ((bl s).drop a) = false := by
  rcases h with ⟨h1, h2⟩ | ⟨h1, h2⟩
  · rw [gdrop h1, validQ]
    split
    · rfl
    · rename_i h3
      have hbad := h2.resolve_left h3
      exact valid_bad _ (br_step hb _ hbad) hbad _
  · subst h1
    rw [List.drop_of_length_le (by rw [bl_len]; exact Nat.le_refl _), validQ, h2]
    rfl
theorem endA_eof {s : ByteArray} {a : Nat} {A : Sc} (h : EndA s a A []) : (eofQ A).1 = 10 ∧ (eofQ A).2.bad = false := by
  have e : stepQ A 32 = (10, { A with q := .et, top := true }) := by
    rw [h.eof]
    have hs := h.stk
    obtain ⟨q, t, S, d⟩ := A
    dsimp only at hs
    subst hs
    rfl
  unfold eofQ
  rw [h.bad, if_neg (by decide)]
  split
  · exact ⟨rfl, h.bad⟩
  · rw [e, if_pos rfl]
    exact ⟨rfl, h.bad⟩
/-- What reading a whole text comes to. -/
def ParseR (s : ByteArray) (σ' : St) : Prop := ∃ (r : Bool) (σ1 : St), RdR s true true .val ⟨0, 0, false⟩ r σ1 ∧ σ' = if r then (if (St.sp s σ1).at_ < s.size then (St.sp s σ1).fail 4 else St.sp s σ1) else σ1
theorem parse_goes {s : ByteArray} {σ' : St} (h : ParseR s σ') :
    (σ'.fault = 0 ∧ σ'.at_ = s.size ∧ ∃ C, RunQ s 0 sc0 s.size C ∧ EndA s s.size C []) ∨ (σ'.fault ≠ 0 ∧ σ'.at_ ≤ s.size ∧ ∃ B, RunQ s 0 sc0 σ'.at_ B ∧ Dead s σ'.at_ B) := by
  obtain ⟨r, σ1, h1, h2⟩ := h
  have hg := reader_goes h1 .bv [] (Nat.zero_le _) (.inl rfl)
  have hle := hg.le (Nat.zero_le _)
  cases r
  · rw [if_neg (by decide)] at h2
    subst h2
    unfold Goes at hg
    rw [if_neg (by decide)] at hg
    exact .inr ⟨hg.1, hle, hg.2⟩
  · rw [if_pos rfl] at h2
    obtain ⟨g1, B, g2, g3⟩ := goes_true hg
    obtain ⟨C, c1, c2, c3, c4, c5⟩ := endA_sp hle g3
    by_cases hlt : (St.sp s σ1).at_ < s.size
    · rw [if_pos hlt] at h2
      subst h2
      refine .inr ⟨fail_ne _ (by decide), by rw [St.fail_at]; exact c4, C, by rw [St.fail_at]; exact g2.trans c1, ?_⟩
      rw [St.fail_at]
      refine .inl ⟨hlt, .inr ?_⟩
      have hw : isW (bAt s (St.sp s σ1).at_) = false := by rw [isW_sp]; rcases c3 with h | h; exact h; omega
      rw [c2.nx hlt]
      unfold endQ
      rw [c2.stk]
      show (topQ _ _).2.bad = true
      unfold topQ
      rw [hw]
      rfl
    · rw [if_neg hlt] at h2
      subst h2
      have he : (St.sp s σ1).at_ = s.size := by omega
      refine .inl ⟨c5.trans g1, he, C, ?_, ?_⟩
      · rw [← he]; exact g2.trans c1
      · rw [← he]; exact c2
/-- The reader takes a text just if the scanner does. -/
theorem parse_valid {s : ByteArray} {σ' : St} (h : ParseR s σ') : (σ'.fault = 0 ↔ validQ sc0 (bl s) = true) := by
  rcases parse_goes h with ⟨h1, h2, C, h3, h4⟩ | ⟨h1, h2, B, h3, h4⟩
  · have e := run_valid h3
    rw [List.drop_zero, List.drop_of_length_le (by rw [bl_len]; exact Nat.le_refl _)] at e
    have : validQ C [] = true := by
      show ((eofQ C).1 != 11) = true
      rw [(endA_eof h4).1]
      rfl
    rw [e, this]
    simp [h1]
  · have e := run_valid h3
    rw [List.drop_zero, dead_valid (h3.bad rfl) h4] at e
    rw [e]
    simp [h1]
end
section
/- (Iw) An invariant of the scanner's state: the plain mathematics. -/
def Good (r : Int × Sc) : Prop := r.1 ≠ 11 ∧ r.2.bad = false
theorem not_err {σ : Sc} : ¬ Good σ.err := fun h => h.1 rfl
/-- What else holds of the scanner's state: where a brace has just begun, where all has ended. -/
structure Inw (A : Sc) : Prop where
  bs : A.q = .bsE → ∃ r, A.stk = 0 :: r
  et : A.top = true ↔ A.q = .et
  es : A.q = .et → A.stk = []
theorem inw0 : Inw sc0 := ⟨nofun, ⟨nofun, nofun⟩, nofun⟩
theorem inw_to {A : Sc} (h : A.top = false) (k : Int) (q : Sq) (h1 : q ≠ .bsE) (h2 : q ≠ .et) : Inw (A.to k q).2 := ⟨fun e => absurd e h1, ⟨fun e => absurd (show A.top = true from e) (by rw [h]; decide), fun e => absurd e h2⟩, fun e => absurd e h2⟩
theorem inw_err {A : Sc} (h : A.top = false) : Inw A.err.2 := ⟨nofun, ⟨fun e => absurd (show A.top = true from e) (by rw [h]; decide), nofun⟩, nofun⟩
theorem inw_pop {A : Sc} (h : A.top = false) (hs : A.stk ≠ []) : Inw A.pop := by
  obtain ⟨q, t, s, d⟩ := A
  dsimp only at h
  subst h
  rcases s with _ | ⟨a, _ | ⟨b, r⟩⟩
  · exact absurd rfl hs
  · exact ⟨nofun, ⟨fun _ => rfl, fun _ => rfl⟩, fun _ => rfl⟩
  · exact ⟨nofun, ⟨nofun, nofun⟩, nofun⟩
theorem inw_end {A : Sc} (h : A.top = false) {c : Int} (hg : Good (endQ A c)) : Inw (endQ A c).2 := by
  unfold endQ at hg ⊢
  split
  · rename_i hs
    unfold topQ at hg ⊢
    by_cases hw : isW c = true
    · rw [if_pos hw]
      exact ⟨nofun, ⟨fun _ => rfl, fun _ => rfl⟩, fun _ => hs⟩
    · rw [hs] at hg
      dsimp only at hg
      rw [if_neg hw] at hg
      exact absurd hg.2 (by simp [Sc.err])
  · rename_i k r hs
    have hne : A.stk ≠ [] := by rw [hs]; simp
    repeat' split
    all_goals first
      | exact inw_to h _ _ nofun nofun
      | exact inw_err h
      | exact inw_pop h hne
      | exact ⟨nofun, ⟨fun e => absurd (show A.top = true from e) (by rw [h]; decide), nofun⟩, nofun⟩
theorem inw_q {A B : Sc} (h : A.top = false) (hb : B.top = A.top) (h1 : B.q ≠ .bsE) (h2 : B.q ≠ .et) : Inw B := ⟨fun e => absurd e h1, ⟨fun e => absurd e (by rw [hb, h]; decide), fun e => absurd e h2⟩, fun e => absurd e h2⟩
theorem inw_step {A : Sc} (hi : Inw A) {c : Int} (hg : Good (stepQ A c)) : Inw (stepQ A c).2 := by
  obtain ⟨q, t, s, d⟩ := A
  by_cases hq : q = .et
  · subst hq
    have ht : t = true := hi.et.2 rfl
    have hs : s = [] := hi.es rfl
    subst ht hs
    change Good (topQ _ c) at hg
    show Inw (topQ _ c).2
    unfold topQ at hg ⊢
    by_cases hw : isW c = true
    · rw [if_pos hw]; exact hi
    · rw [if_neg hw] at hg
      exact absurd hg.2 (by simp [Sc.err])
  have ht : t = false := by
    cases t
    · rfl
    · exact absurd (hi.et.1 rfl) hq
  subst ht
  have hE : ∀ {S : List Int}, Good (endQ ⟨q, false, S, d⟩ c) → Inw (endQ ⟨q, false, S, d⟩ c).2 := fun h => inw_end rfl h
  have hV : Inw (bvQ ⟨q, false, s, d⟩ c).2 ∨ ¬ q = .bsE → q ≠ .bsE → Inw (bvQ ⟨q, false, s, d⟩ c).2 := fun _ hq2 => by
    unfold bvQ
    repeat' split
    all_goals first
      | exact hi
      | exact inw_err rfl
      | (refine inw_to rfl _ _ ?_ ?_ <;> (intro e; cases e; done))
      | exact ⟨fun _ => ⟨s, rfl⟩, ⟨fun e => (by simp [Sc.pushed] at e), fun e => (by simp [Sc.pushed] at e)⟩, fun e => (by simp [Sc.pushed] at e)⟩
      | exact ⟨fun e => (by simp [Sc.pushed] at e), ⟨fun e => (by simp [Sc.pushed] at e), fun e => (by simp [Sc.pushed] at e)⟩, fun e => (by simp [Sc.pushed] at e)⟩
  have hS : Inw (bsQ ⟨q, false, s, d⟩ c).2 := by
    unfold bsQ
    repeat' split
    all_goals first
      | exact hi
      | exact inw_err rfl
      | (refine inw_to rfl _ _ ?_ ?_ <;> (intro e; cases e; done))
  cases q
  case et => exact absurd rfl hq
  case bv => exact hV (.inr nofun) nofun
  case bs => exact hS
  case ev => exact hE hg
  case er => exact hi
  case bvE =>
    change Good (bvEQ _ c) at hg
    show Inw (bvEQ _ c).2
    unfold bvEQ at hg ⊢
    by_cases hw : isW c = true
    · rw [if_pos hw]; exact hi
    · rw [if_neg hw] at hg ⊢
      by_cases h93 : c = 93
      · rw [if_pos h93] at hg ⊢; exact hE hg
      · rw [if_neg h93]; exact hV (.inr nofun) nofun
  case bsE =>
    change Good (bsEQ _ c) at hg
    show Inw (bsEQ _ c).2
    unfold bsEQ at hg ⊢
    by_cases hw : isW c = true
    · rw [if_pos hw]; exact hi
    · rw [if_neg hw] at hg ⊢
      by_cases h93 : c = 125
      · rw [if_pos h93] at hg ⊢; exact hE hg
      · rw [if_neg h93]; exact hS
  case s1 =>
    change Good (s1Q _ c) at hg
    show Inw (s1Q _ c).2
    unfold s1Q s0Q at hg ⊢
    by_cases h0 : digB c = true
    · rw [if_pos h0]; exact inw_to rfl _ _ nofun nofun
    · rw [if_neg h0] at hg ⊢
      by_cases h1 : c = 46
      · rw [if_pos h1]; exact inw_to rfl _ _ nofun nofun
      · rw [if_neg h1] at hg ⊢
        by_cases h2 : c = 101 ∨ c = 69
        · rw [if_pos h2]; exact inw_to rfl _ _ nofun nofun
        · rw [if_neg h2] at hg ⊢; exact hE hg
  case s0 =>
    change Good (s0Q _ c) at hg
    show Inw (s0Q _ c).2
    unfold s0Q at hg ⊢
    by_cases h1 : c = 46
    · rw [if_pos h1]; exact inw_to rfl _ _ nofun nofun
    · rw [if_neg h1] at hg ⊢
      by_cases h2 : c = 101 ∨ c = 69
      · rw [if_pos h2]; exact inw_to rfl _ _ nofun nofun
      · rw [if_neg h2] at hg ⊢; exact hE hg
  case dot0 =>
    change Good (dot0Q _ c) at hg
    show Inw (dot0Q _ c).2
    unfold dot0Q at hg ⊢
    by_cases h1 : digB c = true
    · rw [if_pos h1]; exact hi
    · rw [if_neg h1] at hg ⊢
      by_cases h2 : c = 101 ∨ c = 69
      · rw [if_pos h2]; exact inw_to rfl _ _ nofun nofun
      · rw [if_neg h2] at hg ⊢; exact hE hg
  case e0 =>
    change Good (e0Q _ c) at hg
    show Inw (e0Q _ c).2
    unfold e0Q at hg ⊢
    by_cases h1 : digB c = true
    · rw [if_pos h1]; exact hi
    · rw [if_neg h1] at hg ⊢; exact hE hg
  all_goals
    simp only [stepQ, strQ, escQ, hexQ, negQ, dotQ, eeQ, esgQ, litQ]
    repeat' split
    all_goals first
      | exact hi
      | exact inw_err rfl
      | (refine inw_to rfl _ _ ?_ ?_ <;> (intro e; cases e; done))
end
end Go.Proofs.YtjbffgjclnjkoaaGreatDoor
