/- Joined texts: Gl2, Tc, Ow, Em, LOc. -/
import Derived.Test.YtjbffgjclnjkoaaGreatDoorG1
import Derived.Test.YtjbffgjclnjkoaaGreatDoorK1
import Derived.Test.YtjbffgjclnjkoaaGreatDoorDw
import Derived.Test.YtjbffgjclnjkoaaGreatDoorC2
import Derived.Test.YtjbffgjclnjkoaaGreatDoorWx
import Derived.Test.YtjbffgjclnjkoaaGreatDoorC3
import Derived.Test.YtjbffgjclnjkoaaGreatDoorOc
import Derived.Test.YtjbffgjclnjkoaaGreatDoorSt
namespace Go.Proofs.YtjbffgjclnjkoaaGreatDoor
set_option linter.unusedVariables false
set_option linter.unusedSimpArgs false
section
/- (Gl2) The scanner along a scalar that the reader of the reference takes: no byte is left out. Lines of XG1 by program (gengl.py). -/
open Go.RowKit

/-- The scanner goes along, and each byte counts. -/
inductive RunL (s : ByteArray) : Nat → Sc → Nat → Sc → Prop
  | refl {a A} : RunL s a A a A
  | step {a A a' A'} : a < s.size → (stepQ A (bAt s a)).1 ≠ 11 → (stepQ A (bAt s a)).1 < 9 → (stepQ A (bAt s a)).2.bad = false → RunL s (a + 1) (stepQ A (bAt s a)).2 a' A' → RunL s a A a' A'
namespace RunL
variable {s : ByteArray}
theorem trans {a b c : Nat} {A B C : Sc} (h : RunL s a A b B) (k : RunL s b B c C) : RunL s a A c C := by
  induction h with
  | refl => exact k
  | step h1 h2 h3 h4 _ ih => exact .step h1 h2 h3 h4 (ih k)
theorem one {a : Nat} {A : Sc} {k : Int} {B : Sc} (h : a < s.size) (e : stepQ A (bAt s a) = (k, B)) (hk : k ≠ 11) (hb : B.bad = false) (h9 : k < 9 := by decide) : RunL s a A (a + 1) B := by
  have h1 : (stepQ A (bAt s a)).1 ≠ 11 := by rw [e]; exact hk
  have h2 : (stepQ A (bAt s a)).2.bad = false := by rw [e]; exact hb
  have h3 : (stepQ A (bAt s a)).1 < 9 := by rw [e]; exact h9
  have := RunL.step (a' := a + 1) (A' := (stepQ A (bAt s a)).2) h h1 h3 h2 .refl
  rw [e] at this
  exact this
theorem toQ {a b : Nat} {A B : Sc} (h : RunL s a A b B) : RunQ s a A b B := by
  induction h with
  | refl => exact .refl
  | step h1 h2 h3 h4 _ ih => exact .step h1 h2 h4 ih
end RunL
/-- How a scalar's reading goes with the scanner. -/
def GoesM (s : ByteArray) (K : List Int) (a : Nat) (A : Sc) (f0 : Int) (r : Bool) (σ' : St) : Prop :=
  if r then σ'.fault = f0 ∧ ∃ B, RunL s a A σ'.at_ B ∧ EndA s σ'.at_ B K else σ'.fault ≠ 0 ∧ ∃ B, RunL s a A σ'.at_ B ∧ Dead s σ'.at_ B
/-- Words. -/
theorem word_goesL (s : ByteArray) (K : List Int) (f0 : Int) : ∀ (l : List (Int × Sq)) (q : Sq) (σ : St), σ.at_ ≤ s.size → σ.fault = f0 →
    (∀ (m : List (Int × Sq)) (c : Int) (q' : Sq) (n : List (Int × Sq)), l = m ++ (c, q') :: n → ∀ K' c', stepQ ⟨lastQ q m, false, K', false⟩ c' = litQ ⟨lastQ q m, false, K', false⟩ c' c q') →
    (lastQ q l = .ev) → (∀ c ∈ l.map Prod.fst, c ≠ 32) →
    ∀ r σ', St.word s (l.map Prod.fst) σ = (r, σ') → GoesM s K σ.at_ ⟨q, false, K, false⟩ f0 r σ'
  | [], q, σ, ha, hf, _, hl, _, r, σ', h => by
    simp only [List.map_nil, St.word] at h
    injection h with h1 h2
    subst h1 h2
    have hl : q = .ev := hl
    subst hl
    unfold GoesM
    rw [if_pos rfl]
    exact ⟨hf, _, .refl, rfl, rfl, fun _ => rfl, rfl, fun h => (by cases h)⟩
  | (c, q') :: l, q, σ, ha, hf, hst, hl, h32, r, σ', h => by
    simp only [List.map_cons, St.word] at h
    have h0 := hst [] c q' l rfl K
    change ∀ c', stepQ ⟨q, false, K, false⟩ c' = litQ ⟨q, false, K, false⟩ c' c q' at h0
    rcases need_cases s σ c c with ⟨e, hlt, h1, h2⟩ | ⟨e, hno⟩
    · have hc : bAt s σ.at_ = c := by omega
      rw [e] at h
      simp only [St.andThen, if_true] at h
      have ih := word_goesL s K f0 l q' { σ with at_ := σ.at_ + 1 } (by simp; omega) hf (fun m c2 q2 n e2 K' c' => by
        have := hst ((c, q') :: m) c2 q2 n (by rw [e2]; rfl) K' c'
        exact this) hl (fun x hx => h32 x (by simp at hx ⊢; exact .inr hx)) r σ' h
      have hr : RunL s σ.at_ ⟨q, false, K, false⟩ (σ.at_ + 1) ⟨q', false, K, false⟩ := by
        refine .one (k := 0) hlt ?_ (by decide) rfl
        rw [h0, hc]
        unfold litQ
        rw [if_pos rfl]
        rfl
      unfold GoesM at ih ⊢
      split
      · rename_i hr'
        rw [if_pos hr'] at ih
        obtain ⟨i1, B, i2, i3⟩ := ih
        exact ⟨i1, B, hr.trans i2, i3⟩
      · rename_i hr'
        rw [if_neg hr'] at ih
        obtain ⟨i1, B, i2, i3⟩ := ih
        exact ⟨i1, B, hr.trans i2, i3⟩
    · rw [e] at h
      simp only [St.andThen] at h
      have h' : (false, σ.fail 4) = (r, σ') := h
      injection h' with h1 h2
      subst h1 h2
      unfold GoesM
      rw [if_neg (by decide)]
      refine ⟨fail_ne σ (by decide), ⟨q, false, K, false⟩, by rw [St.fail_at]; exact .refl, ?_⟩
      rw [St.fail_at]
      by_cases hlt : σ.at_ < s.size
      · refine dead_err hlt ?_
        rw [h0]
        unfold litQ
        rw [if_neg (fun e => hno hlt ⟨by omega, by omega⟩)]
      · refine dead_end (by omega) ?_ rfl
        rw [h0]
        unfold litQ
        rw [if_neg (fun e => h32 c (by simp) e.symm)]
        rfl
/-- A part of a string: the scanner stands within it behind the part, or comes to its fault with the reader. -/
def GoesT (s : ByteArray) (K : List Int) (a : Nat) (A : Sc) (f0 : Int) (r : Bool) (σ' : St) : Prop :=
  if r then σ'.fault = f0 ∧ RunL s a A σ'.at_ ⟨.str, false, K, false⟩ else σ'.fault ≠ 0 ∧ ∃ B, RunL s a A σ'.at_ B ∧ Dead s σ'.at_ B
theorem GoesT.pre {s : ByteArray} {K : List Int} {a b : Nat} {A B : Sc} {f0 : Int} {r : Bool} {σ' : St} (h : RunL s a A b B) (k : GoesT s K b B f0 r σ') : GoesT s K a A f0 r σ' := by
  unfold GoesT at k ⊢
  split
  · rename_i hr
    rw [if_pos hr] at k
    exact ⟨k.1, h.trans k.2⟩
  · rename_i hr
    rw [if_neg hr] at k
    obtain ⟨k1, C, k2, k3⟩ := k
    exact ⟨k1, C, h.trans k2, k3⟩
theorem goesT_fail {s : ByteArray} {K : List Int} {A : Sc} {f0 : Int} {σ : St} {k : Int} (hk : k ≠ 0) (h : Dead s σ.at_ A) : GoesT s K σ.at_ A f0 false (σ.fail k) := by
  unfold GoesT
  rw [if_neg (by decide)]
  exact ⟨fail_ne σ hk, A, by rw [St.fail_at]; exact .refl, by rw [St.fail_at]; exact h⟩
theorem hex_goesL {s : ByteArray} {K : List Int} (q q' : Sq) (hq : ∀ c, stepQ ⟨q, false, K, false⟩ c = hexQ ⟨q, false, K, false⟩ c q') {σ : St} (ha : σ.at_ ≤ s.size) {f : St → Bool × St} {r : Bool} {σ' : St} (f0 : Int) (hf : σ.fault = f0)
    (h : St.andThen (St.hex s σ 0 15) f = (r, σ')) (hk : ∀ τ : St, τ.at_ ≤ s.size → τ.fault = f0 → f τ = (r, σ') → GoesT s K τ.at_ ⟨q', false, K, false⟩ f0 r σ') : GoesT s K σ.at_ ⟨q, false, K, false⟩ f0 r σ' := by
  rcases hex_cases s σ ha with ⟨e, hlt, hx⟩ | ⟨e, hx⟩
  · rw [e] at h
    have h' : f { σ with at_ := σ.at_ + 1 } = (r, σ') := h
    refine GoesT.pre (b := σ.at_ + 1) (B := ⟨q', false, K, false⟩) ?_ (hk { σ with at_ := σ.at_ + 1 } (by simp; omega) hf h')
    refine .one (k := 0) hlt ?_ (by decide) rfl
    rw [hq]
    unfold hexQ
    rw [if_pos hx]
    rfl
  · rw [e] at h
    have h' : (false, σ.fail 4) = (r, σ') := h
    injection h' with h1 h2
    subst h1 h2
    refine goesT_fail (by decide) ?_
    by_cases hlt : σ.at_ < s.size
    · refine dead_err hlt ?_
      rw [hq]
      unfold hexQ
      rw [hx hlt]
      rfl
    · refine dead_end (by omega) ?_ rfl
      rw [hq]
      rfl
theorem esc_goesL {s : ByteArray} {K : List Int} {σ : St} (ha : σ.at_ ≤ s.size) {r : Bool} {σ' : St} (f0 : Int) (hf : σ.fault = f0) (h : St.escape s true σ = (r, σ')) : GoesT s K σ.at_ ⟨.esc, false, K, false⟩ f0 r σ' := by
  unfold St.escape at h
  dsimp only at h
  by_cases hc : bAt s σ.at_ = 34 ∨ bAt s σ.at_ = 92 ∨ bAt s σ.at_ = 47 ∨ bAt s σ.at_ = 98 ∨ bAt s σ.at_ = 102 ∨ bAt s σ.at_ = 110 ∨ bAt s σ.at_ = 114 ∨ bAt s σ.at_ = 116
  · rw [if_pos hc] at h
    have hlt : σ.at_ < s.size := St.byte_in (s := s) (by omega)
    injection h with h1 h2
    subst h1 h2
    unfold GoesT
    rw [if_pos rfl]
    refine ⟨hf, .one (k := 0) hlt ?_ (by decide) rfl⟩
    show escQ _ _ = _
    unfold escQ
    rw [if_pos (by omega)]
    rfl
  · rw [if_neg hc] at h
    by_cases hu : bAt s σ.at_ = 117
    · rw [if_pos hu] at h
      have hlt : σ.at_ < s.size := St.byte_in (s := s) (by omega)
      have hun : St.unit s true false { σ with at_ := σ.at_ + 1 } = ((St.hex4 s { σ with at_ := σ.at_ + 1 }).1, false, (St.hex4 s { σ with at_ := σ.at_ + 1 }).2) := rfl
      rw [hun] at h
      simp only [Bool.and_false, Bool.false_eq_true, if_false] at h
      have h4 : St.hex4 s { σ with at_ := σ.at_ + 1 } = (r, σ') := h
      have hr : RunL s σ.at_ ⟨.esc, false, K, false⟩ (σ.at_ + 1) ⟨.u0, false, K, false⟩ := by
        refine .one (k := 0) hlt ?_ (by decide) rfl
        rw [hu]; rfl
      refine GoesT.pre hr ?_
      refine hex_goesL .u0 .u1 (fun _ => rfl) (σ := { σ with at_ := σ.at_ + 1 }) (by simp; omega) f0 hf h4 fun τ t1 t2 h3 => ?_
      refine hex_goesL .u1 .u2 (fun _ => rfl) t1 f0 t2 h3 fun τ t1 t2 h2 => ?_
      refine hex_goesL .u2 .u3 (fun _ => rfl) t1 f0 t2 h2 fun τ t1 t2 h1 => ?_
      have h1' : St.andThen (St.hex s τ 0 15) (fun σ => (true, σ)) = (r, σ') := by
        rw [← h1]; unfold St.andThen
        split
        · rename_i hp; rw [← hp]
        · rename_i hp
          have : (St.hex s τ 0 15).1 = false := by simpa using hp
          rw [← this]
      refine hex_goesL .u3 .str (fun _ => rfl) t1 f0 t2 h1' fun τ t1 t2 h0 => ?_
      injection h0 with e1 e2
      subst e1 e2
      unfold GoesT
      rw [if_pos rfl]
      exact ⟨t2, .refl⟩
    · rw [if_neg hu] at h
      injection h with h1 h2
      subst h1 h2
      refine goesT_fail (by decide) ?_
      by_cases hlt : σ.at_ < s.size
      · refine dead_err hlt ?_
        show escQ _ _ = _
        unfold escQ
        rw [if_neg (by omega), if_neg hu]
      · exact dead_end (by omega) rfl rfl
theorem loop_goesL {s : ByteArray} {K : List Int} (f0 : Int) : ∀ (n : Nat) (σ : St), s.size - σ.at_ ≤ n → σ.at_ ≤ s.size → σ.fault = f0 → ∀ r σ', St.strLoop s true n σ = (r, σ') →
    GoesT s K σ.at_ ⟨.str, false, K, false⟩ f0 r σ' ∧ (r = true → σ'.at_ < s.size ∧ bAt s σ'.at_ = 34)
  | 0, σ, hn, ha, hf, r, σ', h => by
    have h' : (false, σ.fail 4) = (r, σ') := h
    injection h' with h1 h2
    subst h1 h2
    exact ⟨goesT_fail (by decide) (dead_end (by omega) rfl rfl), fun h => by cases h⟩
  | n + 1, σ, hn, ha, hf, r, σ', h => by
    rw [St.strLoop] at h
    by_cases hlt : σ.at_ < s.size
    · rw [if_pos hlt] at h
      by_cases h34 : bAt s σ.at_ = 34
      · rw [if_pos h34] at h
        injection h with h1 h2
        subst h1 h2
        refine ⟨?_, fun _ => ⟨hlt, h34⟩⟩
        unfold GoesT
        rw [if_pos rfl]
        exact ⟨hf, .refl⟩
      · rw [if_neg h34] at h
        unfold St.inner at h
        dsimp only at h
        by_cases h92 : bAt s σ.at_ = 92
        · rw [if_pos h92] at h
          have hr : RunL s σ.at_ ⟨.str, false, K, false⟩ (σ.at_ + 1) ⟨.esc, false, K, false⟩ := by
            refine .one (k := 0) hlt ?_ (by decide) rfl
            rw [h92]; rfl
          obtain ⟨p, τ, hp⟩ : ∃ p τ, St.escape s true { σ with at_ := σ.at_ + 1 } = (p, τ) := ⟨_, _, rfl⟩
          have he := esc_goesL (K := K) (σ := { σ with at_ := σ.at_ + 1 }) (by simp; omega) f0 hf hp
          have had := St.escape_adv (s := s) (σ := { σ with at_ := σ.at_ + 1 }) (by simp; omega) true
          rw [hp] at h had
          cases p
          · have h' : (false, τ) = (r, σ') := h
            injection h' with h1 h2
            subst h1 h2
            exact ⟨GoesT.pre hr he, fun h => by cases h⟩
          · have h' : St.strLoop s true n τ = (r, σ') := h
            have h1 := had.1
            have h2 := had.2.1
            dsimp only at h1 h2
            unfold GoesT at he
            rw [if_pos rfl] at he
            have ih := loop_goesL (K := K) f0 n τ (by omega) h2 he.1 r σ' h'
            exact ⟨GoesT.pre (hr.trans he.2) ih.1, ih.2⟩
        · rw [if_neg h92] at h
          by_cases h32 : bAt s σ.at_ < 32
          · rw [if_pos h32] at h
            have h' : (false, σ.fail 4) = (r, σ') := h
            injection h' with h1 h2
            subst h1 h2
            refine ⟨goesT_fail (by decide) (dead_err hlt ?_), fun h => by cases h⟩
            show strQ _ _ = _
            unfold strQ
            rw [if_neg h34, if_neg h92, if_pos h32]
          · rw [if_neg h32, if_pos (.inr rfl)] at h
            have h' : St.strLoop s true n { σ with at_ := σ.at_ + 1 } = (r, σ') := h
            have hr : RunL s σ.at_ ⟨.str, false, K, false⟩ (σ.at_ + 1) ⟨.str, false, K, false⟩ := by
              refine .one (k := 0) hlt ?_ (by decide) rfl
              show strQ _ _ = _
              unfold strQ
              rw [if_neg h34, if_neg h92, if_neg h32]
            have ih := loop_goesL (K := K) f0 n { σ with at_ := σ.at_ + 1 } (by simp; omega) (by simp; omega) hf r σ' h'
            exact ⟨GoesT.pre hr ih.1, ih.2⟩
    · rw [if_neg hlt] at h
      have h' : (false, σ.fail 4) = (r, σ') := h
      injection h' with h1 h2
      subst h1 h2
      exact ⟨goesT_fail (by decide) (dead_end (by omega) rfl rfl), fun h => by cases h⟩
/-- A string up to its last quotation mark, from a state that takes one. -/
theorem quoted_goesL {s : ByteArray} {K : List Int} {A : Sc} (f0 : Int) {σ : St} (ha : σ.at_ ≤ s.size) (hf : σ.fault = f0) (h34 : bAt s σ.at_ = 34) (hA : stepQ A 34 = (1, ⟨.str, false, K, false⟩)) {r : Bool} {σ' : St} (h : St.quoted s true σ = (r, σ')) :
    GoesT s K σ.at_ A f0 r σ' ∧ (r = true → σ'.at_ < s.size ∧ bAt s σ'.at_ = 34) := by
  have hlt : σ.at_ < s.size := St.byte_in (s := s) (by omega)
  unfold St.quoted at h
  have hn : St.need s σ 34 34 = (true, { σ with at_ := σ.at_ + 1 }) := by
    unfold St.need
    rw [if_pos ⟨hlt, by omega, by omega⟩]
  rw [hn] at h
  have h' : St.strLoop s true (s.size - (σ.at_ + 1)) { σ with at_ := σ.at_ + 1 } = (r, σ') := h
  have hr : RunL s σ.at_ A (σ.at_ + 1) ⟨.str, false, K, false⟩ := by
    refine .one (k := 1) hlt ?_ (by decide) rfl
    rw [h34, hA]
  have ih := loop_goesL (K := K) f0 _ { σ with at_ := σ.at_ + 1 } (Nat.le_refl _) (by simp; omega) hf r σ' h'
  exact ⟨GoesT.pre hr ih.1, ih.2⟩
theorem GoesM.pre {s : ByteArray} {K : List Int} {a b : Nat} {A B : Sc} {f0 : Int} {r : Bool} {σ' : St} (h : RunL s a A b B) (k : GoesM s K b B f0 r σ') : GoesM s K a A f0 r σ' := by
  unfold GoesM at k ⊢
  split
  · rename_i hr
    rw [if_pos hr] at k
    obtain ⟨k1, C, k2, k3⟩ := k
    exact ⟨k1, C, h.trans k2, k3⟩
  · rename_i hr
    rw [if_neg hr] at k
    obtain ⟨k1, C, k2, k3⟩ := k
    exact ⟨k1, C, h.trans k2, k3⟩
theorem goes_failL {s : ByteArray} {K : List Int} {A : Sc} {f0 : Int} {σ : St} {k : Int} (hk : k ≠ 0) (h : Dead s σ.at_ A) : GoesM s K σ.at_ A f0 false (σ.fail k) := by
  unfold GoesM
  rw [if_neg (by decide)]
  exact ⟨fail_ne σ hk, A, by rw [St.fail_at]; exact .refl, by rw [St.fail_at]; exact h⟩
theorem goes_endL {s : ByteArray} {K : List Int} {A : Sc} {f0 : Int} {σ : St} (hf : σ.fault = f0) (h : EndA s σ.at_ A K) : GoesM s K σ.at_ A f0 true σ := by
  unfold GoesM
  rw [if_pos rfl]
  exact ⟨hf, A, .refl, h⟩
/-- Digits: the scanner stays where it is. -/
theorem dg_runL (s : ByteArray) (A : Sc) (hb : A.bad = false) (hA : ∀ c, digB c = true → stepQ A c = (0, A)) : ∀ (n i : Nat), i ≤ s.size → s.size - i ≤ n → RunL s i A (dgE s n i) A ∧ (dgE s n i < s.size → digB (bAt s (dgE s n i)) = false)
  | 0, i, h, hn => ⟨.refl, fun hl => by exfalso; simp only [dgE] at hl; omega⟩
  | n + 1, i, h, hn => by
    by_cases hc : i < s.size ∧ dgB (bAt s i) = true
    · rw [dgE, if_pos hc]
      have ih := dg_runL s A hb hA n (i + 1) (by omega) (by omega)
      exact ⟨(RunL.one hc.1 (hA _ hc.2) (by decide) hb).trans ih.1, ih.2⟩
    · rw [dgE, if_neg hc]
      refine ⟨.refl, fun hl => ?_⟩
      cases hd : digB (bAt s i)
      · rfl
      · exact absurd ⟨hl, hd⟩ hc
/-- One digit or more: from state q to state q1, which keeps digits. -/
theorem digits_goesL {s : ByteArray} {K : List Int} (q q1 : Sq) (f0 : Int) {σ : St} (ha : σ.at_ ≤ s.size) (hf : σ.fault = f0) (hq : σ.at_ < s.size → digB (bAt s σ.at_) = true → stepQ ⟨q, false, K, false⟩ (bAt s σ.at_) = (0, ⟨q1, false, K, false⟩) ∨ stepQ ⟨q, false, K, false⟩ (bAt s σ.at_) = (1, ⟨q1, false, K, false⟩))
    (hq1 : ∀ c, digB c = true → stepQ ⟨q1, false, K, false⟩ c = (0, ⟨q1, false, K, false⟩)) (hn : σ.at_ < s.size → digB (bAt s σ.at_) = false → stepQ ⟨q, false, K, false⟩ (bAt s σ.at_) = Sc.err ⟨q, false, K, false⟩) (h32 : (stepQ ⟨q, false, K, false⟩ 32).2.top = false)
    {r : Bool} {σ' : St} (h : St.digits s σ = (r, σ')) :
    if r then σ'.fault = f0 ∧ σ'.at_ ≤ s.size ∧ RunL s σ.at_ ⟨q, false, K, false⟩ σ'.at_ ⟨q1, false, K, false⟩ ∧ (σ'.at_ < s.size → digB (bAt s σ'.at_) = false)
    else σ'.fault ≠ 0 ∧ ∃ B, RunL s σ.at_ ⟨q, false, K, false⟩ σ'.at_ B ∧ Dead s σ'.at_ B := by
  unfold St.digits at h
  rcases need_cases s σ 48 57 with ⟨e, hlt, h1, h2⟩ | ⟨e, hno⟩
  · rw [e] at h
    have h' : (true, ({ σ with at_ := dgE s (s.size - (σ.at_ + 1)) (σ.at_ + 1) } : St)) = (r, σ') := h
    injection h' with e1 e2
    subst e1 e2
    rw [if_pos rfl]
    have hd : digB (bAt s σ.at_) = true := digB_iff' h1 h2
    have hr : RunL s σ.at_ ⟨q, false, K, false⟩ (σ.at_ + 1) ⟨q1, false, K, false⟩ := by
      rcases hq hlt hd with e | e
      · exact .one hlt e (by decide) rfl
      · exact .one hlt e (by decide) rfl
    have hg := dg_runL s ⟨q1, false, K, false⟩ rfl hq1 (s.size - (σ.at_ + 1)) (σ.at_ + 1) (by omega) (Nat.le_refl _)
    exact ⟨hf, (dgE_le s _ _ (by omega)).2, hr.trans hg.1, hg.2⟩
  · rw [e] at h
    have h' : (false, σ.fail 4) = (r, σ') := h
    injection h' with e1 e2
    subst e1 e2
    rw [if_neg (by decide)]
    refine ⟨fail_ne σ (by decide), ⟨q, false, K, false⟩, by rw [St.fail_at]; exact .refl, ?_⟩
    rw [St.fail_at]
    by_cases hlt : σ.at_ < s.size
    · refine dead_err hlt (hn hlt ?_)
      cases hd : digB (bAt s σ.at_)
      · rfl
      · exact absurd (digB_dest hd) (hno hlt)
    · exact dead_end (by omega) h32 rfl
theorem exp_goesL {s : ByteArray} {K : List Int} (q : Sq) (f0 : Int) {σ : St} (ha : σ.at_ ≤ s.size) (hf : σ.fault = f0) (hE : ∀ c, c = 101 ∨ c = 69 → stepQ ⟨q, false, K, false⟩ c = (0, ⟨.ee, false, K, false⟩))
    (hx : σ.at_ < s.size → ¬ (bAt s σ.at_ = 101 ∨ bAt s σ.at_ = 69) → stepQ ⟨q, false, K, false⟩ (bAt s σ.at_) = endQ ⟨q, false, K, false⟩ (bAt s σ.at_)) (h32 : stepQ ⟨q, false, K, false⟩ 32 = endQ ⟨q, false, K, false⟩ 32)
    {r : Bool} {σ' : St} (h : St.numExp s σ = (r, σ')) : GoesM s K σ.at_ ⟨q, false, K, false⟩ f0 r σ' := by
  unfold St.numExp at h
  by_cases he : bAt s σ.at_ = 101 ∨ bAt s σ.at_ = 69
  · rw [if_pos he] at h
    have hlt : σ.at_ < s.size := St.byte_in (s := s) (by omega)
    have hr : RunL s σ.at_ ⟨q, false, K, false⟩ (σ.at_ + 1) ⟨.ee, false, K, false⟩ := .one hlt (hE _ he) (by decide) rfl
    refine GoesM.pre hr ?_
    have fin : ∀ (q2 : Sq) (τ : St), τ.at_ ≤ s.size → τ.fault = f0 → (τ.at_ < s.size → digB (bAt s τ.at_) = true → stepQ ⟨q2, false, K, false⟩ (bAt s τ.at_) = (0, ⟨.e0, false, K, false⟩)) → (τ.at_ < s.size → digB (bAt s τ.at_) = false → stepQ ⟨q2, false, K, false⟩ (bAt s τ.at_) = Sc.err ⟨q2, false, K, false⟩) → (stepQ ⟨q2, false, K, false⟩ 32).2.top = false → St.digits s τ = (r, σ') → GoesM s K τ.at_ ⟨q2, false, K, false⟩ f0 r σ' := by
      intro q2 τ t1 t2 t3 t4 t5 t6
      have hd := digits_goesL (K := K) q2 .e0 f0 t1 t2 (fun a b => .inl (t3 a b)) (fun c hc => by show e0Q _ _ = _; unfold e0Q; rw [if_pos hc]) t4 t5 t6
      unfold GoesM
      split
      · rename_i hr
        rw [if_pos hr] at hd
        obtain ⟨d1, d2, d3, d4⟩ := hd
        refine ⟨d1, _, d3, num_endA .e0 (fun hl => ?_) rfl⟩
        show e0Q _ _ = _
        unfold e0Q
        rw [d4 hl]
        rfl
      · rename_i hr
        rw [if_neg hr] at hd
        exact hd
    unfold St.sgn2 at h
    by_cases hs : bAt s σ.at1.at_ = 43 ∨ bAt s σ.at1.at_ = 45
    · rw [if_pos hs] at h
      have hlt2 : σ.at_ + 1 < s.size := St.byte_in (s := s) (σ := σ.at1) (by omega)
      have hr2 : RunL s (σ.at_ + 1) ⟨.ee, false, K, false⟩ (σ.at_ + 1 + 1) ⟨.esg, false, K, false⟩ := by
        refine .one (k := 0) hlt2 ?_ (by decide) rfl
        show eeQ _ _ = _
        unfold eeQ
        rw [if_pos (show bAt s (σ.at_ + 1) = 43 ∨ bAt s (σ.at_ + 1) = 45 from hs)]
        rfl
      refine GoesM.pre hr2 ?_
      refine fin .esg σ.at1.at1 (by show σ.at_ + 1 + 1 ≤ s.size; omega) hf (fun _ hd => ?_) (fun _ hd => ?_) rfl h
      · show esgQ _ _ = _
        unfold esgQ
        rw [if_pos hd]
        rfl
      · show esgQ _ _ = _
        unfold esgQ
        rw [hd]
        rfl
    · rw [if_neg hs] at h
      refine fin .ee σ.at1 (by show σ.at_ + 1 ≤ s.size; omega) hf (fun _ hd => ?_) (fun _ hd => ?_) rfl h
      · show eeQ _ _ = _
        unfold eeQ esgQ
        rw [if_neg hs, if_pos hd]
        rfl
      · show eeQ _ _ = _
        unfold eeQ esgQ
        rw [if_neg hs, hd]
        rfl
  · rw [if_neg he] at h
    injection h with e1 e2
    subst e1 e2
    exact goes_endL hf (num_endA q (fun hl => hx hl he) h32)
theorem frac_goesL {s : ByteArray} {K : List Int} (q : Sq) (f0 : Int) {σ : St} (ha : σ.at_ ≤ s.size) (hf : σ.fault = f0) (hq : q = .s0 ∨ q = .s1 ∧ (σ.at_ < s.size → digB (bAt s σ.at_) = false))
    {r : Bool} {σ' : St} (h : (St.andThen (St.numFrac s σ) fun σ => St.numExp s σ) = (r, σ')) : GoesM s K σ.at_ ⟨q, false, K, false⟩ f0 r σ' := by
  have hs0 : ∀ c, (c = bAt s σ.at_ ∧ σ.at_ < s.size ∨ c = 32 ∨ c = 46 ∨ c = 101 ∨ c = 69) → stepQ ⟨q, false, K, false⟩ c = s0Q ⟨q, false, K, false⟩ c := by
    intro c hc
    rcases hq with rfl | ⟨rfl, hd⟩
    · rfl
    · show s1Q _ _ = _
      unfold s1Q
      have : digB c = false := by
        rcases hc with ⟨rfl, hl⟩ | rfl | rfl | rfl | rfl
        · exact hd hl
        all_goals rfl
      rw [this]
      rfl
  by_cases h46 : bAt s σ.at_ = 46
  · have hlt : σ.at_ < s.size := St.byte_in (s := s) (by omega)
    have hr : RunL s σ.at_ ⟨q, false, K, false⟩ (σ.at_ + 1) ⟨.dot, false, K, false⟩ := by
      refine .one (k := 0) hlt ?_ (by decide) rfl
      rw [hs0 _ (.inl ⟨rfl, hlt⟩), h46]
      rfl
    refine GoesM.pre hr ?_
    have hF : St.numFrac s σ = St.digits s σ.at1 := by unfold St.numFrac; rw [if_pos h46]
    rw [hF] at h
    obtain ⟨p, τ, hp⟩ : ∃ p τ, St.digits s σ.at1 = (p, τ) := ⟨_, _, rfl⟩
    have hd := digits_goesL (K := K) .dot .dot0 f0 (σ := σ.at1) (by show σ.at_ + 1 ≤ s.size; omega) hf (fun _ hd => .inl (by show dotQ _ _ = _; unfold dotQ; rw [if_pos hd]; rfl)) (fun c hc => by show dot0Q _ _ = _; unfold dot0Q; rw [if_pos hc]) (fun _ hd => by show dotQ _ _ = _; unfold dotQ; rw [hd]; rfl) rfl hp
    rw [hp] at h
    cases p
    · have h' : (false, τ) = (r, σ') := h
      injection h' with e1 e2
      subst e1 e2
      unfold GoesM
      rw [if_neg (by decide)] at hd ⊢
      exact hd
    · have h' : St.numExp s τ = (r, σ') := h
      rw [if_pos rfl] at hd
      obtain ⟨d1, d2, d3, d4⟩ := hd
      refine GoesM.pre d3 (exp_goesL .dot0 f0 d2 d1 (fun c hc => ?_) (fun hl hc => ?_) rfl h')
      · show dot0Q _ _ = _
        unfold dot0Q
        rw [if_neg (by rcases hc with rfl | rfl <;> decide), if_pos hc]
        rfl
      · show dot0Q _ _ = _
        unfold dot0Q
        rw [d4 hl, if_neg (by decide), if_neg hc]
  · have hF : St.numFrac s σ = (true, σ) := by unfold St.numFrac; rw [if_neg h46]
    rw [hF] at h
    have h' : St.numExp s σ = (r, σ') := h
    refine exp_goesL q f0 ha hf (fun c hc => ?_) (fun hl hc => ?_) ?_ h'
    · rw [hs0 c (by rcases hc with rfl | rfl <;> simp)]
      unfold s0Q
      rw [if_neg (by omega), if_pos hc]
      rfl
    · rw [hs0 _ (.inl ⟨rfl, hl⟩)]
      unfold s0Q
      rw [if_neg h46, if_neg hc]
    · rw [hs0 32 (.inr (.inl rfl))]
      rfl
/-- Digits of a whole number, or a 0. -/
theorem int_goesL {s : ByteArray} {K : List Int} (A : Sc) (f0 : Int) {σ : St} (ha : σ.at_ ≤ s.size) (hf : σ.fault = f0) (q : Sq) (hA : A = ⟨q, false, K, false⟩) (h48 : bAt s σ.at_ = 48 → ∃ k, k ≠ 11 ∧ k < 9 ∧ stepQ A 48 = (k, ⟨.s0, false, K, false⟩))
    (hd : σ.at_ < s.size → bAt s σ.at_ ≠ 48 → digB (bAt s σ.at_) = true → stepQ A (bAt s σ.at_) = (0, ⟨.s1, false, K, false⟩) ∨ stepQ A (bAt s σ.at_) = (1, ⟨.s1, false, K, false⟩)) (hn : σ.at_ < s.size → digB (bAt s σ.at_) = false → stepQ A (bAt s σ.at_) = Sc.err A) (h32 : (stepQ A 32).2.top = false)
    {r : Bool} {σ' : St} (h : (St.andThen (St.numInt s σ) fun σ => St.andThen (St.numFrac s σ) fun σ => St.numExp s σ) = (r, σ')) : GoesM s K σ.at_ A f0 r σ' := by
  subst hA
  by_cases hz : bAt s σ.at_ = 48
  · have hlt : σ.at_ < s.size := St.byte_in (s := s) (by omega)
    obtain ⟨k, hk, h9, e⟩ := h48 hz
    have hr : RunL s σ.at_ ⟨q, false, K, false⟩ (σ.at_ + 1) ⟨.s0, false, K, false⟩ := .one hlt (by rw [hz]; exact e) hk rfl h9
    have hI : St.numInt s σ = (true, σ.at1) := by unfold St.numInt; rw [if_pos hz]
    rw [hI] at h
    exact GoesM.pre hr (frac_goesL (σ := σ.at1) .s0 f0 (by show σ.at_ + 1 ≤ s.size; omega) hf (.inl rfl) h)
  · have hI : St.numInt s σ = St.digits s σ := by unfold St.numInt; rw [if_neg hz]
    rw [hI] at h
    obtain ⟨p, τ, hp⟩ : ∃ p τ, St.digits s σ = (p, τ) := ⟨_, _, rfl⟩
    have hdg := digits_goesL (K := K) q .s1 f0 ha hf (fun a b => hd a hz b) (fun c hc => by show s1Q _ _ = _; unfold s1Q; rw [if_pos hc]; rfl) hn h32 hp
    rw [hp] at h
    cases p
    · have h' : (false, τ) = (r, σ') := h
      injection h' with e1 e2
      subst e1 e2
      unfold GoesM
      rw [if_neg (by decide)] at hdg ⊢
      exact hdg
    · rw [if_pos rfl] at hdg
      obtain ⟨d1, d2, d3, d4⟩ := hdg
      exact GoesM.pre d3 (frac_goesL .s1 f0 d2 d1 (.inr ⟨rfl, d4⟩) h)
/-- A scalar, from a state that takes the beginning of a value. -/
theorem scalar_goesL {s : ByteArray} {K : List Int} (q : Sq) (f0 : Int) {σ : St} (ha : σ.at_ ≤ s.size) (hf : σ.fault = f0) (hsp : isSp (bAt s σ.at_) = false ∨ σ.at_ = s.size)
    (hq : σ.at_ < s.size → stepQ ⟨q, false, K, false⟩ (bAt s σ.at_) = bvQ ⟨q, false, K, false⟩ (bAt s σ.at_)) (h32 : (stepQ ⟨q, false, K, false⟩ 32).2.top = false)
    (h1 : bAt s σ.at_ ≠ 123) (h2 : bAt s σ.at_ ≠ 91) {r : Bool} {σ' : St} (h : St.scalarF s true σ = (r, σ')) : GoesM s K σ.at_ ⟨q, false, K, false⟩ f0 r σ' := by
  have hw : σ.at_ < s.size → isW (bAt s σ.at_) = false := fun hl => by rw [isW_sp]; rcases hsp with h | h; exact h; omega
  have hword : ∀ (c : Int) (q1 : Sq) (l : List (Int × Sq)), c ≠ 0 → bAt s σ.at_ = c → (∀ τ : Sc, isW c = false → bvQ τ c = τ.to 1 q1) → lastQ q1 l = .ev → (∀ x ∈ l.map Prod.fst, x ≠ 32) →
      (∀ (m : List (Int × Sq)) (c : Int) (q' : Sq) (n : List (Int × Sq)), l = m ++ (c, q') :: n → ∀ K' c', stepQ ⟨lastQ q1 m, false, K', false⟩ c' = litQ ⟨lastQ q1 m, false, K', false⟩ c' c q') →
      St.word s (c :: l.map Prod.fst) σ = (r, σ') → GoesM s K σ.at_ ⟨q, false, K, false⟩ f0 r σ' := by
    intro c q1 l hc0 hc hb hl h32 hst hwd
    have hlt : σ.at_ < s.size := St.byte_in (s := s) (by omega)
    have hr : RunL s σ.at_ ⟨q, false, K, false⟩ (σ.at_ + 1) ⟨q1, false, K, false⟩ := by
      refine .one (k := 1) hlt ?_ (by decide) rfl
      have hw' := hw hlt
      rw [hc] at hw'
      rw [hq hlt, hc, hb _ hw']
      rfl
    have hn : St.need s σ c c = (true, { σ with at_ := σ.at_ + 1 }) := by
      unfold St.need
      rw [if_pos ⟨hlt, by omega, by omega⟩]
    rw [St.word, hn] at hwd
    have h' : St.word s (l.map Prod.fst) { σ with at_ := σ.at_ + 1 } = (r, σ') := hwd
    exact GoesM.pre hr (word_goesL s K f0 l q1 { σ with at_ := σ.at_ + 1 } (by simp; omega) hf hst hl h32 r σ' h')
  unfold St.scalarF at h
  dsimp only at h
  by_cases c110 : bAt s σ.at_ = 110
  · rw [if_pos c110] at h
    refine hword 110 .n1 [(117, .n2), (108, .n3), (108, .ev)] (by decide) c110 (fun τ hw => by unfold bvQ; rw [hw]; rfl) rfl (by decide) ?_ h
    intro m c q' n e K' c'
    match m, e with
    | [], e => injection e with e1 e2; injection e1 with e1 e3; subst e1 e3; rfl
    | [_], e => injection e with e1 e2; subst e1; injection e2 with e1 e2; injection e1 with e1 e3; subst e1 e3; rfl
    | [_, _], e => injection e with e1 e2; subst e1; injection e2 with e1 e2; subst e1; injection e2 with e1 e2; injection e1 with e1 e3; subst e1 e3; rfl
    | _ :: _ :: _ :: m, e => simp at e
  rw [if_neg c110] at h
  by_cases c116 : bAt s σ.at_ = 116
  · rw [if_pos c116] at h
    refine hword 116 .t1 [(114, .t2), (117, .t3), (101, .ev)] (by decide) c116 (fun τ hw => by unfold bvQ; rw [hw]; rfl) rfl (by decide) ?_ h
    intro m c q' n e K' c'
    match m, e with
    | [], e => injection e with e1 e2; injection e1 with e1 e3; subst e1 e3; rfl
    | [_], e => injection e with e1 e2; subst e1; injection e2 with e1 e2; injection e1 with e1 e3; subst e1 e3; rfl
    | [_, _], e => injection e with e1 e2; subst e1; injection e2 with e1 e2; subst e1; injection e2 with e1 e2; injection e1 with e1 e3; subst e1 e3; rfl
    | _ :: _ :: _ :: m, e => simp at e
  rw [if_neg c116] at h
  by_cases c102 : bAt s σ.at_ = 102
  · rw [if_pos c102] at h
    refine hword 102 .f1 [(97, .f2), (108, .f3), (115, .f4), (101, .ev)] (by decide) c102 (fun τ hw => by unfold bvQ; rw [hw]; rfl) rfl (by decide) ?_ h
    intro m c q' n e K' c'
    match m, e with
    | [], e => injection e with e1 e2; injection e1 with e1 e3; subst e1 e3; rfl
    | [_], e => injection e with e1 e2; subst e1; injection e2 with e1 e2; injection e1 with e1 e3; subst e1 e3; rfl
    | [_, _], e => injection e with e1 e2; subst e1; injection e2 with e1 e2; subst e1; injection e2 with e1 e2; injection e1 with e1 e3; subst e1 e3; rfl
    | [_, _, _], e => injection e with e1 e2; subst e1; injection e2 with e1 e2; subst e1; injection e2 with e1 e2; subst e1; injection e2 with e1 e2; injection e1 with e1 e3; subst e1 e3; rfl
    | _ :: _ :: _ :: _ :: m, e => simp at e
  rw [if_neg c102] at h
  by_cases c34 : bAt s σ.at_ = 34
  · rw [if_pos c34] at h
    have hlt : σ.at_ < s.size := St.byte_in (s := s) (by omega)
    obtain ⟨p, τ, hp⟩ : ∃ p τ, St.quoted s true σ = (p, τ) := ⟨_, _, rfl⟩
    have hA : stepQ ⟨q, false, K, false⟩ 34 = (1, ⟨.str, false, K, false⟩) := by
      have := hq hlt
      rw [c34] at this
      rw [this]
      rfl
    obtain ⟨g1, g2⟩ := quoted_goesL f0 ha hf c34 hA hp
    rw [hp] at h
    unfold GoesT at g1
    cases p
    · have h' : (false, τ) = (r, σ') := h
      injection h' with e1 e2
      subst e1 e2
      unfold GoesM
      rw [if_neg (by decide)] at g1 ⊢
      exact g1
    · rw [if_pos rfl] at g1
      obtain ⟨g3, g4⟩ := g2 rfl
      have hn : St.need s τ 34 34 = (true, { τ with at_ := τ.at_ + 1 }) := by
        unfold St.need
        rw [if_pos ⟨g3, by omega, by omega⟩]
      have h' : St.need s τ 34 34 = (r, σ') := h
      rw [hn] at h'
      injection h' with e1 e2
      subst e1 e2
      have hr : RunL s τ.at_ ⟨.str, false, K, false⟩ (τ.at_ + 1) ⟨.ev, false, K, false⟩ := by
        refine .one (k := 0) g3 ?_ (by decide) rfl
        rw [g4]
        rfl
      exact GoesM.pre (g1.2.trans hr) (goes_endL (σ := { τ with at_ := τ.at_ + 1 }) g1.1 ⟨rfl, rfl, fun _ => rfl, rfl, fun h => by cases h⟩)
  rw [if_neg c34] at h
  by_cases cnum : bAt s σ.at_ = 45 ∨ (48 ≤ bAt s σ.at_ ∧ bAt s σ.at_ ≤ 57)
  · rw [if_pos cnum] at h
    have hlt : σ.at_ < s.size := St.byte_in (s := s) (by omega)
    unfold St.number at h
    by_cases c45 : bAt s σ.at_ = 45
    · have hs : St.sgn s σ = σ.at1 := by unfold St.sgn; rw [if_pos c45]
      rw [hs] at h
      have hr : RunL s σ.at_ ⟨q, false, K, false⟩ (σ.at_ + 1) ⟨.neg, false, K, false⟩ := by
        refine .one (k := 1) hlt ?_ (by decide) rfl
        rw [hq hlt, c45]
        rfl
      refine GoesM.pre hr (int_goesL (σ := σ.at1) ⟨.neg, false, K, false⟩ f0 (by show σ.at_ + 1 ≤ s.size; omega) hf .neg rfl (fun _ => ⟨0, by decide, by decide, rfl⟩) (fun hl hz hd => .inl ?_) (fun hl hd => ?_) rfl h)
      · show negQ _ _ = _
        have := digB_dest hd
        unfold negQ
        rw [if_neg hz, if_pos (by simp; omega)]
        rfl
      · show negQ _ _ = _
        unfold negQ
        rw [if_neg (fun e => by rw [e] at hd; cases hd), if_neg (fun e => by
          have e' : 49 ≤ bAt s σ.at1.at_ ∧ bAt s σ.at1.at_ ≤ 57 := by simpa using e
          rw [digB_iff' (by omega) e'.2] at hd; cases hd)]
    · have hs : St.sgn s σ = σ := by unfold St.sgn; rw [if_neg c45]
      rw [hs] at h
      have hb : ∀ c : Int, c = bAt s σ.at_ → stepQ ⟨q, false, K, false⟩ c = bvQ ⟨q, false, K, false⟩ c := fun c hc => by subst hc; exact hq hlt
      refine int_goesL ⟨q, false, K, false⟩ f0 ha hf q rfl (fun hz => ⟨1, by decide, by decide, ?_⟩) (fun hl hz hd => .inr ?_) (fun hl hd => ?_) h32 h
      · rw [hb 48 hz.symm]
        rfl
      · have hd' := digB_dest hd
        rw [hq hlt]
        unfold bvQ
        rw [hw hl, if_neg (by decide), if_neg h1, if_neg h2, if_neg c34, if_neg c45, if_neg hz, if_neg c116, if_neg c102, if_neg c110, if_pos (by simp; omega)]
        rfl
      · exfalso
        rcases cnum with e | e
        · exact c45 e
        · rw [digB_iff' e.1 e.2] at hd; cases hd
  · rw [if_neg cnum] at h
    injection h with e1 e2
    subst e1 e2
    refine goes_failL (by decide) ?_
    by_cases hlt : σ.at_ < s.size
    · refine dead_err hlt ?_
      rw [hq hlt]
      unfold bvQ
      rw [hw hlt, if_neg (by decide), if_neg h1, if_neg h2, if_neg c34, if_neg (fun e => cnum (.inl e)), if_neg (fun e => cnum (.inr (by omega))), if_neg c116, if_neg c102, if_neg c110, if_neg (fun e => cnum (.inr (by
        have e' : 49 ≤ bAt s σ.at_ ∧ bAt s σ.at_ ≤ 57 := by simpa using e
        omega)))]
    · exact dead_end (by omega) h32 rfl
end
section
/- (Tc) What the reader takes, written without white space, is the scanner's text without white space (gentc.py). -/
open Go.RowKit

/-- The scanner goes along white space. -/
inductive RunS (s : ByteArray) : Nat → Sc → Nat → Sc → Prop
  | refl {a A} : RunS s a A a A
  | step {a A a' A'} : a < s.size → 9 ≤ (stepQ A (bAt s a)).1 → RunS s (a + 1) (stepQ A (bAt s a)).2 a' A' → RunS s a A a' A'
namespace RunS
variable {s : ByteArray}
theorem trans {a b c : Nat} {A B C : Sc} (h : RunS s a A b B) (k : RunS s b B c C) : RunS s a A c C := by
  induction h with
  | refl => exact k
  | step h1 h2 _ ih => exact .step h1 h2 (ih k)
theorem one {a : Nat} {A : Sc} {k : Int} {B : Sc} (h : a < s.size) (e : stepQ A (bAt s a) = (k, B)) (_ : k ≠ 11) (_ : B.bad = false) (h9 : 9 ≤ k := by decide) : RunS s a A (a + 1) B := by
  have h1 : 9 ≤ (stepQ A (bAt s a)).1 := by rw [e]; exact h9
  have := RunS.step (a' := a + 1) (A' := (stepQ A (bAt s a)).2) h h1 .refl
  rw [e] at this
  exact this
end RunS
/-- From a in A to b in B the compact text is L. -/
structure RunC (s : ByteArray) (L : List Int) (a : Nat) (A : Sc) (b : Nat) (B : Sc) : Prop where
  eq : cmpQ A ((bl s).drop a) = L ++ cmpQ B ((bl s).drop b)
  ge : a + L.length ≤ b
  le : a ≤ s.size → b ≤ s.size
theorem RunC.trans {s : ByteArray} {L M : List Int} {a b c : Nat} {A B C : Sc} (h : RunC s L a A b B) (k : RunC s M b B c C) : RunC s (L ++ M) a A c C :=
  ⟨by rw [h.eq, k.eq, List.append_assoc], by have := h.ge; have := k.ge; rw [List.length_append]; omega, fun e => k.le (h.le e)⟩
theorem RunS.c {s : ByteArray} {a b : Nat} {A B : Sc} (h : RunS s a A b B) : RunC s [] a A b B := by
  induction h with
  | refl => exact ⟨rfl, Nat.le_refl _, id⟩
  | step h1 h2 _ ih => exact ⟨by rw [gdrop h1, cmp_ge h2, ih.eq], by have := ih.ge; simp only [List.length_nil] at this ⊢; omega, fun _ => ih.le h1⟩
theorem RunL.c {s : ByteArray} {a b : Nat} {A B : Sc} (h : RunL s a A b B) : RunC s (((bl s).drop a).take (b - a)) a A b B := by
  induction h with
  | refl => exact ⟨by simp, by simp, id⟩
  | @step a A a' A' h1 _ h3 _ _ ih =>
    have hge : a + 1 ≤ a' := by have := ih.ge; omega
    have e : a' - a = (a' - (a + 1)) + 1 := by omega
    rw [e, gdrop h1, List.take_succ_cons]
    exact ⟨by rw [gdrop h1, cmp_lt h3, ih.eq]; rfl, by have := ih.ge; rw [List.length_cons]; omega, fun _ => ih.le h1⟩
theorem bl_cut (s : ByteArray) (a b : Nat) : bl (s.extract a b) = ((bl s).drop a).take (b - a) := by
  unfold bl
  rw [ByteArray.data_extract, Array.toList_extract, ← List.map_drop, ← List.map_take, List.extract_eq_take_drop]
theorem RunL.x {s : ByteArray} {a b : Nat} {A B : Sc} (h : RunL s a A b B) (ha : a ≤ s.size) : RunC s (bl (s.extract a b)) a A b B := by
  have e : bl (s.extract a b) = ((bl s).drop a).take (b - a) := by
    rw [bl_cut]
  rw [e]
  exact h.c
theorem RunL.b {s : ByteArray} {a : Nat} {A B : Sc} (h : RunL s a A (a + 1) B) (ha : a < s.size) {c : Int} (hc : bAt s a = c) : RunC s [c] a A (a + 1) B := by
  have := h.c
  rw [gdrop ha, hc] at this
  simpa using this
theorem sp_runS (s : ByteArray) (A : Sc) (hb : A.bad = false) (hA : ∀ c, isW c = true → stepQ A c = (9, A) ∨ stepQ A c = (10, A)) : ∀ (n : Nat) (σ : St), RunS s σ.at_ A (St.space s n σ).at_ A
  | 0, σ => .refl
  | n + 1, σ => by
    by_cases hc : σ.at_ < s.size ∧ isSp (bAt s σ.at_) = true
    · rw [sp_step hc]
      refine RunS.trans ?_ (sp_runS s A hb hA n { σ with at_ := σ.at_ + 1 })
      rcases hA (bAt s σ.at_) (by rw [isW_sp]; exact hc.2) with e | e
      · exact .one hc.1 e (by decide) hb
      · exact .one hc.1 e (by decide) hb
    · rw [sp_stop hc]; exact .refl
theorem endA_spS {s : ByteArray} {K : List Int} {A : Sc} {σ : St} (ha : σ.at_ ≤ s.size) (h : EndA s σ.at_ A K) : ∃ B, RunS s σ.at_ A (St.sp s σ).at_ B ∧ EndA s (St.sp s σ).at_ B K ∧ (isSp (bAt s (St.sp s σ).at_) = false ∨ (St.sp s σ).at_ = s.size) ∧ (St.sp s σ).at_ ≤ s.size ∧ (St.sp s σ).fault = σ.fault := by
  have hs := sp_spec s (s.size - σ.at_) σ ha (Nat.le_refl _)
  have hsp : isSp (bAt s (St.sp s σ).at_) = false ∨ (St.sp s σ).at_ = s.size := by
    by_cases hl : (St.sp s σ).at_ < s.size
    · exact .inl (hs.2.2.2 hl)
    · exact .inr (by have := hs.1; unfold St.sp at hl ⊢; omega)
  by_cases hc : σ.at_ < s.size ∧ isSp (bAt s σ.at_) = true
  · -- one space at least: the state is that of a value's end
    have hw : isW (bAt s σ.at_) = true := by rw [isW_sp]; exact hc.2
    obtain ⟨B, hB, hBE⟩ : ∃ B : Sc, (stepQ A (bAt s σ.at_) = (9, B) ∨ stepQ A (bAt s σ.at_) = (10, B)) ∧ (B.bad = false ∧ B.stk = K ∧ (∀ c, stepQ B c = endQ B c) ∧ (B.top = true → K = []) ∧ ∀ c, isW c = true → stepQ B c = (9, B) ∨ stepQ B c = (10, B)) := by
      rw [h.nx hc.1]
      obtain ⟨q, t, k, d⟩ := A
      have hk := h.stk
      have hd := h.bad
      dsimp only at hk hd
      subst hk hd
      cases k with
      | nil =>
        refine ⟨⟨.et, true, [], false⟩, .inr ?_, rfl, rfl, fun c => rfl, fun _ => rfl, fun c hc => .inr ?_⟩
        · show topQ _ _ = _
          unfold topQ
          rw [if_pos hw]
        · show topQ _ _ = _
          unfold topQ
          rw [if_pos hc]
      | cons x r =>
        have ht : t = false := by
          cases t
          · rfl
          · exact absurd (h.top rfl) (by simp)
        subst ht
        refine ⟨⟨.ev, false, x :: r, false⟩, .inl ?_, rfl, rfl, fun c => rfl, fun h => (by cases h), fun c hc => .inl ?_⟩
        · unfold endQ
          dsimp only
          rw [if_pos hw]
          rfl
        · show endQ (⟨.ev, false, x :: r, false⟩ : Sc) c = _
          unfold endQ
          dsimp only
          rw [if_pos hc]
          rfl
    obtain ⟨b1, b2, b3, b4, b5⟩ := hBE
    have hr1 : RunS s σ.at_ A (σ.at_ + 1) B := by
      rcases hB with e | e
      · exact .one hc.1 e (by decide) b1
      · exact .one hc.1 e (by decide) b1
    have hn : s.size - σ.at_ = (s.size - (σ.at_ + 1)) + 1 := by omega
    have hsp2 : St.sp s σ = St.space s (s.size - (σ.at_ + 1)) { σ with at_ := σ.at_ + 1 } := by unfold St.sp; rw [hn, sp_step hc]
    refine ⟨B, ?_, ⟨b1, b2, fun _ => b3 _, b3 _, b4⟩, hsp, hs.1, hs.2.2.1⟩
    rw [hsp2]
    exact hr1.trans (sp_runS s B b1 b5 _ { σ with at_ := σ.at_ + 1 })
  · have hsp2 : St.sp s σ = σ := by
      unfold St.sp
      cases hn : s.size - σ.at_ with
      | zero => rfl
      | succ n => exact sp_stop hc
    rw [hsp2] at hsp ⊢
    exact ⟨A, .refl, h, hsp, ha, rfl⟩
theorem stay_runS {s : ByteArray} (q : Sq) (K : List Int) (hq : q = .bv ∨ q = .bvE ∨ q = .bs ∨ q = .bsE) (σ : St) : RunS s σ.at_ ⟨q, false, K, false⟩ (St.sp s σ).at_ ⟨q, false, K, false⟩ := by
  refine sp_runS s ⟨q, false, K, false⟩ rfl (fun c hc => .inl ?_) _ σ
  rcases hq with rfl | rfl | rfl | rfl
  · show bvQ _ _ = _; unfold bvQ; rw [if_pos hc]
  · show bvEQ _ _ = _; unfold bvEQ; rw [if_pos hc]
  · show bsQ _ _ = _; unfold bsQ; rw [if_pos hc]
  · show bsEQ _ _ = _; unfold bsEQ; rw [if_pos hc]
theorem arr_closeL {s : ByteArray} {a : Nat} {A : Sc} {K : List Int} (h : EndA s a A (2 :: K)) (ha : a < s.size) (hc : bAt s a = 93) : ∃ B, RunL s a A (a + 1) B ∧ EndA s (a + 1) B K := by
  have e : stepQ A (bAt s a) = (8, A.pop) := by
    rw [h.nx ha, hc]
    unfold endQ
    rw [h.stk]
    rfl
  have hp := endA_pop (s := s) (a := a + 1) h.bad h.stk (endA_top h)
  exact ⟨_, .one ha e (by decide) hp.2, hp.1⟩
theorem arr_commaL {s : ByteArray} {a : Nat} {A : Sc} {K : List Int} (h : EndA s a A (2 :: K)) (ha : a < s.size) (hc : bAt s a = 44) : RunL s a A (a + 1) ⟨.bv, false, 2 :: K, false⟩ := by
  refine .one (k := 7) ha ?_ (by decide) rfl
  rw [h.nx ha, hc]
  have ht := endA_top h
  have hb := h.bad
  have hs := h.stk
  obtain ⟨q, t, S, d⟩ := A
  dsimp only at hb hs ht
  subst hb hs ht
  rfl
theorem obj_closeL {s : ByteArray} {a : Nat} {A : Sc} {K : List Int} (h : EndA s a A (1 :: K)) (ha : a < s.size) (hc : bAt s a = 125) : ∃ B, RunL s a A (a + 1) B ∧ EndA s (a + 1) B K := by
  have e : stepQ A (bAt s a) = (5, A.pop) := by
    rw [h.nx ha, hc]
    unfold endQ
    rw [h.stk]
    rfl
  have hp := endA_pop (s := s) (a := a + 1) h.bad h.stk (endA_top h)
  exact ⟨_, .one ha e (by decide) hp.2, hp.1⟩
theorem obj_commaL {s : ByteArray} {a : Nat} {A : Sc} {K : List Int} (h : EndA s a A (1 :: K)) (ha : a < s.size) (hc : bAt s a = 44) : RunL s a A (a + 1) ⟨.bs, false, 0 :: K, false⟩ := by
  refine .one (k := 4) ha ?_ (by decide) rfl
  rw [h.nx ha, hc]
  have ht := endA_top h
  have hb := h.bad
  have hs := h.stk
  obtain ⟨q, t, S, d⟩ := A
  dsimp only at hb hs ht
  subst hb hs ht
  rfl
theorem key_colonL {s : ByteArray} {a : Nat} {A : Sc} {K : List Int} (h : EndA s a A (0 :: K)) (ha : a < s.size) (hc : bAt s a = 58) : RunL s a A (a + 1) ⟨.bv, false, 1 :: K, false⟩ := by
  refine .one (k := 3) ha ?_ (by decide) rfl
  rw [h.nx ha, hc]
  have ht := endA_top h
  have hb := h.bad
  have hs := h.stk
  obtain ⟨q, t, S, d⟩ := A
  dsimp only at hb hs ht
  subst hb hs ht
  rfl
theorem RunL.same {s : ByteArray} {a b : Nat} {A B : Sc} (h : RunL s a A b B) (hb : b ≤ a) : B = A := by
  cases h with
  | refl => rfl
  | step _ _ _ _ k => have k2 := (RunL.c k).ge; omega
theorem jn_more (b : Bool) (p : List Int) {r : List (List Int)} (hr : r ≠ []) : jnL b (p :: r) = (if b then [44] else []) ++ (p ++ ([44] ++ jnL false r)) := by
  cases r with
  | nil => exact absurd rfl hr
  | cons q r => simp [jnL]
theorem jn_one (p : List Int) : jnL false [p] = p := by simp [jnL]
theorem kdS_ne {X : Int} {y : Int} (h : X ≠ y) (h48 : y ≠ 48) : kdS X X ≠ y := by
  unfold kdS
  split
  · exact fun e => h48 e.symm
  · exact h
/-- Names that are texts in quotes. -/
def NmQ (ns : List ByteArray) : Prop := ∀ x ∈ ns, x.size ≤ 2500000000 ∧ DecQ x
/-- What a reading that succeeds means for the scanner. -/
def CT (s : ByteArray) : Tg → St → St → List ByteArray → List Nd → Prop
  | .val, σ, σ', ns, ks => ∃ n, ns = [] ∧ ks = [n] ∧ WfN n ∧ ∀ q K, σ.at_ ≤ s.size → (q = .bv ∨ q = .bvE ∧ bAt s (St.sp s σ).at_ ≠ 93) → σ'.at_ ≤ s.size ∧ σ.at_ + cnN n ≤ σ'.at_ ∧ ∃ B, RunC s (tgN n) σ.at_ ⟨q, false, K, false⟩ σ'.at_ B ∧ EndA s σ'.at_ B K
  | .arr, σ, σ', ns, ks => ns = [] ∧ WfL ks ∧ ∀ K, σ.at_ ≤ s.size → σ'.at_ ≤ s.size ∧ σ.at_ + cnL ks ≤ σ'.at_ ∧ ∃ B, RunC s (jnL false (tgA ks) ++ [93]) σ.at_ ⟨.bvE, false, 2 :: K, false⟩ σ'.at_ B ∧ EndA s σ'.at_ B K
  | .arrL, σ, σ', ns, ks => ns = [] ∧ ks ≠ [] ∧ WfL ks ∧ ∀ q K, σ.at_ ≤ s.size → (q = .bv ∨ q = .bvE ∧ bAt s (St.sp s σ).at_ ≠ 93) → σ'.at_ ≤ s.size ∧ σ.at_ + cnL ks ≤ σ'.at_ ∧ ∃ B, RunC s (jnL false (tgA ks) ++ [93]) σ.at_ ⟨q, false, 2 :: K, false⟩ σ'.at_ B ∧ EndA s σ'.at_ B K
  | .obj, σ, σ', ns, ks => ns.length = ks.length ∧ NmQ ns ∧ WfL ks ∧ ∀ K, σ.at_ ≤ s.size → σ'.at_ ≤ s.size ∧ σ.at_ + cnL ks ≤ σ'.at_ ∧ ∃ B, RunC s (jnL false (obL ns (tgA ks)) ++ [125]) σ.at_ ⟨.bsE, false, 0 :: K, false⟩ σ'.at_ B ∧ EndA s σ'.at_ B K
  | .objL, σ, σ', ns, ks => ns.length = ks.length ∧ ks ≠ [] ∧ NmQ ns ∧ WfL ks ∧ ∀ q K, σ.at_ ≤ s.size → (q = .bs ∨ q = .bsE ∧ bAt s σ.at_ ≠ 125) → σ'.at_ ≤ s.size ∧ σ.at_ + cnL ks ≤ σ'.at_ ∧ ∃ B, RunC s (jnL false (obL ns (tgA ks)) ++ [125]) σ.at_ ⟨q, false, 0 :: K, false⟩ σ'.at_ B ∧ EndA s σ'.at_ B K
  | .name, σ, σ', ns, ks => ∃ t, ns = [t] ∧ ks = [] ∧ NmQ [t] ∧ ∀ q K, σ.at_ ≤ s.size → (q = .bs ∨ q = .bsE ∧ bAt s σ.at_ ≠ 125) → σ'.at_ ≤ s.size ∧ RunC s (bl t ++ [58]) σ.at_ ⟨q, false, 0 :: K, false⟩ σ'.at_ ⟨.bv, false, 1 :: K, false⟩
theorem nm_nil : NmQ [] := fun x h => (by cases h)
theorem nm_cons {t : ByteArray} {ns : List ByteArray} (h : NmQ [t]) (k : NmQ ns) : NmQ (t :: ns) := fun x hx => by
  rcases List.mem_cons.1 hx with rfl | hx
  · exact h _ (by simp)
  · exact k _ hx
theorem RunC.nil {s : ByteArray} {L : List Int} {a b c : Nat} {A B C : Sc} (h : RunC s [] a A b B) (k : RunC s L b B c C) : RunC s L a A c C := by
  have := h.trans k
  simpa using this
theorem RunC.end' {s : ByteArray} {L : List Int} {a b c : Nat} {A B C : Sc} (h : RunC s L a A b B) (k : RunC s [] b B c C) : RunC s L a A c C := by
  have := h.trans k
  simpa using this
theorem RunC.as {s : ByteArray} {L M : List Int} {a b : Nat} {A B : Sc} (h : RunC s L a A b B) (e : L = M) : RunC s M a A b B := e ▸ h
set_option maxHeartbeats 1600000 in
theorem content_goes {s : ByteArray} (hs : s.size ≤ 2500000000) {t : Tg} {σ σ' : St} {ns : List ByteArray} {ks : List Nd} (h : CnR s true t σ σ' ns ks) : CT s t σ σ' ns ks := by
  induction h with
  | @scal σ σ' h1 h2 h3 =>
    refine ⟨_, rfl, rfl, ?_, fun q K ha hq => ?_⟩
    · unfold scN
      rw [WfN]
      refine ⟨fun _ => rfl, fun x hx => (by cases hx), ?_, by rw [WfL]; trivial⟩
      rw [ByteArray.size_extract]
      omega
    · have hf := sp_facts ha
      have hg := scalar_goesL (K := K) q σ.fault hf.1 hf.2.1 hf.2.2 (fun _ => begins hq) (begins32 hq) h1 h2 h3
      unfold GoesM at hg
      rw [if_pos rfl] at hg
      obtain ⟨_, B, g1, g2⟩ := hg
      have hr := (stay_runS (s := s) q K (by rcases hq with rfl | ⟨rfl, _⟩ <;> simp) σ).c
      have hx := g1.x hf.1
      have hne : (St.sp s σ).at_ < σ'.at_ := by
        rcases Nat.lt_or_ge (St.sp s σ).at_ σ'.at_ with h | h
        · exact h
        · obtain rfl := g1.same h
          have hb := g2.eof
          rcases hq with rfl | ⟨rfl, _⟩
          · have hb' : (stepQ (⟨.bv, false, K, false⟩ : Sc) 32).2.q = (endQ (⟨.bv, false, K, false⟩ : Sc) 32).2.q := congrArg (fun r => r.2.q) hb
            cases K <;> cases hb'
          · have hb' : (stepQ (⟨.bvE, false, K, false⟩ : Sc) 32).2.q = (endQ (⟨.bvE, false, K, false⟩ : Sc) 32).2.q := congrArg (fun r => r.2.q) hb
            cases K <;> cases hb'
      have e : tgN (scN s (St.sp s σ) σ') = bl (s.extract (St.sp s σ).at_ σ'.at_) := by
        unfold scN
        rw [tgN, if_neg (kdS_ne h1 (by decide)), if_neg (kdS_ne h2 (by decide))]
      rw [e]
      refine ⟨hx.le hf.1, ?_, B, hr.nil hx, g2⟩
      unfold scN
      rw [cnN, cnL]
      have := hr.ge
      simp only [List.length_nil] at this
      omega
  | @vobj σ σ' ns ks h1 _ ih =>
    obtain ⟨i1, i2, i3, i4⟩ := ih
    refine ⟨_, rfl, rfl, ?_, fun q K ha hq => ?_⟩
    · rw [WfN]
      exact ⟨fun _ => i1, i2, by decide, i3⟩
    · have hf := sp_facts ha
      have hlt : (St.sp s σ).at_ < s.size := St.byte_in (s := s) (by omega)
      have hr : RunL s (St.sp s σ).at_ ⟨q, false, K, false⟩ ((St.sp s σ).at_ + 1) ⟨.bsE, false, 0 :: K, false⟩ := by
        refine .one (k := 2) hlt ?_ (by decide) rfl
        rw [begins hq, h1]
        rfl
      obtain ⟨j1, j2, B, j3, j4⟩ := i4 K (by show (St.sp s σ).at_ + 1 ≤ s.size; omega)
      have hw := (stay_runS (s := s) q K (by rcases hq with rfl | ⟨rfl, _⟩ <;> simp) σ).c
      refine ⟨j1, ?_, B, (hw.nil ((hr.b hlt h1).trans j3)).as (by rw [tgN, if_pos rfl, List.append_assoc]), j4⟩
      rw [cnN]
      have := hw.ge
      have j2' : (St.sp s σ).at_ + 1 + cnL ks ≤ σ'.at_ := j2
      simp only [List.length_nil] at this
      omega
  | @varr σ σ' ks h1 _ ih =>
    obtain ⟨i1, i3, i4⟩ := ih
    refine ⟨_, rfl, rfl, ?_, fun q K ha hq => ?_⟩
    · rw [WfN]
      exact ⟨fun h => absurd h (by decide), fun x hx => (by cases hx), by decide, i3⟩
    · have hf := sp_facts ha
      have hlt : (St.sp s σ).at_ < s.size := St.byte_in (s := s) (by omega)
      have hr : RunL s (St.sp s σ).at_ ⟨q, false, K, false⟩ ((St.sp s σ).at_ + 1) ⟨.bvE, false, 2 :: K, false⟩ := by
        refine .one (k := 6) hlt ?_ (by decide) rfl
        rw [begins hq, h1]
        rfl
      obtain ⟨j1, j2, B, j3, j4⟩ := i4 K (by show (St.sp s σ).at_ + 1 ≤ s.size; omega)
      have hw := (stay_runS (s := s) q K (by rcases hq with rfl | ⟨rfl, _⟩ <;> simp) σ).c
      refine ⟨j1, ?_, B, (hw.nil ((hr.b hlt h1).trans j3)).as (by rw [tgN, if_neg (by decide), if_pos rfl, List.append_assoc]), j4⟩
      rw [cnN]
      have := hw.ge
      have j2' : (St.sp s σ).at_ + 1 + cnL ks ≤ σ'.at_ := j2
      simp only [List.length_nil] at this
      omega
  | @arr0 σ h1 =>
    refine ⟨rfl, by rw [WfL]; trivial, fun K ha => ?_⟩
    have hf := sp_facts ha
    have hlt : (St.sp s σ).at_ < s.size := St.byte_in (s := s) (by omega)
    have hp := endA_pop (s := s) (a := (St.sp s σ).at_ + 1) (A := ⟨.bvE, false, 2 :: K, false⟩) rfl rfl rfl
    have hr : RunL s (St.sp s σ).at_ ⟨.bvE, false, 2 :: K, false⟩ ((St.sp s σ).at_ + 1) (Sc.pop ⟨.bvE, false, 2 :: K, false⟩) := by
      refine .one (k := 8) hlt ?_ (by decide) hp.2
      rw [h1]
      rfl
    have hw := (stay_runS (s := s) .bvE (2 :: K) (by simp) σ).c
    refine ⟨by show (St.sp s σ).at_ + 1 ≤ s.size; omega, ?_, _, (hw.nil (hr.b hlt h1)).as (by rw [tgA, jnL]; rfl), hp.1⟩
    rw [cnL]
    have := hw.ge
    simp only [List.length_nil] at this
    show σ.at_ + 0 ≤ (St.sp s σ).at_ + 1
    omega
  | @arrB σ σ' ks h1 _ ih =>
    obtain ⟨i1, i2, i3, i4⟩ := ih
    refine ⟨i1, i3, fun K ha => ?_⟩
    have hf := sp_facts ha
    obtain ⟨j1, j2, B, j3, j4⟩ := i4 .bvE K hf.1 (.inr ⟨rfl, by rw [sp_idem ha]; exact h1⟩)
    have hw := (stay_runS (s := s) .bvE (2 :: K) (by simp) σ).c
    refine ⟨j1, ?_, B, hw.nil j3, j4⟩
    have := hw.ge
    simp only [List.length_nil] at this
    omega
  | @arrE σ σ1 n _ h1 ih =>
    obtain ⟨n', i1, i2, i3, i4⟩ := ih
    obtain rfl : n = n' := by simpa using i2
    refine ⟨rfl, by simp, by rw [WfL, WfL]; exact ⟨i3, trivial⟩, fun q K ha hq => ?_⟩
    obtain ⟨j1, j2, B, j3, j4⟩ := i4 q (2 :: K) ha hq
    obtain ⟨C, c1, c2, c3, c4, c5⟩ := endA_spS j1 j4
    have hlt : (St.sp s σ1).at_ < s.size := St.byte_in (s := s) (by omega)
    obtain ⟨D, d1, d2⟩ := arr_closeL c2 hlt h1
    have hge := c1.c.ge
    simp only [List.length_nil] at hge
    refine ⟨by show (St.sp s σ1).at_ + 1 ≤ s.size; omega, ?_, D, ((j3.end' c1.c).trans (d1.b hlt h1)).as (by rw [tgA, tgA, jn_one]), d2⟩
    rw [cnL, cnL]
    show _ ≤ (St.sp s σ1).at_ + 1
    omega
  | @arrC σ σ1 σ2 σ' n ks _ h1 h2 _ ih1 ih2 =>
    obtain ⟨n', i1, i2, i3, i4⟩ := ih1
    obtain rfl : n = n' := by simpa using i2
    obtain ⟨k1, k2, k3, k4⟩ := ih2
    obtain ⟨hlt, hx, hy, rfl⟩ := need_ok h2
    refine ⟨rfl, by simp, by rw [WfL]; exact ⟨i3, k3⟩, fun q K ha hq => ?_⟩
    obtain ⟨j1, j2, B, j3, j4⟩ := i4 q (2 :: K) ha hq
    obtain ⟨C, c1, c2, c3, c4, c5⟩ := endA_spS j1 j4
    have h44 : bAt s (St.sp s σ1).at_ = 44 := by omega
    have hr := (arr_commaL c2 hlt h44).b hlt h44
    obtain ⟨l1, l2, D, l3, l4⟩ := k4 .bv K (by show (St.sp s σ1).at_ + 1 ≤ s.size; omega) (.inl rfl)
    have hge := c1.c.ge
    simp only [List.length_nil] at hge
    refine ⟨l1, ?_, D, ((j3.end' c1.c).trans (hr.trans l3)).as ?_, l4⟩
    · rw [cnL]
      have l2' : (St.sp s σ1).at_ + 1 + cnL ks ≤ σ'.at_ := l2
      omega
    · rw [tgA, jn_more false _ (r := tgA ks) (fun e => k2 (by have := tgA_len ks; rw [e] at this; exact List.eq_nil_of_length_eq_zero this.symm))]
      simp
  | @obj0 σ h1 =>
    refine ⟨rfl, nm_nil, by rw [WfL]; trivial, fun K ha => ?_⟩
    have hf := sp_facts ha
    have hlt : (St.sp s σ).at_ < s.size := St.byte_in (s := s) (by omega)
    have hp := endA_pop (s := s) (a := (St.sp s σ).at_ + 1) (A := ⟨.bsE, false, 1 :: K, false⟩) rfl rfl rfl
    have hr : RunL s (St.sp s σ).at_ ⟨.bsE, false, 0 :: K, false⟩ ((St.sp s σ).at_ + 1) (Sc.pop ⟨.bsE, false, 1 :: K, false⟩) := by
      refine .one (k := 5) hlt ?_ (by decide) hp.2
      rw [h1]
      rfl
    have hw := (stay_runS (s := s) .bsE (0 :: K) (by simp) σ).c
    refine ⟨by show (St.sp s σ).at_ + 1 ≤ s.size; omega, ?_, _, (hw.nil (hr.b hlt h1)).as (by rw [tgA]; rfl), hp.1⟩
    rw [cnL]
    have := hw.ge
    simp only [List.length_nil] at this
    show σ.at_ + 0 ≤ (St.sp s σ).at_ + 1
    omega
  | @objB σ σ' ns ks h1 _ ih =>
    obtain ⟨i1, i2, i3, i4, i5⟩ := ih
    refine ⟨i1, i3, i4, fun K ha => ?_⟩
    have hf := sp_facts ha
    obtain ⟨j1, j2, B, j3, j4⟩ := i5 .bsE K hf.1 (.inr ⟨rfl, h1⟩)
    have hw := (stay_runS (s := s) .bsE (0 :: K) (by simp) σ).c
    refine ⟨j1, ?_, B, hw.nil j3, j4⟩
    have := hw.ge
    simp only [List.length_nil] at this
    omega
  | @objE σ σ1 σ2 t n _ _ h1 ih1 ih2 =>
    obtain ⟨t', a1, a2, a3, a4⟩ := ih1
    obtain rfl : t = t' := by simpa using a1
    obtain ⟨n', i1, i2, i3, i4⟩ := ih2
    obtain rfl : n = n' := by simpa using i2
    refine ⟨rfl, by simp, a3, by rw [WfL, WfL]; exact ⟨i3, trivial⟩, fun q K ha hq => ?_⟩
    obtain ⟨b1, b2⟩ := a4 q K ha hq
    obtain ⟨j1, j2, B, j3, j4⟩ := i4 .bv (1 :: K) b1 (.inl rfl)
    obtain ⟨C, c1, c2, c3, c4, c5⟩ := endA_spS j1 j4
    have hlt : (St.sp s σ2).at_ < s.size := St.byte_in (s := s) (by omega)
    obtain ⟨D, d1, d2⟩ := obj_closeL c2 hlt h1
    have hge := c1.c.ge
    have hgb := b2.ge
    simp only [List.length_nil] at hge
    refine ⟨by show (St.sp s σ2).at_ + 1 ≤ s.size; omega, ?_, D, (b2.trans ((j3.end' c1.c).trans (d1.b hlt h1))).as (by simp [tgA, obL, jn_one]), d2⟩
    rw [cnL, cnL]
    show _ ≤ (St.sp s σ2).at_ + 1
    omega
  | @objC σ σ1 σ2 σ3 σ' t n ns ks _ _ h1 h2 _ ih1 ih2 ih3 =>
    obtain ⟨t', a1, a2, a3, a4⟩ := ih1
    obtain rfl : t = t' := by simpa using a1
    obtain ⟨n', i1, i2, i3, i4⟩ := ih2
    obtain rfl : n = n' := by simpa using i2
    obtain ⟨k1, k2, k3, k4, k5⟩ := ih3
    obtain ⟨hlt, hx, hy, rfl⟩ := need_ok h2
    refine ⟨by simp [k1], by simp, nm_cons a3 k3, by rw [WfL]; exact ⟨i3, k4⟩, fun q K ha hq => ?_⟩
    obtain ⟨b1, b2⟩ := a4 q K ha hq
    obtain ⟨j1, j2, B, j3, j4⟩ := i4 .bv (1 :: K) b1 (.inl rfl)
    obtain ⟨C, c1, c2, c3, c4, c5⟩ := endA_spS j1 j4
    have h44 : bAt s (St.sp s σ2).at_ = 44 := by omega
    have hr := (obj_commaL c2 hlt h44).b hlt h44
    have ha3 : ({ (St.sp s σ2) with at_ := (St.sp s σ2).at_ + 1 } : St).at_ ≤ s.size := by show (St.sp s σ2).at_ + 1 ≤ s.size; omega
    have hf := sp_facts ha3
    have hw := (stay_runS (s := s) .bs (0 :: K) (by simp) { (St.sp s σ2) with at_ := (St.sp s σ2).at_ + 1 }).c
    obtain ⟨l1, l2, D, l3, l4⟩ := k5 .bs K hf.1 (.inl rfl)
    have hge := c1.c.ge
    have hgb := b2.ge
    have hgw := hw.ge
    simp only [List.length_nil] at hge hgw
    refine ⟨l1, ?_, D, (b2.trans ((j3.end' c1.c).trans (hr.trans (hw.nil l3)))).as ?_, l4⟩
    · rw [cnL]
      have hgw' : (St.sp s σ2).at_ + 1 + 0 ≤ (St.sp s { (St.sp s σ2) with at_ := (St.sp s σ2).at_ + 1 }).at_ := hgw
      omega
    · have hne : obL ns (tgA ks) ≠ [] := by
        have : (obL ns (tgA ks)).length = ks.length := by simp [obL, tgA_len, k1]
        intro e
        rw [e] at this
        exact k2 (List.eq_nil_of_length_eq_zero this.symm)
      have e : obL (t :: ns) (tgA (n :: ks)) = (bl t ++ ([58] ++ tgN n)) :: obL ns (tgA ks) := by simp [obL, tgA]
      rw [e, jn_more false _ hne]
      simp
  | @nameY σ σ1 σ2 σ' h1 h2 h3 h4 =>
    have hd := dec_loose s hs h1
    obtain ⟨hlt, hx, hy, rfl⟩ := need_ok h4
    refine ⟨_, rfl, rfl, fun x hx => ?_, fun q K ha hq => ?_⟩
    · obtain rfl := List.mem_singleton.1 hx
      exact ⟨Nat.le_trans hd.1 hs, hd.2⟩
    · have h34 : bAt s σ.at_ = 34 := by
        obtain ⟨τ, g1, g2⟩ := then_ok h1
        obtain ⟨_, g3, g4, _⟩ := need_ok g1
        omega
      have hg := quoted_goesL (K := 0 :: K) σ.fault ha rfl h34 (A := ⟨q, false, 0 :: K, false⟩) (by rw [begins34 (by rcases hq with h | h; exact .inl h; exact .inr ⟨h.1, by decide⟩)]; rfl) h1
      obtain ⟨hg, hg2⟩ := hg
      obtain ⟨l1, l2⟩ := hg2 rfl
      unfold GoesT at hg
      rw [if_pos rfl] at hg
      have hr : RunL s σ1.at_ ⟨.str, false, 0 :: K, false⟩ (σ1.at_ + 1) ⟨.ev, false, 0 :: K, false⟩ := by
        refine .one (k := 0) l1 ?_ (by decide) rfl
        rw [l2]
        rfl
      have hE : EndA s σ2.at1.at_ ⟨.ev, false, 0 :: K, false⟩ (0 :: K) := ⟨rfl, rfl, fun _ => rfl, rfl, fun h => by cases h⟩
      have hle2 : σ2.at1.at_ ≤ s.size := by show σ2.at_ + 1 ≤ s.size; omega
      obtain ⟨C, c1, c2, c3, c4, c5⟩ := endA_spS (σ := σ2.at1) hle2 hE
      have h58 : bAt s (St.sp s σ2.at1).at_ = 58 := by omega
      have hcl := (key_colonL c2 hlt h58).b hlt h58
      have hc1 : RunC s [] (σ1.at_ + 1) ⟨.ev, false, 0 :: K, false⟩ (St.sp s σ2.at1).at_ C := by
        have := c1.c
        rw [show σ2.at1.at_ = σ1.at_ + 1 from by show σ2.at_ + 1 = _; rw [h2]] at this
        exact this
      exact ⟨by show (St.sp s σ2.at1).at_ + 1 ≤ s.size; omega, (((hg.2.trans hr).x ha).end' hc1).trans hcl⟩
end
section
/- (Ow) spec.Old by the rules of encoding/json without white space: the scanner's compact text, or a fault. -/
open Go.RowKit

theorem oldRulesW_any (w : World) : Calls Tryz.prog 25 #[] w fun e w' => e = .returned (.agg #[.bool true, .bool true]) ∧ Below w.heap.size w w' := by
  go_enter Tryz.func25, Tryz.ntmps25
  go_wp2
  have h := heap_alloc_new w (.cells #[.bool true, .bool true] 31)
  have c0 : (w.alloc (.cells #[.bool true, .bool true] 31)).cell? ⟨w.heap.size, 0, none⟩ = some (.bool true) := by simp only [World.cell?, h]; rfl
  have c1 : (w.alloc (.cells #[.bool true, .bool true] 31)).cell? ⟨w.heap.size, 1, none⟩ = some (.bool true) := by simp only [World.cell?, h]; rfl
  clear h
  refine bodyPost_ret (v := .agg #[.bool true, .bool true]) (by simp [results, Tryz.results25, go_sem, c0, c1]; try rfl) rfl ?_
  exact ⟨rfl, (Below.refl _ _).alloc (Nat.le_refl _) _⟩
theorem tightW_any (w : World) : Calls Tryz.prog 12 #[] w fun e w' => e = .returned tightV ∧ Below w.heap.size w w' := by
  unfold tightV
  go_enter Tryz.func12, Tryz.ntmps12
  go_wp2
  obtain ⟨q0, q1, q2, q3, q4, q5, q6, q7, q8, q9, q10, q11, q12⟩ := (TyB.new w).cells
  refine bodyPost_ret (v := .agg #[.bool false, .bool false, .bool false, .bool false, .bool true, .bool false, .bool false, .bool false, .bool false, .bool false, .bool false, .string ⟨#[]⟩, .string ⟨#[]⟩]) (by simp [results, Tryz.results12, go_sem, q0, q1, q2, q3, q4, q5, q6, q7, q8, q9, q10, q11, q12]; try rfl) rfl ?_
  exact ⟨rfl, (Below.refl _ _).alloc (Nat.le_refl _) _⟩
/-- What reading a whole text comes to, for the scanner. -/
theorem fin_compact {s : ByteArray} {lw : Nat} {w' : World} {vs : List Value} {σF : St} (hs : s.size ≤ 2500000000) (h : FinC s true true lw w' vs σF) :
    (σF.fault = 0 ↔ validQ sc0 (bl s) = true) ∧ (σF.fault = 0 → ∃ nd, NdM w' (fun g => lw ≤ g ∧ g < w'.heap.size) nd vs ∧ WfN nd ∧ tgN nd = cmpQ sc0 (bl s) ∧ cnN nd ≤ s.size ∧ (tgN nd).length ≤ s.size) := by
  obtain ⟨r, σ1, h1, h2, h3⟩ := h
  refine ⟨parse_valid ⟨r, σ1, h1, h2⟩, fun hf => ?_⟩
  cases r
  · have hg := reader_goes h1 .bv [] (Nat.zero_le _) (.inl rfl)
    unfold Goes at hg
    rw [if_neg (by decide)] at hg
    rw [if_neg (by decide)] at h2
    subst h2
    exact absurd hf hg.1
  · obtain ⟨nd, hc, hn⟩ := h3 rfl
    obtain ⟨n, _, e, hW, k⟩ := content_goes hs hc
    obtain rfl : nd = n := by simpa using e
    obtain ⟨k1, k2, B, k3, k4⟩ := k .bv [] (Nat.zero_le _) (.inl rfl)
    obtain ⟨C, c1, c2, c3, c4, c5⟩ := endA_spS k1 k4
    rw [if_pos rfl] at h2
    have hend : (St.sp s σ1).at_ = s.size := by
      by_cases hl : (St.sp s σ1).at_ < s.size
      · rw [if_pos hl] at h2
        rw [h2] at hf
        exact absurd hf (fail_ne _ (by decide))
      · omega
    refine ⟨nd, hn, hW, ?_, by have k2' : 0 + cnN nd ≤ σ1.at_ := k2; omega, by have := k3.ge; have k5 : 0 + (tgN nd).length ≤ σ1.at_ := this; omega⟩
    have e1 := (k3.end' c1.c).eq
    rw [hend] at e1
    have e2 : (bl s).drop s.size = [] := by rw [List.drop_eq_nil_iff, bl_len]; exact Nat.le_refl _
    rw [e2] at e1
    have e3 : cmpQ sc0 (bl s) = tgN nd ++ cmpQ C [] := e1
    rw [e3]
    show tgN nd = tgN nd ++ []
    rw [List.append_nil]
/-- The memory in the last region of spec.Old. -/
structure SO (A p : Nat) (w wa : World) (k : Int) (t : ByteArray) (nm kd : Value) (f a : Int) (o : Bool) (f1 a1 : Int) (o1 : Bool) (wx : World) : Prop where
  ty : TyB wx A
  nd : NodeB wx p k t nm kd
  ot : OutB wx (p + 1) f a o
  rs : OutB wx (A + 1) f1 a1 o1
  bel : Below A w wx
  kp : ∀ g, A + 2 ≤ g → g < wa.heap.size → wx.heap[g]? = wa.heap[g]?
  sz : wa.heap.size ≤ wx.heap.size
theorem SO.call {A p : Nat} {w wa wx wy : World} {k : Int} {t : ByteArray} {nm kd : Value} {f a : Int} {o : Bool} {f1 a1 : Int} {o1 : Bool} (h : SO A p w wa k t nm kd f a o f1 a1 o1 wx) (hA : A ≤ wx.heap.size) (hb : Below wx.heap.size wx wy) : SO A p w wa k t nm kd f a o f1 a1 o1 wy :=
  ⟨h.ty.below hb, h.nd.other (hb.block _ h.nd.lt), h.ot.other (hb.block _ h.ot.lt), h.rs.other (hb.block _ h.rs.lt), h.bel.trans (hb.mono hA), fun g h1 h2 => (hb.block _ (by have := h.sz; omega)).trans (h.kp g h1 h2), Nat.le_trans h.sz hb.size⟩
theorem SO.store {A p : Nat} {w wa wx : World} {k : Int} {t : ByteArray} {nm kd : Value} {f a : Int} {o : Bool} {f1 a1 : Int} {o1 : Bool} (h : SO A p w wa k t nm kd f a o f1 a1 o1 wx) (hp : A + 2 ≤ p) :
    SO A p w wa k t nm kd f a o f a o (((wx.setCell ⟨A + 1, 0, none⟩ (.int .i64 f)).setCell ⟨A + 1, 1, none⟩ (.int .i64 a)).setCell ⟨A + 1, 2, none⟩ (.bool o)) := by
  obtain ⟨hO, hN, hB⟩ := h.rs.put h.nd (by omega) h.bel (by omega) f a o
  have q : ∀ g, g ≠ A + 1 → (((wx.setCell ⟨A + 1, 0, none⟩ (.int .i64 f)).setCell ⟨A + 1, 1, none⟩ (.int .i64 a)).setCell ⟨A + 1, 2, none⟩ (.bool o)).heap[g]? = wx.heap[g]? := fun g hg =>
    (Below.heap_setCell _ _ _ _ (by simpa using hg)).trans ((Below.heap_setCell _ _ _ _ (by simpa using hg)).trans (Below.heap_setCell _ _ _ _ (by simpa using hg)))
  exact ⟨(q _ (by omega)).trans h.ty, hN, h.ot.other (q _ (by omega)), hO, hB, fun g h1 h2 => (q g (by omega)).trans (h.kp g h1 h2), by have := h.sz; simpa using this⟩
set_option maxRecDepth 100000 in
set_option maxHeartbeats 4000000 in
theorem old_any (s : ByteArray) (hs : s.size ≤ 1000) (w : World) :
    Calls Tryz.prog 11 #[.string s, tightV] w fun e w' => (∃ (R : ByteArray) (f a : Int) (o : Bool), e = .returned (.tuple #[.string R, .agg #[.int .i64 f, .int .i64 a, .bool o]]) ∧ Hid ((f = 0 ↔ validQ sc0 (bl s) = true) ∧ (f = 0 → bl R = cmpQ sc0 (bl s)) ∧ (f ≠ 0 → R = ⟨#[]⟩))) ∧ Below w.heap.size w w' := by
  have hp := fun w' => parse_cn (fun _ => True) s true true w' (by omega) (fun _ _ _ => trivial) (fun h => by cases h)
  unfold tightV
  go_enter Tryz.func11, Tryz.ntmps11
  go_upto_region 2 with (first
    | (go_at_call 25; refine (oldRulesW_any _).mono ?_; rintro e w1 ⟨rfl, hb1⟩)
    | (go_at_call 5; refine (hp _).mono ?_; rintro e w2 ⟨⟨k1, t1, na, nl, nc, ka, kl, kc, σF, rfl, hF⟩, hb2⟩))
  have hB0 : Below w.heap.size w _ := ((Below.refl _ w).alloc (Nat.le_refl _) (.cells #[.bool false, .bool false, .bool false, .bool false, .bool true, .bool false, .bool false, .bool false, .bool false, .bool false, .bool false, .string ⟨#[]⟩, .string ⟨#[]⟩] 41)).alloc (by simp) (.cells #[.int .i64 0, .int .i64 0, .bool false] 27)
  have T0 := (TyB.new w).alloc (.cells #[.int .i64 0, .int .i64 0, .bool false] 27)
  have O0 : OutB ((w.alloc (.cells #[.bool false, .bool false, .bool false, .bool false, .bool true, .bool false, .bool false, .bool false, .bool false, .bool false, .bool false, .string ⟨#[]⟩, .string ⟨#[]⟩] 41)).alloc (.cells #[.int .i64 0, .int .i64 0, .bool false] 27)) (w.heap.size + 1) 0 0 false := by
    have := heap_alloc_new (w.alloc (.cells #[.bool false, .bool false, .bool false, .bool false, .bool true, .bool false, .bool false, .bool false, .bool false, .bool false, .bool false, .string ⟨#[]⟩, .string ⟨#[]⟩] 41)) (.cells #[.int .i64 0, .int .i64 0, .bool false] 27)
    exact ⟨27, by simpa using this⟩
  have z0 : ((w.alloc (.cells #[.bool false, .bool false, .bool false, .bool false, .bool true, .bool false, .bool false, .bool false, .bool false, .bool false, .bool false, .string ⟨#[]⟩, .string ⟨#[]⟩] 41)).alloc (.cells #[.int .i64 0, .int .i64 0, .bool false] 27)).heap.size = w.heap.size + 2 := by simp
  revert hB0 T0 O0 z0 hb1
  generalize ((w.alloc (.cells #[.bool false, .bool false, .bool false, .bool false, .bool true, .bool false, .bool false, .bool false, .bool false, .bool false, .bool false, .string ⟨#[]⟩, .string ⟨#[]⟩] 41)).alloc (.cells #[.int .i64 0, .int .i64 0, .bool false] 27)) = wb
  intro hb1 hB0 T0 O0 z0
  have hb12 := hb1.trans (hb2.mono hb1.size)
  have hsz1 := hb1.size
  have hsz2 := hb2.size
  have hsz := hb12.size
  have hlt := fin_compact (by omega) hF
  obtain ⟨f, hf⟩ : ∃ f, σF.fault = f := ⟨_, rfl⟩
  obtain ⟨a, ha⟩ : ∃ a : Int, (σF.at_ : Int) = a := ⟨_, rfl⟩
  obtain ⟨o, ho⟩ : ∃ o, σF.opn = o := ⟨_, rfl⟩
  rw [hf, ha, ho]
  rw [hf] at hlt
  have S0 : SO w.heap.size w2.heap.size w ((w2.alloc (.cells #[.int .u8 k1, .string t1, .slice na nl nc, .slice ka kl kc] 25)).alloc (.cells #[.int .i64 f, .int .i64 a, .bool o] 27)) k1 t1 (.slice na nl nc) (.slice ka kl kc) f a o 0 0 false
      ((w2.alloc (.cells #[.int .u8 k1, .string t1, .slice na nl nc, .slice ka kl kc] 25)).alloc (.cells #[.int .i64 f, .int .i64 a, .bool o] 27)) := by
    have bl2 : Below w2.heap.size w2 ((w2.alloc (.cells #[.int .u8 k1, .string t1, .slice na nl nc, .slice ka kl kc] 25)).alloc (.cells #[.int .i64 f, .int .i64 a, .bool o] 27)) := ((Below.refl _ w2).alloc (Nat.le_refl _) _).alloc (by simp) _
    refine ⟨(T0.below hb12).below bl2, ⟨_, (Below.heap_alloc _ _ _ (by simp)).trans (heap_alloc_new w2 _)⟩, ?_, (O0.other (hb12.block _ O0.lt)).other (bl2.block _ (by omega)), hB0.trans ((hb12.trans (bl2.mono hsz)).mono (by omega)), fun _ _ _ => rfl, Nat.le_refl _⟩
    have := heap_alloc_new (w2.alloc (.cells #[.int .u8 k1, .string t1, .slice na nl nc, .slice ka kl kc] 25)) (.cells #[.int .i64 f, .int .i64 a, .bool o] 27)
    exact ⟨27, by simpa using this⟩
  have K0 : ∀ g, g < w2.heap.size → ((w2.alloc (.cells #[.int .u8 k1, .string t1, .slice na nl nc, .slice ka kl kc] 25)).alloc (.cells #[.int .i64 f, .int .i64 a, .bool o] 27)).heap[g]? = w2.heap[g]? := fun g hg =>
    (Below.heap_alloc _ _ _ (by simp; omega)).trans (Below.heap_alloc _ _ _ hg)
  have Z0 : ((w2.alloc (.cells #[.int .u8 k1, .string t1, .slice na nl nc, .slice ka kl kc] 25)).alloc (.cells #[.int .i64 f, .int .i64 a, .bool o] 27)).heap.size = w2.heap.size + 2 := by simp
  try simp only [World.size_alloc]
  revert S0 K0 Z0
  generalize ((w2.alloc (.cells #[.int .u8 k1, .string t1, .slice na nl nc, .slice ka kl kc] 25)).alloc (.cells #[.int .i64 f, .int .i64 a, .bool o] 27)) = wa
  intro S0 K0 Z0
  obtain ⟨p0, p1, p2, _, _, _⟩ := S0.ot.cells
  obtain ⟨h1, h2⟩ := hlt
  by_cases hf0 : f = 0
  · have d0 : (f != 0) = false := by simp [hf0]
    obtain ⟨nd, n1, n2, n3, n4, n5⟩ := h2 hf0
    have HW := Lib.hid (show ∀ wz : World, SO w.heap.size w2.heap.size w wa k1 t1 (.slice na nl nc) (.slice ka kl kc) f a o 0 0 false wz ∨ SO w.heap.size w2.heap.size w wa k1 t1 (.slice na nl nc) (.slice ka kl kc) f a o f a o wz → Calls Tryz.prog 26 #[tightV, .agg #[.int .u8 k1, .string t1, .slice na nl nc, .slice ka kl kc], .int .i64 0] wz (WrtR wz (cmpQ sc0 (bl s))) from fun wz hz => by
      rw [← n3]
      have kz : ∀ g, w.heap.size + 2 ≤ g → g < wa.heap.size → wz.heap[g]? = wa.heap[g]? := by rcases hz with h | h; exact h.kp; exact h.kp
      have sz : wa.heap.size ≤ wz.heap.size := by rcases hz with h | h; exact h.sz; exact h.sz
      exact wrt_all (cnN nd) nd (fun g => w1.heap.size ≤ g ∧ g < w2.heap.size) k1 t1 na nl nc ka kl kc wz 0 (Nat.le_refl _) (NdM.keep (w := w2) (P := fun g => w1.heap.size ≤ g ∧ g < w2.heap.size) (fun g hg => ⟨hg, (kz g (by omega) (by omega)).trans (K0 g hg.2)⟩) _ _ n1) (fun g hg => by omega) n2 (by omega) (by omega) (by omega))
    have H1 := Lib.hid h1
    have H0 := Lib.hid hf0
    clear hf0 hp hF h1 h2 n1 n2 n3 n4 n5 hb1 hb2 hb12 T0 O0 hB0 K0
    go_upto_region 4 with fail
    refine wp_region_held (S := fun wx => SO w.heap.size w2.heap.size w wa k1 t1 (.slice na nl nc) (.slice ka kl kc) f a o 0 0 false wx ∨ SO w.heap.size w2.heap.size w wa k1 t1 (.slice na nl nc) (.slice ka kl kc) f a o f a o wx) (by kernel_rfl) ?_
    try (change wpAnyH _ _ _ _ _ _ _ _ (World.drew _))
    have Sd : SO w.heap.size w2.heap.size w wa k1 t1 (.slice na nl nc) (.slice ka kl kc) f a o 0 0 false wa.drew := ⟨S0.ty, S0.nd, S0.ot, S0.rs, ⟨S0.bel.os, S0.bel.tape, S0.bel.output, S0.bel.size, S0.bel.block⟩, S0.kp, S0.sz⟩
    clear p0 p1 p2 S0
    unfold tightV at HW
    have zd : wa.drew.heap.size = wa.heap.size := rfl
    generalize wa.drew = wd at Sd zd ⊢
    refine wpAnyH_take (i := 0) (v := (.agg #[.bool false, .bool false, .bool false, .bool false, .bool true, .bool false, .bool false, .bool false, .bool false, .bool false, .bool false, .string ⟨#[]⟩, .string ⟨#[]⟩])) rfl (by kernel_rfl) (by kernel_rfl) (by kernel_rfl) (fun _ _ _ h => h) (Or.inl ⟨by rfl, ?_⟩) (.inl Sd) ?_
    · intro wx hx; have hy : TyB wx w.heap.size := (by rcases hx with h | h; exact h.ty; exact h.ty); obtain ⟨q0, q1, q2, q3, q4, q5, q6, q7, q8, q9, q10, q11, q12⟩ := hy.cells; go_simp; try with_reducible rfl
    refine wpAnyH_take (i := 1) (v := (.agg #[.int .u8 k1, .string t1, .slice na nl nc, .slice ka kl kc])) rfl (by kernel_rfl) (by kernel_rfl) (by kernel_rfl) (fun _ _ _ h => h) (Or.inl ⟨by rfl, ?_⟩) (.inl Sd) ?_
    · intro wx hx; have hy : NodeB wx w2.heap.size k1 t1 (.slice na nl nc) (.slice ka kl kc) := (by rcases hx with h | h; exact h.nd; exact h.nd); obtain ⟨q0, q1, q2, q3, _, _, _, _⟩ := hy.cells; go_simp; try with_reducible rfl
    refine wpAnyH_take (i := 3) (v := (.agg #[.int .i64 f, .int .i64 a, .bool o])) rfl (by kernel_rfl) (by kernel_rfl) (by kernel_rfl) (fun _ _ _ h => h) (Or.inl ⟨by rfl, ?_⟩) (.inl Sd) ?_
    · intro wx hx; have hy : OutB wx (w2.heap.size + 1) f a o := (by rcases hx with h | h; exact h.ot; exact h.ot); obtain ⟨q0, q1, q2, _, _, _⟩ := hy.cells; go_simp; try with_reducible rfl
    try simp only [List.getElem_toArray, List.getElem_cons_succ, List.getElem_cons_zero, Act.put, List.setIfInBounds_toArray, List.set_cons_succ, List.set_cons_zero]
    refine wpAnyH_all (rs := [2]) (by kernel_rfl) (by decide) ?_
    intro i hi
    simp only [List.mem_cons, List.not_mem_nil, or_false] at hi
    subst hi
    refine wpOp_of (i := 2) rfl (by rfl) ?_
    go_simp
    go_at_call 26
    refine (HW.out _ (.inl Sd)).mono ?_
    rintro e wf ⟨R, rfl, hR, hbR⟩
    have HR := Lib.hid hR
    have Sf := Sd.call (by have := Sd.sz; omega) hbR
    clear hR hbR
    dsimp only
    refine ⟨.inl Sf, ?_⟩
    try simp only [List.getElem_toArray, List.getElem_cons_succ, List.getElem_cons_zero, Act.put, List.setIfInBounds_toArray, List.set_cons_succ, List.set_cons_zero]
    refine wpAnyH_take (i := 4) (v := ?_) rfl (by kernel_rfl) (by kernel_rfl) (by kernel_rfl) (fun _ _ _ h => h) (Or.inl ⟨by rfl, ?_⟩) (.inl Sf) ?_
    rotate_left
    · intro wx hx; go_simp; try with_reducible rfl
    rotate_left
    try simp only [List.getElem_toArray, List.getElem_cons_succ, List.getElem_cons_zero, Act.put, List.setIfInBounds_toArray, List.set_cons_succ, List.set_cons_zero]
    refine wpAnyH_all (rs := [5]) (by kernel_rfl) (by decide) ?_
    intro i hi
    simp only [List.mem_cons, List.not_mem_nil, or_false] at hi
    subst hi
    obtain ⟨o0, o1, o2, fo0, fo1, fo2⟩ := Sf.rs.cells
    refine wpOp_skip (i := 5) (w' := (((wf.setCell ⟨w.heap.size + 1, 0, none⟩ (.int .i64 f)).setCell ⟨w.heap.size + 1, 1, none⟩ (.int .i64 a)).setCell ⟨w.heap.size + 1, 2, none⟩ (.bool o))) rfl (by rfl) (by go_simp) ?_
    have Se := Sf.store (by omega)
    clear o0 o1 o2 fo0 fo1 fo2
    revert Se
    generalize (((wf.setCell ⟨w.heap.size + 1, 0, none⟩ (.int .i64 f)).setCell ⟨w.heap.size + 1, 1, none⟩ (.int .i64 a)).setCell ⟨w.heap.size + 1, 2, none⟩ (.bool o)) = we
    intro Se
    refine ⟨.inr Se, wpAnyH_done (by kernel_rfl) ?_ _⟩
    go_wp2_with fail
    obtain ⟨p0, p1, p2, _, _, _⟩ := Se.rs.cells
    refine bodyPost_ret (v := .tuple #[.string R, .agg #[.int .i64 f, .int .i64 a, .bool o]]) (by simp [results, Tryz.results11, go_sem, p0, p1, p2]; try rfl) rfl ?_
    exact ⟨⟨_, f, a, o, rfl, Lib.hid ⟨H1.out, fun _ => HR.out, fun h => absurd H0.out h⟩⟩, Se.bel⟩
  · have d0 : (f != 0) = true := by simp [hf0]
    clear hp hF h2 hb1 hb2 hb12 T0 O0 hB0 K0
    go_upto_region 3 with fail
    refine wp_region_held (S := fun wx => SO w.heap.size w2.heap.size w wa k1 t1 (.slice na nl nc) (.slice ka kl kc) f a o 0 0 false wx ∨ SO w.heap.size w2.heap.size w wa k1 t1 (.slice na nl nc) (.slice ka kl kc) f a o f a o wx) (by kernel_rfl) ?_
    try (change wpAnyH _ _ _ _ _ _ _ _ (World.drew _))
    have Sd : SO w.heap.size w2.heap.size w wa k1 t1 (.slice na nl nc) (.slice ka kl kc) f a o 0 0 false wa.drew := ⟨S0.ty, S0.nd, S0.ot, S0.rs, ⟨S0.bel.os, S0.bel.tape, S0.bel.output, S0.bel.size, S0.bel.block⟩, S0.kp, S0.sz⟩
    generalize wa.drew = wd at Sd ⊢
    refine wpAnyH_take (i := 0) (v := (.agg #[.int .i64 f, .int .i64 a, .bool o])) rfl (by kernel_rfl) (by kernel_rfl) (by kernel_rfl) (fun _ _ _ h => h) (Or.inl ⟨by rfl, ?_⟩) (.inl Sd) ?_
    · intro wx hx; have hy : OutB wx (w2.heap.size + 1) f a o := (by rcases hx with h | h; exact h.ot; exact h.ot); obtain ⟨q0, q1, q2, _, _, _⟩ := hy.cells; go_simp; try with_reducible rfl
    refine wpAnyH_take (i := 1) (v := ?_) rfl (by kernel_rfl) (by kernel_rfl) (by kernel_rfl) (fun _ _ _ h => h) (Or.inl ⟨by rfl, ?_⟩) (.inl Sd) ?_
    rotate_left
    · intro wx hx; go_simp; try with_reducible rfl
    rotate_left
    simp only [List.getElem_toArray, List.getElem_cons_succ, List.getElem_cons_zero, Act.put, List.setIfInBounds_toArray, List.set_cons_succ, List.set_cons_zero]
    refine wpAnyH_all (rs := [2]) (by kernel_rfl) (by decide) ?_
    intro i hi
    simp only [List.mem_cons, List.not_mem_nil, or_false] at hi
    subst hi
    obtain ⟨o0, o1, o2, fo0, fo1, fo2⟩ := Sd.rs.cells
    refine wpOp_skip (i := 2) (w' := (((wd.setCell ⟨w.heap.size + 1, 0, none⟩ (.int .i64 f)).setCell ⟨w.heap.size + 1, 1, none⟩ (.int .i64 a)).setCell ⟨w.heap.size + 1, 2, none⟩ (.bool o))) rfl (by rfl) (by go_simp) ?_
    have Se := Sd.store (by omega)
    revert Se
    generalize (((wd.setCell ⟨w.heap.size + 1, 0, none⟩ (.int .i64 f)).setCell ⟨w.heap.size + 1, 1, none⟩ (.int .i64 a)).setCell ⟨w.heap.size + 1, 2, none⟩ (.bool o)) = we
    intro Se
    refine ⟨.inr Se, wpAnyH_done (by kernel_rfl) ?_ _⟩
    clear o0 o1 o2 fo0 fo1 fo2 p0 p1 p2
    go_wp2_with fail
    obtain ⟨p0, p1, p2, _, _, _⟩ := Se.rs.cells
    refine bodyPost_ret (v := .tuple #[.string ⟨#[]⟩, .agg #[.int .i64 f, .int .i64 a, .bool o]]) (by simp [results, Tryz.results11, go_sem, p0, p1, p2]; try rfl) rfl ?_
    exact ⟨⟨_, f, a, o, rfl, Lib.hid ⟨h1, fun h => absurd h hf0, fun _ => rfl⟩⟩, Se.bel⟩
end
section
/- (Em) Compact of no bytes at all: a SyntaxError, and the buffer stays. -/
open Go.RowKit Go.Shelf

theorem FreeK.belowE {b B : Nat} {w w' : World} (h : FreeK b w w') (hB : B ≤ b) : Below B w w' := by
  rcases h with rfl | rfl
  · exact Below.refl _ _
  · exact ⟨rfl, rfl, rfl, by simp, fun k hk => Below.heap_setCell _ _ _ _ (by simp; omega)⟩
theorem stp_below {b : Nat} {v : Value} {w w' : World} (h : Below w.heap.size w w') : Stp b v w v w' := ⟨h.os, h.tape, h.output, h.size, fun k hk _ _ => h.block k hk, fun _ _ h => h⟩
set_option maxRecDepth 100000 in
set_option maxHeartbeats 8000000 in
theorem comp_empty (g o c b cap : Nat) (w : World) (hc : c ≤ maxLen) (hcm : cap ≤ maxLen) :
    Calls Tryz.prog 51 #[.slice (some ⟨g, o, none⟩) 0 c, .slice (some ⟨b, 0, none⟩) 0 cap, .bool false] w fun e w' => ∃ (p : Nat) (es : ByteArray) (n : Int), e = .returned (.tuple #[.slice (some ⟨g, o, none⟩) 0 c, .iface 103 (.pointer (some ⟨p, 0, none⟩))]) ∧
      Below w.heap.size w w' ∧ w'.heap[p]? = some (.cells #[.string es, .int .i64 n] 107 (0, 0)) := by
  have hn := new_any w
  have hcapI : (cap : Int) ≤ 9223372036854775807 := by unfold maxLen at hcm; omega
  have hcpI : (c : Int) ≤ 9223372036854775807 := by unfold maxLen at hc; omega
  have hncI : (0 : Int) ≤ (c : Int) := by omega
  have hscI : (0 : Int) ≤ (cap : Int) := by omega
  clear hc hcm
  go_enter_defers Tryz.func51, Tryz.ntmps51
  go_wp2_with (first | (go_at_call 43; refine hn.mono ?_; rintro e w1 ⟨rfl, hS0, _, hb0⟩))
  obtain ⟨b1, hb1⟩ : ∃ b1, w.heap.size = b1 := ⟨_, rfl⟩
  have hz1 := hb0.size
  have he := eof_any b1 b1 sc0 (.slice none 0 0) w1 (by rw [← hb1]; exact hS0) (by omega) (by decide) (fun h => by cases h)
  have hbad : (eofQ sc0).2.bad = true := by decide
  have h11 : (eofQ sc0).1 = 11 := by decide
  rw [h11] at he
  generalize (eofQ sc0).2 = σ2 at he hbad
  rw [hb1] at hS0 hb0 hz1 ⊢
  clear h11 hn
  go_loopg [0, 10, 20] 0 (fun g' d i n wr => d = .slice (some ⟨g, o, none⟩) 0 c ∧ i = .int .i64 0 ∧ n = .int .i64 0 ∧ wr = w1)
  case atStart => exact ⟨rfl, rfl, rfl, rfl⟩
  case round =>
    obtain ⟨rfl, rfl, rfl, hwr⟩ := hrel
    subst hwr
    go_upto_region 26 with (first
      | (go_at_call 68; refine he.mono ?_; rintro e w3 ⟨v3, rfl, hS3, hP3⟩; obtain ⟨e3, n3, he3, _, _, _, c33, _, _⟩ := hS3.cells; obtain ⟨pe, es, en, rfl, hpe, hce⟩ := he3.2 hbad))
    have q33 : ∀ nq, (w3.drewN nq).cell? ⟨b1, 3, none⟩ = some (.iface 103 (.pointer (some ⟨pe, 0, none⟩))) := fun _ => c33
    clear c33
    go_quiet (fail)
    go_wp2_with fail
    have hS3q : IsS (w3.drewN nq) b1 b1 σ2 v3 := ⟨hS3.hB, hS3.cell, hS3.row⟩
    refine leaves_cons (f := 44) (args := #[.pointer (some ⟨b1, 0, none⟩)]) (by simp) (by simp [go_sem]) ?_
    refine (free_k b1 b1 _ _ _ _ hS3q).mono ?_
    rintro e u' w5 ⟨rfl, rfl, hF⟩
    refine ⟨_, results_tmp2 rfl _ _ _, pe, es, en, rfl, ?_, (hF.block (hS3.err_ne hce).1).trans hce⟩
    have h1 : Below b1 wr w3 := hP3.below hS0 hz1
    have h2 : Below b1 w3 (w3.drewN nq) := ⟨rfl, rfl, rfl, Nat.le_refl _, fun _ _ => rfl⟩
    rw [← hb1] at h1 h2 hF hb0
    exact hb0.trans (h1.trans (h2.trans (hF.belowE (Nat.le_refl _))))
set_option maxRecDepth 100000 in
set_option maxHeartbeats 4000000 in
theorem compact_empty (b B g o m cap : Nat) (l : List Int) (sb scap : Nat) (w : World) (h : BufS w b B (.slice (some ⟨g, o, none⟩) m cap) l) (hB : B ≤ w.heap.size) (hm : m ≤ 1000000000000) (hcm : scap ≤ maxLen) :
    Calls Tryz.prog 27 #[.pointer (some ⟨b, 0, none⟩), .slice (some ⟨sb, 0, none⟩) 0 scap] w fun e w' => ∃ u, e = .returned u ∧ CompO b B m l [] false (.slice (some ⟨g, o, none⟩) m cap) w u w' := by
  have hgr := growPub_any b B g o m cap 0 l w h hB (by omega)
  have hcomp : ∀ (w1 : World) (g1 o1 cap1 o2 c2 : Nat), BufS w1 b B (.slice (some ⟨g1, o1, none⟩) m cap1) l → Stp b (.slice (some ⟨g, o, none⟩) m cap) w (.slice (some ⟨g1, o1, none⟩) m cap1) w1 → Bs w1 B (.slice (some ⟨g1, o2, none⟩) 0 c2) [] →
      Calls Tryz.prog 51 #[.slice (some ⟨g1, o2, none⟩) 0 c2, .slice (some ⟨sb, 0, none⟩) 0 scap, .bool false] w1 fun e w2 => ∃ pa n pc u, e = .returned (.tuple #[.slice pa n pc, u]) ∧
        Calls Tryz.prog 35 #[.pointer (some ⟨b, 0, none⟩), .slice pa n pc] w2 fun e w' => e = .returned (.tuple #[.int .i64 n, .nilIface]) ∧ CompO b B m l [] false (.slice (some ⟨g, o, none⟩) m cap) w u w' := by
    intro w1 g1 o1 cap1 o2 c2 hb1 hP hbs
    obtain ⟨_, ao, cp, ev, _, hcp, _⟩ := id hbs
    injection ev with _ _ ev
    refine (comp_empty g1 o2 c2 sb scap w1 (by omega) hcm).mono ?_
    rintro e w2 ⟨p, es, n, rfl, hb2, hp⟩
    have h2 := bufS_below hb1 hb2
    have hP2 : Stp b (.slice (some ⟨g1, o1, none⟩) m cap1) w1 (.slice (some ⟨g1, o1, none⟩) m cap1) w2 := stp_below hb2
    have hB2 : B ≤ w2.heap.size := Nat.le_trans (Nat.le_trans hB hP.size) hb2.size
    have hbb := h2.lt
    have hcell := h2.cell
    obtain ⟨_, _, _, _, cur, fr, hg, _⟩ := bs_room h2.bs
    refine ⟨_, 0, _, _, rfl, (write_any b B g1 o1 m cap1 0 c2 l [] (some ⟨g1, o2, none⟩) w2 h2 (hbs.below hb2) hB2 (by omega)).mono ?_⟩
    rintro e w3 ⟨rfl, g3, o3, cap3, k1, k2⟩
    refine ⟨rfl, g3, o3, cap3, [], k1, (hP.trans hP2).trans k2, fun h => (by cases h), fun _ => ⟨rfl, p, es, n, rfl, ?_⟩⟩
    refine (k2.block p (lt_of_block hp) ?_ ?_).trans hp
    · rintro rfl
      obtain ⟨lr, hc⟩ := hcell
      rw [hc] at hp
      injection hp with hp
      injection hp with hp _ _
      exact absurd (congrArg Array.size hp) (by simp)
    · intro e
      have e' : g1 = p := by simpa [Value.ownBlock] using e
      rw [← e', hg] at hp
      injection hp with hp
      injection hp with _ hp _
      exact absurd hp (by decide)
  clear h
  go_enter Tryz.func27, Tryz.ntmps27
  go_wp2_with (first
    | (go_at_call 34; refine hgr.mono ?_; rintro e w1 ⟨rfl, g1, o1, cap1, hc1, hb1, hP⟩)
    | (go_at_call 37; refine (avail_any b B g1 o1 m cap1 l w1 hb1).mono ?_; rintro e w2 ⟨v2, rfl, hbs, hv2, nq, rfl⟩; obtain ⟨o2, c2, rfl⟩ : ∃ o2 c2, v2 = .slice (some ⟨g1, o2, none⟩) 0 c2 := (by rcases hv2 with e | ⟨e, _⟩; exact ⟨_, _, e⟩; exact ⟨_, _, e⟩); have hcc := hcomp (w1.drewN nq) g1 o1 cap1 o2 c2 ⟨hb1.hB, hb1.cell, hb1.bs.drewN nq⟩ (hP.trans (Stp.drew b _ w1 nq)) (hbs.drewN nq))
    | (go_at_call 51; refine hcc.mono ?_; rintro e w3 ⟨pa, n, pc, u, rfl, hwr⟩)
    | (go_at_call 35; refine hwr.mono ?_; rintro e w4 ⟨rfl, k1⟩))
  all_goals go_ret
  exact ⟨_, rfl, k1⟩
end
section
/- (LOc) The law of FnOldCompact: the walk. -/
open Go.RowKit Go.Shelf

theorem compact_empty' (b B g o m cap : Nat) (l : List Int) (sb scap : Nat) (w : World) (n : Nat) (hn : n = 0) (h : BufS w b B (.slice (some ⟨g, o, none⟩) m cap) l) (hB : B ≤ w.heap.size) (hm : m ≤ 1000000000000) (hcm : scap ≤ maxLen) :
    Calls Tryz.prog 27 #[.pointer (some ⟨b, 0, none⟩), .slice (some ⟨sb, 0, none⟩) n scap] w fun e w' => ∃ u, e = .returned u ∧ CompO b B m l [] false (.slice (some ⟨g, o, none⟩) m cap) w u w' := by
  subst hn
  exact compact_empty b B g o m cap l sb scap w h hB hm hcm
set_option maxRecDepth 100000 in
set_option maxHeartbeats 4000000 in
theorem oldCompact_none (a s : ByteArray) (w : World) (ha : a.size ≤ 100000000000) (hs : s.size = 0) :
    Calls Tryz.prog 13 #[.string a, .string s] w fun e w' => (∃ n, e = .returned (.tuple #[.string (txt (bl a)), .bool false, .int .i64 n])) ∧ Below w.heap.size w w' := by
  have hnb := newBuf_any a (by unfold maxLen; omega) w
  have hcc : ∀ (w1 : World) (cap : Nat), BufS w1 (w.heap.size + 1) w.heap.size (.slice (some ⟨w.heap.size, 0, none⟩) a.size cap) (bl a) → Below w.heap.size w w1 → ∃ c2 w2, (convert 9 54 (.string s)).run Tryz.prog w1 = .ok (.slice (some ⟨w1.heap.size, 0, none⟩) s.size c2) w2 ∧
      Calls Tryz.prog 27 #[.pointer (some ⟨w.heap.size + 1, 0, none⟩), .slice (some ⟨w1.heap.size, 0, none⟩) s.size c2] w2 fun e w3 => ∃ (p : Nat) (es : ByteArray) (n : Int), e = .returned (.iface 103 (.pointer (some ⟨p, 0, none⟩))) ∧ Below w.heap.size w w3 ∧ w3.heap[p]? = some (.cells #[.string es, .int .i64 n] 107 (0, 0)) ∧ ∃ g o m cap, BufS w3 (w.heap.size + 1) w.heap.size (.slice (some ⟨g, o, none⟩) m cap) (bl a) := by
    intro w1 cap hb1 hbel
    obtain ⟨c2, w2, hc2, C2⟩ := cnvB s (by unfold maxLen; omega) w1
    have hb2 := bufS_below hb1 C2.below
    have hg1 : w.heap.size < w1.heap.size := by obtain ⟨_, _, _, _, _, _, hg, _⟩ := bs_room hb1.bs; exact lt_of_block hg
    have hbb := hb1.lt
    have hbel2 := bwO hbel C2.below
    refine ⟨c2, w2, hc2, (compact_empty' (w.heap.size + 1) w.heap.size w.heap.size 0 a.size cap (bl a) w1.heap.size c2 w2 s.size hs hb2 (Nat.le_trans hbel.size C2.below.size) (by omega) C2.cap_le).mono ?_⟩
    rintro e w3 ⟨u, rfl, hO⟩
    obtain ⟨f1, -, f2⟩ := hO.fin hbel2
    obtain ⟨p, es, n, rfl, f3, f4⟩ := f2 rfl
    exact ⟨p, es, n, rfl, f1, f3, f4⟩
  generalize hT : bl a = T at hnb hcc ⊢
  obtain ⟨m, hm⟩ : ∃ m, a.size = m := ⟨_, rfl⟩
  rw [hm] at hcc hnb
  clear ha hs hm hT
  go_enter Tryz.func13, Tryz.ntmps13
  go_upto_region 3 with (first
    | (go_at_call 17; refine hnb.mono ?_; rintro e w1 ⟨cap, rfl, hb1, hbel⟩; obtain ⟨c2, w2, hc2, hC⟩ := hcc w1 cap hb1 hbel)
    | (go_at_call 27; refine hC.mono ?_; rintro e w3 ⟨p, es, n, rfl, hbw, hpc, g, o, m3, cap3, hb3⟩))
  have hst : ∀ w4 : World, Below w3.heap.size w3 w4 → Calls Tryz.prog 19 #[.pointer (some ⟨w.heap.size + 1, 0, none⟩)] w4 fun e w' => e = .returned (.string (txt T)) ∧ Below w3.heap.size w3 w' := fun w4 h4 =>
    (bufStr_any (w.heap.size + 1) w.heap.size g o m3 cap3 T w4 (bufS_below hb3 h4)).mono fun e w' ⟨h1, nq, h2⟩ => ⟨h1, by subst h2; exact ⟨h4.os, h4.tape, h4.output, h4.size, h4.block⟩⟩
  have hof : ∀ w4 : World, Below w3.heap.size w3 w4 → Calls Tryz.prog 28 #[.iface 103 (.pointer (some ⟨p, 0, none⟩))] w4 fun e w' => e = .returned (.int .i64 n) ∧ Below w3.heap.size w3 w' := fun w4 h4 =>
    (offset_err p es n w4 ((h4.block p (lt_of_block hpc)).trans hpc)).mono fun e w' ⟨h1, h2⟩ => ⟨h1, bwO h4 h2⟩
  have h0 : Below w3.heap.size w3 w3.drew := ⟨rfl, rfl, rfl, Nat.le_refl _, fun _ _ => rfl⟩
  have hbq : ∀ w', Below w3.heap.size w3 w' → Below w.heap.size w w' := fun w' h => bwO hbw h
  clear hnb hcc hC hc2 hb1 hbel hpc hb3 hbw
  go_region_with (first
    | (go_at_call 19; refine (hst _ (by assumption)).mono ?_; rintro e w4 ⟨rfl, hb4⟩)
    | (go_at_call 28; refine (hof _ (by assumption)).mono ?_; rintro e w5 ⟨rfl, hb5⟩))
  all_goals go_wp2_with fail
  all_goals go_ret3
  all_goals first | exact ⟨⟨_, rfl⟩, hbq _ (by assumption)⟩ | exact hbq _ (by assumption) | exact ⟨rfl, hbq _ (by assumption)⟩
theorem oldCompact_no (a s : ByteArray) (w : World) (ha : a.size ≤ 1000) (hs : s.size ≤ 1000) (hv : validQ sc0 (bl s) = false) :
    Calls Tryz.prog 13 #[.string a, .string s] w fun e w' => (∃ (S : ByteArray) (n : Int), e = .returned (.tuple #[.string S, .bool false, .int .i64 n])) ∧ Below w.heap.size w w' := by
  by_cases h0 : s.size = 0
  · exact (oldCompact_none a s w (by omega) h0).mono fun e w' ⟨⟨n, h1⟩, h2⟩ => ⟨⟨_, n, h1⟩, h2⟩
  · have hd : DepQ 9000 sc0 (bl s) := dep_len 9000 (bl s) sc0 inv0 (by rw [bl_len]; show 0 + s.size ≤ 9000; omega)
    exact (oldCompact_bad a s w (by omega) (by omega) hd (.inl (by omega)) hv).mono fun e w' ⟨⟨n, h1⟩, h2⟩ => ⟨⟨_, n, h1⟩, h2⟩
theorem oldCompact_yes (a s : ByteArray) (w : World) (ha : a.size ≤ 1000) (hs : s.size ≤ 1000) (hv : validQ sc0 (bl s) = true) :
    Calls Tryz.prog 13 #[.string a, .string s] w fun e w' => (∃ (n : Int), e = .returned (.tuple #[.string (txt (bl a ++ cmpQ sc0 (bl s))), .bool true, .int .i64 n])) ∧ Below w.heap.size w w' := by
  have hd : DepQ 9000 sc0 (bl s) := dep_len 9000 (bl s) sc0 inv0 (by rw [bl_len]; show 0 + s.size ≤ 9000; omega)
  have h0 : 0 < s.size := by
    rcases Nat.eq_zero_or_pos s.size with h | h
    · have : bl s = [] := List.eq_nil_of_length_eq_zero (by rw [bl_len]; exact h)
      rw [this] at hv
      exact absurd hv (by decide)
    · exact h
  exact oldCompact_ok a s w (by omega) (by omega) hd (.inl h0) hv
theorem old_yes (s : ByteArray) (hs : s.size ≤ 1000) (hv : validQ sc0 (bl s) = true) (w : World) :
    Calls Tryz.prog 11 #[.string s, tightV] w fun e w' => (∃ (R : ByteArray) (a : Int) (o : Bool), e = .returned (.tuple #[.string R, .agg #[.int .i64 0, .int .i64 a, .bool o]]) ∧ Hid (bl R = cmpQ sc0 (bl s))) ∧ Below w.heap.size w w' :=
  (old_any s hs w).mono fun e w' ⟨⟨R, f, a, o, h1, h2⟩, h3⟩ => by
    obtain ⟨k1, k2, k3⟩ := h2.out
    have hf := k1.2 hv
    subst hf
    exact ⟨⟨R, a, o, h1, Lib.hid (k2 rfl)⟩, h3⟩
theorem old_no (s : ByteArray) (hs : s.size ≤ 1000) (hv : validQ sc0 (bl s) = false) (w : World) :
    Calls Tryz.prog 11 #[.string s, tightV] w fun e w' => (∃ (f a : Int) (o : Bool), e = .returned (.tuple #[.string ⟨#[]⟩, .agg #[.int .i64 f, .int .i64 a, .bool o]]) ∧ Hid ((f == 0) = false)) ∧ Below w.heap.size w w' :=
  (old_any s hs w).mono fun e w' ⟨⟨R, f, a, o, h1, h2⟩, h3⟩ => by
    obtain ⟨k1, k2, k3⟩ := h2.out
    have hf : f ≠ 0 := fun h => by have := k1.1 h; rw [hv] at this; cases this
    obtain rfl := k3 hf
    exact ⟨⟨f, a, o, h1, Lib.hid (by simpa using hf)⟩, h3⟩
theorem out_cell {w w' : World} {f a : Int} {o : Bool} {T : TypeId} (hb : Below (w.alloc (.cells #[.int .i64 f, .int .i64 a, .bool o] T)).heap.size (w.alloc (.cells #[.int .i64 f, .int .i64 a, .bool o] T)) w') : w'.cell? ⟨w.heap.size, 0, none⟩ = some (.int .i64 f) := by
  have h := heap_alloc_new w (.cells #[.int .i64 f, .int .i64 a, .bool o] T)
  have h2 := (hb.block w.heap.size (by simp)).trans h
  simp [World.cell?, h2]
theorem bwC {w a b : World} (h : Below w.heap.size w a) (k : Below a.heap.size a b) : Below w.heap.size w b := Below.trans h (Below.mono k h.size)
set_option maxRecDepth 100000 in
set_option maxHeartbeats 4000000 in
theorem walk_FnOldCompact (a0 : ByteArray) (w0 : a0.size ≤ maxLen) (a1 : ByteArray) (w1 : a1.size ≤ maxLen) (w : World) :
    Calls Tryz.prog 4 #[.string a0, .string a1] w fun e w' => e = .returned (.bool true) ∧ Below w.heap.size w w' := by
  have hs0 := w0
  have hs1 := w1
  unfold maxLen at hs0 hs1
  by_cases hz0 : 2147483647 < (a0.size : Int)
  · go_enter Tryz.func4, Tryz.ntmps4
    go_wp2_with fail
    all_goals go_ret
    exact ⟨rfl, Below.refl _ _⟩
  by_cases hz1 : 2147483647 < (a1.size : Int)
  · go_enter Tryz.func4, Tryz.ntmps4
    go_wp2_with fail
    all_goals go_ret
    exact ⟨rfl, Below.refl _ _⟩
  obtain ⟨r, hr⟩ : ∃ r, Hid ((decide (a0.size ≤ 1000) && decide (a1.size ≤ 1000)) = r) := ⟨_, Lib.hid rfl⟩
  cases r
  · clear hs0 hs1
    go_enter Tryz.func4, Tryz.ntmps4
    go_wp2_with (go_at_call 6; refine (f8two a0 a1 _ _ false hr (strs2 _ _ _ _) w0 w1).mono ?_; rintro e w3 ⟨rfl, hw3⟩; obtain rfl := hw3.symm)
    all_goals go_ret
    exact ⟨rfl, (Below.refl _ _).alloc (Nat.le_refl _) _⟩
  have hl := hr.out
  rw [Bool.and_eq_true] at hl
  have hl0 : a0.size ≤ 1000 := by simpa using hl.1
  have hl1 : a1.size ≤ 1000 := by simpa using hl.2
  have hba : ∀ o, Below w.heap.size w (w.alloc o) := fun o => (Below.refl _ _).alloc (Nat.le_refl _) _
  obtain ⟨V, hV⟩ : ∃ V, validQ sc0 (bl a1) = V := ⟨_, rfl⟩
  cases V
  · have hc := fun w' => oldCompact_no a0 a1 w' hl0 hl1 hV
    have ho := fun w' => old_no a1 hl1 hV w'
    have ht := tightW_any
    unfold tightV at ho ht
    clear hs0 hs1 hl hl0 hl1 hV
    go_enter Tryz.func4, Tryz.ntmps4
    go_wp2_with (first
      | (go_at_call 6; refine (f8two a0 a1 _ _ true hr (strs2 _ _ _ _) w0 w1).mono ?_; rintro e w3 ⟨rfl, hw3⟩; obtain rfl := hw3.symm)
      | (go_at_call 12; refine (ht _).mono ?_; rintro e w4 ⟨rfl, hb4⟩; have hb5 := bwC (hba _) hb4)
      | (go_at_call 11; refine (ho _).mono ?_; rintro e w6 ⟨⟨f, a, o, rfl, hf⟩, hb6⟩; have hb7 := bwC hb5 hb6; have hf0 := hf.out)
      | (go_at_call 13; refine (hc _).mono ?_; rintro e w8 ⟨⟨S, n8, rfl⟩, hb8⟩; have c8 := out_cell hb8; have hb9 := bwC (hb7.alloc hb7.size _) hb8))
    all_goals go_ret
    exact ⟨rfl, hb9⟩
  · have hc := fun w' => oldCompact_yes a0 a1 w' hl0 hl1 hV
    have ho := fun w' => old_yes a1 hl1 hV w'
    have ht := tightW_any
    unfold tightV at ho ht
    obtain ⟨X, hX⟩ : ∃ X, txt (bl a0 ++ cmpQ sc0 (bl a1)) = X := ⟨_, rfl⟩
    rw [hX] at hc
    have hXe : ∀ R : ByteArray, bl R = cmpQ sc0 (bl a1) → X = a0 ++ R := fun R hR => by rw [← hX, ← hR, ← bl_append, txt_bl]
    have hRs : ∀ R : ByteArray, bl R = cmpQ sc0 (bl a1) → R.size ≤ 1000 := fun R hR => by rw [← bl_len, hR]; have := cmpO_len (bl a1) sc0; rw [bl_len] at this; omega
    have HX := Lib.hid hXe
    have HR := Lib.hid hRs
    clear hs1 hl hl1 hV hX hXe hRs
    go_enter Tryz.func4, Tryz.ntmps4
    go_wp2_with (first
      | (go_at_call 6; refine (f8two a0 a1 _ _ true hr (strs2 _ _ _ _) w0 w1).mono ?_; rintro e w3 ⟨rfl, hw3⟩; obtain rfl := hw3.symm)
      | (go_at_call 12; refine (ht _).mono ?_; rintro e w4 ⟨rfl, hb4⟩; have hb5 := bwC (hba _) hb4)
      | (go_at_call 11; refine (ho _).mono ?_; rintro e w6 ⟨⟨R, a, o, rfl, hR⟩, hb6⟩; have hb7 := bwC hb5 hb6; have hRl := HR.out R hR.out; have hE1 : X.toList = (a0 ++ R).toList := (by rw [HX.out R hR.out]))
      | (go_at_call 13; refine (hc _).mono ?_; rintro e w8 ⟨⟨n8, rfl⟩, hb8⟩; have c8 := out_cell hb8; have hb9 := bwC (hb7.alloc hb7.size _) hb8))
    all_goals go_ret
    exact ⟨rfl, hb9⟩
end
end Go.Proofs.YtjbffgjclnjkoaaGreatDoor
