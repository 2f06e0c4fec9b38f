/- Unquoting what a strict reader takes: step by step, wherever it stands. No program in sight. -/
import Derived.Test.YtokhmhbjbclcoaaDoorUp
import Derived.Test.YtokhmhbjbclcoaaDoorWd
namespace Go.Proofs.YtokhmhbjbclcoaaDoor
set_option linter.unusedVariables false
set_option linter.unusedSimpArgs false
open Go.RowKit

/-- From n to m by steps of unquoting at which nothing is wrong; what they write. -/
inductive Run (s : ByteArray) : Nat → Nat → List Int → Prop
  | nil (n : Nat) : Run s n n []
  | step {n m d : Nat} {o X : List Int} (h34 : bAt s n ≠ 34) (hu : uS s n = (o, d, false)) (hd : d ≠ 0) (hm : n + d ≤ m) (r : Run s (n + d) m X) : Run s n m (o ++ X)

theorem Run.le {s : ByteArray} {n m : Nat} {X : List Int} (h : Run s n m X) : n ≤ m := by
  induction h with
  | nil => exact Nat.le_refl _
  | step _ _ _ _ _ ih => omega
theorem Run.app {s : ByteArray} {n m p : Nat} {X Y : List Int} (h : Run s n m X) (k : Run s m p Y) : Run s n p (X ++ Y) := by
  induction h with
  | nil => exact k
  | step h34 hu hd hm r ih => rw [List.append_assoc]; exact .step h34 hu hd (by have := r.le; have := k.le; omega) (ih k)
theorem Run.uO {s : ByteArray} {n m : Nat} {X : List Int} (h : Run s n m X) (hm : m < s.size) (h34 : bAt s m = 34) : ∀ g, s.size - n ≤ g → uO s g n = (X, decide (m + 1 < s.size)) := by
  induction h with
  | nil n =>
    intro g hg
    obtain ⟨g', rfl⟩ : ∃ g', g = g' + 1 := ⟨g - 1, by omega⟩
    rw [YtokhmhbjbclcoaaDoor.uO, if_pos hm, if_pos h34]
  | @step n m d o X h34' hu hd hm' r ih =>
    intro g hg
    obtain ⟨g', rfl⟩ : ∃ g', g = g' + 1 := ⟨g - 1, by omega⟩
    rw [YtokhmhbjbclcoaaDoor.uO, if_pos (by omega), if_neg h34', hu, if_neg hd, ih hm h34 g' (by omega)]
    rfl

/-- What stands on some bytes of a text stands where the same bytes stand in another one. -/
def Same (s t : ByteArray) (n n2 d : Nat) : Prop := ∀ i, i < d → bAt t (n2 + i) = bAt s (n + i)
theorem Same.mono {s t : ByteArray} {n n2 d e : Nat} (h : Same s t n n2 d) (he : e ≤ d) : Same s t n n2 e := fun i hi => h i (by omega)
theorem Same.drop {s t : ByteArray} {n n2 d : Nat} (h : Same s t n n2 d) (k : Nat) (hk : k ≤ d) : Same s t (n + k) (n2 + k) (d - k) := fun i hi => by
  have := h (k + i) (by omega)
  rwa [← Nat.add_assoc, ← Nat.add_assoc] at this
theorem hexAll_same {s t : ByteArray} {i j : Nat} : ∀ k, (∀ a, a < k → bAt t (j + a) = bAt s (i + a)) → hexAll t j k = hexAll s i k ∧ hexPre t j k = hexPre s i k
  | 0, _ => ⟨rfl, rfl⟩
  | k + 1, h => by
    have h1 := hexAll_same k (fun a ha => h a (by omega))
    have h2 := h k (by omega)
    unfold hexAll hexPre
    rw [h1.1, h1.2, h2]
    exact ⟨rfl, rfl⟩
theorem contN_same {s t : ByteArray} : ∀ (m i j : Nat), (∀ a, a < m → bAt t (j + a) = bAt s (i + a)) → contN t j m = contN s i m
  | 0, _, _, _ => rfl
  | m + 1, i, j, h => by
    unfold contN
    have h0 := h 0 (by omega)
    rw [Nat.add_zero, Nat.add_zero] at h0
    rw [h0, contN_same m (i + 1) (j + 1) (fun a ha => by have := h (a + 1) (by omega); rwa [show j + (a + 1) = j + 1 + a by omega, show i + (a + 1) = i + 1 + a by omega] at this)]
theorem uw_same_at {s t : ByteArray} {n n2 : Nat} (hu : uw s n ≠ 0) (h : Same s t n n2 (uw s n)) (hfit : n2 + uw s n ≤ t.size) : uw t n2 = uw s n := by
  have hf := uw_fit s n hu
  have h0 : bAt t n2 = bAt s n := by have := h 0 (by omega); simpa using this
  have hn : n < s.size := by omega
  have hn2 : n2 < t.size := by omega
  by_cases h128 : bAt s n < 128
  · rw [(uw_one s n hn).1 h128, (uw_one t n2 hn2).1 (by rw [h0]; exact h128)]
  · have hw : uw s n = uLen (bAt s n) ∧ uwOk s n (uLen (bAt s n)) (uLo (bAt s n)) (uHi (bAt s n)) = true ∧ uLen (bAt s n) ≠ 0 := by
      unfold uw at hu ⊢
      rw [if_pos hn, if_neg h128] at hu ⊢
      by_cases hz : uLen (bAt s n) = 0
      · rw [if_pos hz] at hu; exact absurd rfl hu
      · rw [if_neg hz] at hu ⊢
        by_cases ho : uwOk s n (uLen (bAt s n)) (uLo (bAt s n)) (uHi (bAt s n)) = true
        · rw [if_pos ho]; exact ⟨rfl, ho, hz⟩
        · rw [if_neg ho] at hu; exact absurd rfl hu
    obtain ⟨w1, w2, w3⟩ := hw
    rw [w1] at h hfit
    have hl2 : 2 ≤ uLen (bAt s n) := by have := uLen_cases (bAt s n); omega
    have ho2 : uwOk t n2 (uLen (bAt s n)) (uLo (bAt s n)) (uHi (bAt s n)) = true := by
      unfold uwOk at w2 ⊢
      have h1 := h 1 (by omega)
      have h2 := contN_same (s := s) (t := t) (uLen (bAt s n) - 2) (n + 2) (n2 + 2) (fun a ha => by have := h (2 + a) (by omega); rwa [← Nat.add_assoc, ← Nat.add_assoc] at this)
      rw [h1, h2]
      simp only [Bool.and_eq_true, decide_eq_true_eq] at w2 ⊢
      exact ⟨⟨⟨hfit, w2.1.1.2⟩, w2.1.2⟩, w2.2⟩
    unfold uw
    rw [if_pos hn2, h0, if_neg h128, if_neg w3, if_pos ho2]
    rw [if_pos hn, if_neg h128, if_neg w3, if_pos w2]
theorem uU_same {s t : ByteArray} {n n2 d : Nat} {o : List Int} (hu : uU s n = (o, d, false)) (h : Same s t n n2 d) (hfit : n2 + d ≤ t.size) : uU t n2 = (o, d, false) := by
  unfold uU at hu
  split at hu
  · cases hu
  · split at hu
    · cases hu
    · split at hu
      · rename_i h6 ha hsur
        obtain ⟨rfl, rfl⟩ : encU (hexPre s (n + 2) 4) = o ∧ 6 = d := by injection hu with a b; injection b with b c; exact ⟨a, b⟩
        have hh := hexAll_same (s := s) (t := t) (i := n + 2) (j := n2 + 2) 4 (fun a ha => by have := h (2 + a) (by omega); rwa [← Nat.add_assoc, ← Nat.add_assoc] at this)
        unfold uU
        rw [if_neg (by omega), hh.1, hh.2, if_neg ha, if_pos hsur]
      · split at hu
        · split at hu <;> cases hu
        · split at hu
          · rename_i h6 ha hsur h12 hc
            obtain ⟨rfl, rfl⟩ : encU (pairR (hexPre s (n + 2) 4) (hexPre s (n + 8) 4)) = o ∧ 12 = d := by injection hu with a b; injection b with b c; exact ⟨a, b⟩
            have hh := hexAll_same (s := s) (t := t) (i := n + 2) (j := n2 + 2) 4 (fun a ha => by have := h (2 + a) (by omega); rwa [← Nat.add_assoc, ← Nat.add_assoc] at this)
            have hk := hexAll_same (s := s) (t := t) (i := n + 8) (j := n2 + 8) 4 (fun a ha => by have := h (8 + a) (by omega); rwa [← Nat.add_assoc, ← Nat.add_assoc] at this)
            unfold uU
            rw [if_neg (by omega), hh.1, hh.2, if_neg ha, if_neg hsur, if_neg (by omega), h 6 (by omega), h 7 (by omega), hk.1, hk.2, if_pos hc]
          · cases hu
theorem uS_same {s t : ByteArray} {n n2 d : Nat} {o : List Int} (hu : uS s n = (o, d, false)) (hd : d ≠ 0) (h : Same s t n n2 d) (hfit : n2 + d ≤ t.size) : uS t n2 = (o, d, false) := by
  have h0 : bAt t n2 = bAt s n := by have := h 0 (by omega); simpa using this
  unfold uS at hu ⊢
  rw [h0]
  split at hu
  · rename_i h92
    rw [if_pos h92]
    split at hu
    · cases hu
    · split at hu
      · rename_i h2 he
        obtain ⟨rfl, rfl⟩ : [escC (bAt s (n + 1))] = o ∧ 2 = d := by injection hu with a b; injection b with b c; exact ⟨a, b⟩
        rw [if_neg (by omega), h 1 (by omega), if_pos he]
      · split at hu
        · rename_i h2 he h117
          have hd6 : 2 ≤ d := by
            unfold uU at hu
            repeat' split at hu
            all_goals first | (injection hu with a b; injection b with b c; omega) | cases hu
          rw [if_neg (by omega), h 1 (by omega), if_neg he, if_pos h117]
          exact uU_same hu h hfit
        · cases hu
  · rename_i h92
    rw [if_neg h92]
    split at hu
    · cases hu
    · rename_i h32
      rw [if_neg h32]
      split at hu
      · rename_i h128
        rw [if_pos h128]; exact hu
      · rename_i h128
        rw [if_neg h128]
        split at hu
        · split at hu
          · cases hu
          · cases hu
        · rename_i hz
          obtain ⟨rfl, rfl⟩ : sub s n (n + uw s n) = o ∧ uw s n = d := by injection hu with a b; injection b with b c; exact ⟨a, b⟩
          have hw := uw_same_at hz h hfit
          rw [if_neg (by rw [hw]; exact hz), hw]
          refine Prod.ext ?_ rfl
          show sub t n2 (n2 + uw s n) = sub s n (n + uw s n)
          unfold sub
          rw [Nat.add_sub_cancel_left, Nat.add_sub_cancel_left]
          apply List.map_congr_left
          intro a ha
          exact h a (by simpa using ha)
theorem Run.same {s t : ByteArray} {n m : Nat} {X : List Int} (h : Run s n m X) : ∀ n2, Same s t n n2 (m - n) → n2 + (m - n) ≤ t.size → Run t n2 (n2 + (m - n)) X := by
  induction h with
  | nil n => intro n2 _ _; rw [Nat.sub_self]; exact .nil _
  | @step n m d o X h34 hu hd hm r ih =>
    intro n2 hs hf
    have h0 : bAt t n2 = bAt s n := by have := hs 0 (by omega); simpa using this
    have h1 := uS_same hu hd (hs.mono (by omega)) (by omega)
    have h2 := ih (n2 + d) ((hs.drop d (by omega)).mono (by omega)) (by omega)
    refine .step (by rw [h0]; exact h34) h1 hd (by omega) ?_
    have e : n2 + d + (m - (n + d)) = n2 + (m - n) := by omega
    rw [e] at h2
    exact h2

/-- What a digit that is read tells. -/
theorem hex_ok {s : ByteArray} {σ σ' : St} {x y : Int} (h : St.hex s σ x y = (true, σ')) : x ≤ hexV (bAt s σ.at_) ∧ hexV (bAt s σ.at_) ≤ y ∧ σ' = { σ with at_ := σ.at_ + 1 } := by
  unfold St.hex at h
  split at h
  · cases h
  · rename_i hn
    injection h with _ h2
    exact ⟨by omega, by omega, h2.symm⟩
theorem then_ok {p : Bool × St} {f : St → Bool × St} {σ' : St} (h : St.andThen p f = (true, σ')) : ∃ τ, p = (true, τ) ∧ f τ = (true, σ') := by
  unfold St.andThen at h
  split at h
  · rename_i hp; exact ⟨p.2, Prod.ext hp rfl, h⟩
  · cases h
theorem need_ok {s : ByteArray} {σ σ' : St} {x y : Int} (h : St.need s σ x y = (true, σ')) : σ.at_ < s.size ∧ x ≤ bAt s σ.at_ ∧ bAt s σ.at_ ≤ y ∧ σ' = { σ with at_ := σ.at_ + 1 } := by
  unfold St.need at h
  split at h
  · rename_i hn
    injection h with _ h2
    exact ⟨hn.1, hn.2.1, hn.2.2, h2.symm⟩
  · cases h
theorem hexV_in {s : ByteArray} {i : Nat} (h : 0 ≤ hexV (bAt s i)) : i < s.size := by
  by_cases hl : i < s.size
  · exact hl
  · rw [bAt_ge hl] at h; exact absurd h (by decide)

/-- Two digits. -/
theorem hex2_ok {s : ByteArray} {σ σ' : St} (h : St.hex2 s σ = (true, σ')) : 0 ≤ hexV (bAt s σ.at_) ∧ 0 ≤ hexV (bAt s (σ.at_ + 1)) ∧ σ'.at_ = σ.at_ + 2 := by
  obtain ⟨τ, h1, h2⟩ := then_ok h
  obtain ⟨a1, _, rfl⟩ := hex_ok h1
  obtain ⟨b1, _, rfl⟩ := hex_ok h2
  exact ⟨a1, b1, rfl⟩
/-- Four digits of a strict reader: their number. -/
theorem unit_ok {s : ByteArray} {σ σ' : St} {low half : Bool} (h : St.unit s false low σ = (true, half, σ')) :
    σ.at_ + 4 ≤ s.size ∧ σ'.at_ = σ.at_ + 4 ∧ hexAll s σ.at_ 4 = true ∧
      (low = true → 56320 ≤ hexPre s σ.at_ 4 ∧ hexPre s σ.at_ 4 < 57344) ∧
      (low = false → (half = false → surB (hexPre s σ.at_ 4) = false) ∧ (half = true → 55296 ≤ hexPre s σ.at_ 4 ∧ hexPre s σ.at_ 4 < 56320)) := by
  unfold St.unit at h
  rw [if_neg (by simp)] at h
  dsimp only at h
  split at h
  case isFalse => cases h
  rename_i hp
  obtain ⟨τ1, h1⟩ : ∃ τ1, St.hex s σ (St.unitX low) (St.unitY low) = (true, τ1) := ⟨_, Prod.ext hp rfl⟩
  rw [h1] at h
  dsimp only at h
  obtain ⟨a1, a2, rfl⟩ := hex_ok h1
  injection h with h2 h3
  injection h3 with h3 h4
  rw [h2] at h3
  obtain ⟨τ2, g1, g2⟩ := then_ok (σ' := σ') (Prod.ext h2 h4 : St.andThen _ _ = (true, σ'))
  obtain ⟨b1, b2, rfl⟩ := hex_ok g1
  obtain ⟨c1, c2, c3⟩ := hex2_ok g2
  dsimp only at b1 b2 c1 c2 c3 h3
  have bx := hexV_bd (bAt s σ.at_)
  have by_ := hexV_bd (bAt s (σ.at_ + 1))
  have cx := hexV_bd (bAt s (σ.at_ + 1 + 1))
  have cy := hexV_bd (bAt s (σ.at_ + 1 + 1 + 1))
  have hx0 : 0 ≤ hexV (bAt s σ.at_) := by have := St.unitX_nonneg low; omega
  have hy0 : 0 ≤ hexV (bAt s (σ.at_ + 1)) := by have := St.unitLo_nonneg low; omega
  have hfit := hexV_in c2
  have hV : hexPre s σ.at_ 4 = 4096 * hexV (bAt s σ.at_) + 256 * hexV (bAt s (σ.at_ + 1)) + 16 * hexV (bAt s (σ.at_ + 1 + 1)) + hexV (bAt s (σ.at_ + 1 + 1 + 1)) := by
    simp only [hexPre, Nat.add_zero]
    rw [show σ.at_ + 2 = σ.at_ + 1 + 1 from rfl, show σ.at_ + 3 = σ.at_ + 1 + 1 + 1 from rfl]
    omega
  have hA : hexAll s σ.at_ 4 = true := by
    simp only [hexAll, Nat.add_zero, Bool.and_eq_true, decide_eq_true_eq, true_and]
    exact ⟨⟨⟨hx0, hy0⟩, c1⟩, c2⟩
  refine ⟨by omega, by omega, hA, fun hl => ?_, fun hl => ⟨fun hh => ?_, fun hh => ?_⟩⟩
  · subst hl
    simp only [St.unitX, St.unitY, St.unitLo, St.unitHi, if_true] at a1 a2 b1 b2
    rw [hV]; omega
  · subst hl
    rw [hh] at h3
    simp only [St.unitX, St.unitY, St.unitLo, St.unitHi, if_false, Bool.false_eq_true] at a1 a2 b1 b2
    unfold surB
    rw [hV]
    by_cases e : hexV (bAt s σ.at_) = 13
    · rw [if_pos e] at b2
      simp [e] at h3
      simp; omega
    · simp; omega
  · subst hl
    rw [hh] at h3
    simp only [St.unitX, St.unitY, St.unitLo, St.unitHi, if_false, Bool.false_eq_true] at a1 a2 b1 b2
    simp at h3
    rw [if_pos h3.1] at b2
    rw [hV]; omega
/-- An escape that a strict reader takes. -/
theorem escape_run {s : ByteArray} {n : Nat} {σ' : St} {f : Int} {p : Bool} (h92 : bAt s n = 92) (h : St.escape s false ⟨n + 1, f, p⟩ = (true, σ')) : ∃ o d, uS s n = (o, d, false) ∧ d ≠ 0 ∧ σ'.at_ = n + d ∧ n + d ≤ s.size := by
  unfold St.escape at h
  dsimp only at h
  split at h
  · rename_i he
    injection h with _ h2
    subst h2
    have hlt : n + 1 < s.size := by
      by_cases hl : n + 1 < s.size
      · exact hl
      · rw [bAt_ge hl] at he; omega
    refine ⟨[escC (bAt s (n + 1))], 2, ?_, by omega, rfl, by omega⟩
    unfold uS
    rw [if_pos h92, if_neg (by omega), if_pos]
    unfold escC
    repeat' split
    all_goals omega
  · rename_i he
    split at h
    · rename_i h117
      have hne : ¬ 0 ≤ escC (bAt s (n + 1)) := by rw [h117]; decide
      have hlt : n + 1 < s.size := by
        by_cases hl : n + 1 < s.size
        · exact hl
        · rw [bAt_ge hl] at h117; omega
      have hu0 : uS s n = uU s n := by unfold uS; rw [if_pos h92, if_neg (by omega), if_neg hne, if_pos h117]
      obtain ⟨r1, half, τ1, h1⟩ : ∃ r half τ, St.unit s false false ⟨n + 1 + 1, f, p⟩ = (r, half, τ) := ⟨_, _, _, rfl⟩
      rw [h1] at h
      dsimp only at h
      cases r1
      · simp at h
      · obtain ⟨u1, u2, u3, _, u5⟩ := unit_ok h1
        dsimp only at u1 u2 u3 u5
        obtain ⟨u5, u6⟩ := u5 rfl
        cases half
        · simp at h
          subst h
          have u5' : surB (hexPre s (n + 2) 4) = false := u5 rfl
          have u3' : hexAll s (n + 2) 4 = true := u3
          refine ⟨encU (hexPre s (n + 2) 4), 6, ?_, by omega, by omega, by omega⟩
          rw [hu0]; unfold uU
          rw [if_neg (by omega), u3', if_neg (by simp), if_pos u5']
        · simp only [Bool.and_self, if_true] at h
          obtain ⟨τ2, g1, h⟩ := then_ok h
          obtain ⟨a1, a2, a3, rfl⟩ := need_ok g1
          obtain ⟨τ3, g2, h⟩ := then_ok h
          obtain ⟨b1, b2, b3, rfl⟩ := need_ok g2
          dsimp only at a1 a2 a3 b1 b2 b3 h
          obtain ⟨r4, hf4, τ4, g4⟩ : ∃ r half τ, St.unit s false true { at_ := τ1.at_ + 1 + 1, fault := τ1.fault, opn := τ1.opn } = (r, half, τ) := ⟨_, _, _, rfl⟩
          rw [g4] at h
          injection h with h5 h6
          dsimp only at h5 h6
          subst h5 h6
          obtain ⟨v1, v2, v3, v4, _⟩ := unit_ok g4
          dsimp only at v1 v2 v3 v4
          have v4 := v4 rfl
          have u6 : 55296 ≤ hexPre s (n + 2) 4 ∧ hexPre s (n + 2) 4 < 56320 := u6 rfl
          rw [u2] at a1 a2 a3 b1 b2 b3 v1 v2 v3 v4
          rw [show n + 1 + 1 + 4 = n + 6 from rfl] at a1 a2 a3 b1 b2 b3 v1 v2 v3 v4
          rw [show n + 6 + 1 = n + 7 from rfl] at b1 b2 b3 v1 v2 v3 v4
          rw [show n + 7 + 1 = n + 8 from rfl] at v1 v2 v3 v4
          have hpair : pairR (hexPre s (n + 2) 4) (hexPre s (n + 8) 4) ≠ 65533 := by
            unfold pairR; rw [if_pos ⟨u6.1, u6.2, v4.1, v4.2⟩]; have := u6.1; have := v4.1; omega
          refine ⟨encU (pairR (hexPre s (n + 2) 4) (hexPre s (n + 8) 4)), 12, ?_, by omega, by omega, by omega⟩
          rw [hu0]; unfold uU
          rw [if_neg (by omega), show hexAll s (n + 2) 4 = true from u3, if_neg (by simp), if_neg, if_neg (by omega), if_pos ⟨by omega, by omega, v3, hpair⟩]
          unfold surB
          simp; omega
    · cases h
/-- One step of a strict reader. -/
theorem inner_run {s : ByteArray} {σ σ' : St} (hl : σ.at_ < s.size) (h : St.inner s false σ = (true, σ')) : ∃ o d, uS s σ.at_ = (o, d, false) ∧ d ≠ 0 ∧ σ'.at_ = σ.at_ + d ∧ σ.at_ + d ≤ s.size := by
  obtain ⟨n, f, p⟩ := σ
  dsimp only at hl ⊢
  unfold St.inner at h
  dsimp only at h
  split at h
  · rename_i h92
    exact escape_run h92 h
  · rename_i h92
    split at h
    · cases h
    · rename_i h32
      split at h
      · rename_i h128
        injection h with _ h2
        subst h2
        refine ⟨[bAt s n], 1, ?_, by omega, rfl, by omega⟩
        unfold uS
        rw [if_neg h92, if_neg h32, if_pos (by rcases h128 with h | h; exact h; cases h)]
      · rename_i h128
        have h128' : ¬ bAt s n < 128 := fun hh => h128 (.inl hh)
        have R := rune_uw s ⟨n, f, p⟩ hl (by dsimp only; omega)
        dsimp only at R
        by_cases hu : uw s n = 0
        · have := R.2 hu; rw [h] at this; cases this
        · rw [R.1 hu] at h
          injection h with _ h2
          subst h2
          refine ⟨sub s n (n + uw s n), uw s n, ?_, hu, rfl, uw_fit s n hu⟩
          unfold uS
          rw [if_neg h92, if_neg h32, if_neg h128', if_neg hu]
/-- What a strict reader takes up to a quotation mark is a run. -/
theorem loop_run {s : ByteArray} : ∀ (g : Nat) (σ σ' : St), σ.at_ ≤ s.size → St.strLoop s false g σ = (true, σ') → ∃ X, Run s σ.at_ σ'.at_ X ∧ bAt s σ'.at_ = 34 ∧ σ'.at_ < s.size
  | 0, σ, σ', _, h => by cases h
  | g + 1, σ, σ', hs, h => by
    unfold St.strLoop at h
    split at h
    · rename_i hl
      split at h
      · rename_i h34
        injection h with _ h2
        subst h2
        exact ⟨[], .nil _, h34, hl⟩
      · rename_i h34
        obtain ⟨τ, h1, h2⟩ := then_ok h
        obtain ⟨o, d, e1, e2, e3, e4⟩ := inner_run hl h1
        obtain ⟨X, r1, r2, r3⟩ := loop_run g τ σ' (by omega) h2
        rw [e3] at r1
        exact ⟨o ++ X, .step h34 e1 e2 r1.le r1, r2, r3⟩
    · cases h
end Go.Proofs.YtokhmhbjbclcoaaDoor
