/- Strings of a strict reader, step by step: what they stand for, wherever they stand. No program in sight but Decode. Lines of XUd. -/
import Derived.Test.YtjbffgjclnjkoaaGreatDoorDw
import Derived.Test.YtjbffgjclnjkoaaGreatDoorHe
namespace Go.Proofs.YtjbffgjclnjkoaaGreatDoor
set_option linter.unusedVariables false
set_option linter.unusedSimpArgs false
open Go.RowKit

theorem uw_1 (s : ByteArray) (k : Nat) (h : k < s.size) (h128 : bAt s k < 128) : uw s k = 1 := by unfold uw; rw [if_pos h, if_pos h128]
/-- What stands on some bytes of a text stands where the same bytes stand in another one. -/
def Same (s t : ByteArray) (n n2 d : Nat) : Prop := ∀ i, i < d → bAt t (n2 + i) = bAt s (n + i)
theorem Same.mono {s t : ByteArray} {n n2 d e : Nat} (h : Same s t n n2 d) (he : e ≤ d) : Same s t n n2 e := fun i hi => h i (by omega)
theorem Same.drop {s t : ByteArray} {n n2 d : Nat} (h : Same s t n n2 d) (k : Nat) (hk : k ≤ d) : Same s t (n + k) (n2 + k) (d - k) := fun i hi => by
  have := h (k + i) (by omega)
  rwa [← Nat.add_assoc, ← Nat.add_assoc] at this
theorem hexAll_same {s t : ByteArray} {i j : Nat} : ∀ k, (∀ a, a < k → bAt t (j + a) = bAt s (i + a)) → hexAll t j k = hexAll s i k ∧ hexPre t j k = hexPre s i k
  | 0, _ => ⟨rfl, rfl⟩
  | k + 1, h => by
    have h1 := hexAll_same k (fun a ha => h a (by omega))
    have h2 := h k (by omega)
    unfold hexAll hexPre
    rw [h1.1, h1.2, h2]
    exact ⟨rfl, rfl⟩
theorem contN_same {s t : ByteArray} : ∀ (m i j : Nat), (∀ a, a < m → bAt t (j + a) = bAt s (i + a)) → contN t j m = contN s i m
  | 0, _, _, _ => rfl
  | m + 1, i, j, h => by
    unfold contN
    have h0 := h 0 (by omega)
    rw [Nat.add_zero, Nat.add_zero] at h0
    rw [h0, contN_same m (i + 1) (j + 1) (fun a ha => by have := h (a + 1) (by omega); rwa [show j + (a + 1) = j + 1 + a by omega, show i + (a + 1) = i + 1 + a by omega] at this)]
theorem uw_same_at {s t : ByteArray} {n n2 : Nat} (hu : uw s n ≠ 0) (h : Same s t n n2 (uw s n)) (hfit : n2 + uw s n ≤ t.size) : uw t n2 = uw s n := by
  have hf := uw_fit s n hu
  have h0 : bAt t n2 = bAt s n := by have := h 0 (by omega); simpa using this
  have hn : n < s.size := by omega
  have hn2 : n2 < t.size := by omega
  by_cases h128 : bAt s n < 128
  · rw [uw_1 s n hn h128, uw_1 t n2 hn2 (by rw [h0]; exact h128)]
  · have hw : uw s n = uLen (bAt s n) ∧ uwOk s n (uLen (bAt s n)) (uLo (bAt s n)) (uHi (bAt s n)) = true ∧ uLen (bAt s n) ≠ 0 := by
      unfold uw at hu ⊢
      rw [if_pos hn, if_neg h128] at hu ⊢
      by_cases hz : uLen (bAt s n) = 0
      · rw [if_pos hz] at hu; exact absurd rfl hu
      · rw [if_neg hz] at hu ⊢
        by_cases ho : uwOk s n (uLen (bAt s n)) (uLo (bAt s n)) (uHi (bAt s n)) = true
        · rw [if_pos ho]; exact ⟨rfl, ho, hz⟩
        · rw [if_neg ho] at hu; exact absurd rfl hu
    obtain ⟨w1, w2, w3⟩ := hw
    rw [w1] at h hfit
    have hl2 : 2 ≤ uLen (bAt s n) := by have := uLen_cases (bAt s n); omega
    have ho2 : uwOk t n2 (uLen (bAt s n)) (uLo (bAt s n)) (uHi (bAt s n)) = true := by
      unfold uwOk at w2 ⊢
      have h1 := h 1 (by omega)
      have h2 := contN_same (s := s) (t := t) (uLen (bAt s n) - 2) (n + 2) (n2 + 2) (fun a ha => by have := h (2 + a) (by omega); rwa [← Nat.add_assoc, ← Nat.add_assoc] at this)
      rw [h1, h2]
      simp only [Bool.and_eq_true, decide_eq_true_eq] at w2 ⊢
      exact ⟨⟨⟨hfit, w2.1.1.2⟩, w2.1.2⟩, w2.2⟩
    unfold uw
    rw [if_pos hn2, h0, if_neg h128, if_neg w3, if_pos ho2]
    rw [if_pos hn, if_neg h128, if_neg w3, if_pos w2]
/-- The letters behind a backslash, but u. -/
def EscB (c : Int) : Prop := c = 34 ∨ c = 92 ∨ c = 47 ∨ c = 98 ∨ c = 102 ∨ c = 110 ∨ c = 114 ∨ c = 116
/-- One step of a strict reader inside a string: its bytes, and those for which they stand. -/
inductive SStp (s : ByteArray) (n : Nat) : Nat → List Int → Prop
  | asc : n + 1 ≤ s.size → 32 ≤ bAt s n → bAt s n < 128 → bAt s n ≠ 92 → bAt s n ≠ 34 → SStp s n 1 [bAt s n]
  | esc : n + 2 ≤ s.size → bAt s n = 92 → EscB (bAt s (n + 1)) → SStp s n 2 [escC (bAt s (n + 1))]
  | uni : n + 6 ≤ s.size → bAt s n = 92 → bAt s (n + 1) = 117 → hexAll s (n + 2) 4 = true → surB (hexPre s (n + 2) 4) = false → SStp s n 6 (encU (hexPre s (n + 2) 4))
  | pair : n + 12 ≤ s.size → bAt s n = 92 → bAt s (n + 1) = 117 → hexAll s (n + 2) 4 = true → bAt s (n + 6) = 92 → bAt s (n + 7) = 117 → hexAll s (n + 8) 4 = true →
      55296 ≤ hexPre s (n + 2) 4 → hexPre s (n + 2) 4 < 56320 → 56320 ≤ hexPre s (n + 8) 4 → hexPre s (n + 8) 4 < 57344 → SStp s n 12 (encU (pairR (hexPre s (n + 2) 4) (hexPre s (n + 8) 4)))
  | run : 128 ≤ bAt s n → uw s n ≠ 0 → SStp s n (uw s n) (sub s n (n + uw s n))
theorem SStp.ne34 {s : ByteArray} {n d : Nat} {o : List Int} (h : SStp s n d o) : bAt s n ≠ 34 := by
  cases h with
  | asc _ _ _ _ h => exact h
  | esc _ h _ => omega
  | uni _ h _ _ _ => omega
  | pair _ h _ _ _ _ _ _ _ _ _ => omega
  | run h _ => omega
theorem SStp.fit {s : ByteArray} {n d : Nat} {o : List Int} (h : SStp s n d o) : d ≠ 0 ∧ n + d ≤ s.size := by
  cases h with
  | asc h _ _ _ _ => exact ⟨by decide, h⟩
  | esc h _ _ => exact ⟨by decide, h⟩
  | uni h _ _ _ _ => exact ⟨by decide, h⟩
  | pair h _ _ _ _ _ _ _ _ _ _ => exact ⟨by decide, h⟩
  | run _ h => exact ⟨h, uw_fit s n h⟩
theorem SStp.dS {s : ByteArray} {n d : Nat} {o : List Int} (h : SStp s n d o) : dS s n = (o, d, true) := by
  unfold YtjbffgjclnjkoaaGreatDoor.dS
  cases h with
  | asc h h1 h2 h3 h4 =>
    have hu : uw s n = 1 := by unfold uw; rw [if_pos (by omega), if_pos h2]
    rw [if_neg h3, hu, if_neg (by decide), sub_one]
  | esc h h1 h2 =>
    rw [if_pos h1]
    unfold escD
    rw [if_neg (by unfold EscB at h2; omega)]
  | uni h h1 h2 h3 h4 =>
    have hU : unitD s n = (hexPre s (n + 2) 4, true) := by unfold unitD; rw [if_neg (by omega), if_neg (by omega), if_neg (by omega), if_neg (by rw [h3]; decide)]
    rw [if_pos h1]
    unfold escD
    rw [if_pos h2, hU, if_pos h4]
  | pair h h1 h2 h3 h4 h5 h6 a1 a2 b1 b2 =>
    have hU : unitD s n = (hexPre s (n + 2) 4, true) := by unfold unitD; rw [if_neg (by omega), if_neg (by omega), if_neg (by omega), if_neg (by rw [h3]; decide)]
    have hV : unitD s (n + 6) = (hexPre s (n + 8) 4, true) := by unfold unitD; rw [if_neg (by omega), if_neg (by omega), if_neg (by rw [show n + 6 + 1 = n + 7 from rfl]; omega), if_neg (by rw [show n + 6 + 2 = n + 8 from rfl, h6]; decide)]
    rw [if_pos h1]
    unfold escD
    rw [if_pos h2, hU, hV, if_neg (by unfold surB; simp; omega), if_pos ⟨a2, rfl, b1, by omega⟩]
  | run h1 h2 => rw [if_neg (by omega), if_neg h2]
theorem hexPre_same {s t : ByteArray} {i j : Nat} (h : Same s t i j 4) : hexAll t j 4 = hexAll s i 4 ∧ hexPre t j 4 = hexPre s i 4 := hexAll_same 4 h
theorem SStp.same {s t : ByteArray} {n d n2 : Nat} {o : List Int} (h : SStp s n d o) (hs : Same s t n n2 d) (hf : n2 + d ≤ t.size) : SStp t n2 d o := by
  have h0 : 0 < d → bAt t n2 = bAt s n := fun hd => by have := hs 0 hd; simpa using this
  cases h with
  | asc h h1 h2 h3 h4 =>
    have e := h0 (by decide)
    rw [← e] at h1 h2 h3 h4 ⊢
    exact .asc hf h1 h2 h3 h4
  | esc h h1 h2 =>
    have e := h0 (by decide)
    have e1 := hs 1 (by decide)
    rw [← e] at h1
    rw [← e1] at h2 ⊢
    exact .esc hf h1 h2
  | uni h h1 h2 h3 h4 =>
    have e := h0 (by decide)
    have e1 := hs 1 (by decide)
    obtain ⟨x1, x2⟩ := hexPre_same (hs.drop 2 (by decide) |>.mono (by decide))
    rw [← e] at h1
    rw [← e1] at h2
    rw [← x1] at h3
    rw [← x2] at h4 ⊢
    exact .uni hf h1 h2 h3 h4
  | pair h h1 h2 h3 h4 h5 h6 a1 a2 b1 b2 =>
    have e := h0 (by decide)
    have e1 := hs 1 (by decide)
    have e6 := hs 6 (by decide)
    have e7 := hs 7 (by decide)
    obtain ⟨x1, x2⟩ := hexPre_same (hs.drop 2 (by decide) |>.mono (by decide))
    obtain ⟨y1, y2⟩ := hexPre_same (hs.drop 8 (by decide) |>.mono (by decide))
    rw [← e] at h1
    rw [← e1] at h2
    rw [← x1] at h3
    rw [← e6] at h4
    rw [← e7] at h5
    rw [← y1] at h6
    rw [← x2] at a1 a2 ⊢
    rw [← y2] at b1 b2 ⊢
    exact .pair hf h1 h2 h3 h4 h5 h6 a1 a2 b1 b2
  | run h1 h2 =>
    have e := h0 (by omega)
    have hw := uw_same_at h2 hs hf
    have ho : sub s n (n + uw s n) = sub t n2 (n2 + uw t n2) := by
      rw [hw]
      unfold sub
      rw [Nat.add_sub_cancel_left, Nat.add_sub_cancel_left]
      apply List.map_congr_left
      intro i hi
      exact (hs i (List.mem_range.1 hi)).symm
    rw [ho, ← hw]
    exact .run (by rw [e]; exact h1) (by rw [hw]; exact h2)
theorem hex2_full {s : ByteArray} {σ σ' : St} (h : St.hex2 s σ = (true, σ')) : 0 ≤ hexV (bAt s σ.at_) ∧ 0 ≤ hexV (bAt s (σ.at_ + 1)) ∧ σ' = { σ with at_ := σ.at_ + 2 } := by
  obtain ⟨τ, h1, h2⟩ := then_ok h
  obtain ⟨a1, _, rfl⟩ := hex_ok h1
  obtain ⟨b1, _, rfl⟩ := hex_ok h2
  exact ⟨a1, b1, rfl⟩
theorem hexPre4 (s : ByteArray) (i : Nat) : hexPre s i 4 = 4096 * hexV (bAt s i) + 256 * hexV (bAt s (i + 1)) + 16 * hexV (bAt s (i + 2)) + hexV (bAt s (i + 3)) := by
  simp only [hexPre, Nat.add_zero]
  omega
theorem hexAll4 (s : ByteArray) (i : Nat) : hexAll s i 4 = true ↔ 0 ≤ hexV (bAt s i) ∧ 0 ≤ hexV (bAt s (i + 1)) ∧ 0 ≤ hexV (bAt s (i + 2)) ∧ 0 ≤ hexV (bAt s (i + 3)) := by
  simp only [hexAll, Nat.add_zero, Bool.and_eq_true, decide_eq_true_eq, true_and, and_assoc]
/-- Four digits of a strict reader: their number. -/
theorem unit_full {s : ByteArray} {σ σ' : St} {low half : Bool} (h : St.unit s false low σ = (true, half, σ')) :
    σ.at_ + 4 ≤ s.size ∧ σ' = { σ with at_ := σ.at_ + 4 } ∧ hexAll s σ.at_ 4 = true ∧
      (low = true → 56320 ≤ hexPre s σ.at_ 4 ∧ hexPre s σ.at_ 4 < 57344) ∧
      (low = false → (half = false → surB (hexPre s σ.at_ 4) = false) ∧ (half = true → 55296 ≤ hexPre s σ.at_ 4 ∧ hexPre s σ.at_ 4 < 56320)) := by
  unfold St.unit at h
  rw [if_neg (by simp)] at h
  dsimp only at h
  split at h
  case isFalse => cases h
  rename_i hp
  obtain ⟨τ1, h1⟩ : ∃ τ1, St.hex s σ (St.unitX low) (St.unitY low) = (true, τ1) := ⟨_, Prod.ext hp rfl⟩
  rw [h1] at h
  dsimp only at h
  obtain ⟨a1, a2, rfl⟩ := hex_ok h1
  injection h with h2 h3
  injection h3 with h3 h4
  rw [h2] at h3
  obtain ⟨τ2, g1, g2⟩ := then_ok (σ' := σ') (Prod.ext h2 h4 : St.andThen _ _ = (true, σ'))
  obtain ⟨b1, b2, rfl⟩ := hex_ok g1
  obtain ⟨c1, c2, rfl⟩ := hex2_full g2
  dsimp only at b1 b2 c1 c2 h3
  have bx := hexV_bd (bAt s σ.at_)
  have by_ := hexV_bd (bAt s (σ.at_ + 1))
  have cx := hexV_bd (bAt s (σ.at_ + 1 + 1))
  have cy := hexV_bd (bAt s (σ.at_ + 1 + 1 + 1))
  have hx0 : 0 ≤ hexV (bAt s σ.at_) := by have := St.unitX_nonneg low; omega
  have hy0 : 0 ≤ hexV (bAt s (σ.at_ + 1)) := by have := St.unitLo_nonneg low; omega
  have hfit := hexV_in c2
  have hV := hexPre4 s σ.at_
  have hA : hexAll s σ.at_ 4 = true := (hexAll4 s σ.at_).2 ⟨hx0, hy0, c1, c2⟩
  rw [show σ.at_ + 2 = σ.at_ + 1 + 1 from rfl, show σ.at_ + 3 = σ.at_ + 1 + 1 + 1 from rfl] at hV
  refine ⟨by omega, rfl, hA, fun hl => ?_, fun hl => ⟨fun hh => ?_, fun hh => ?_⟩⟩
  · subst hl
    simp only [St.unitX, St.unitY, St.unitLo, St.unitHi, if_true] at a1 a2 b1 b2
    rw [hV]; omega
  · subst hl
    rw [hh] at h3
    simp only [St.unitX, St.unitY, St.unitLo, St.unitHi, if_false, Bool.false_eq_true] at a1 a2 b1 b2
    unfold surB
    rw [hV]
    by_cases e : hexV (bAt s σ.at_) = 13
    · rw [if_pos e] at b2
      simp [e] at h3
      simp; omega
    · simp; omega
  · subst hl
    rw [hh] at h3
    simp only [St.unitX, St.unitY, St.unitLo, St.unitHi, if_false, Bool.false_eq_true] at a1 a2 b1 b2
    simp at h3
    rw [if_pos h3.1] at b2
    rw [hV]; omega
theorem hex_mk {s : ByteArray} {σ : St} {x y : Int} (h1 : x ≤ hexV (bAt s σ.at_)) (h2 : hexV (bAt s σ.at_) ≤ y) : St.hex s σ x y = (true, { σ with at_ := σ.at_ + 1 }) := by
  unfold St.hex; rw [if_neg (by omega)]
theorem then_mk {p : Bool × St} {f : St → Bool × St} {τ : St} (h : p = (true, τ)) : St.andThen p f = f τ := by subst h; rfl
theorem hex2_mk {s : ByteArray} {σ : St} (h1 : 0 ≤ hexV (bAt s σ.at_)) (h2 : 0 ≤ hexV (bAt s (σ.at_ + 1))) : St.hex2 s σ = (true, { σ with at_ := σ.at_ + 2 }) := by
  unfold St.hex2
  rw [then_mk (hex_mk h1 (hexV_bd _).2), hex_mk (by exact h2) (hexV_bd _).2]
theorem hex4_mk {s : ByteArray} {σ : St} (h : hexAll s σ.at_ 4 = true) : St.hex4 s σ = (true, { σ with at_ := σ.at_ + 4 }) := by
  obtain ⟨a, b, c, d⟩ := (hexAll4 s σ.at_).1 h
  unfold St.hex4
  rw [then_mk (hex_mk a (hexV_bd _).2)]
  unfold St.hex3
  rw [then_mk (hex_mk (by exact b) (hexV_bd _).2), hex2_mk (by exact c) (by exact d)]
theorem unit_mk {s : ByteArray} {σ : St} (low half : Bool) (h : hexAll s σ.at_ 4 = true)
    (h1 : low = true → half = false ∧ 56320 ≤ hexPre s σ.at_ 4 ∧ hexPre s σ.at_ 4 < 57344)
    (h2 : low = false → half = false → surB (hexPre s σ.at_ 4) = false)
    (h3 : low = false → half = true → 55296 ≤ hexPre s σ.at_ 4 ∧ hexPre s σ.at_ 4 < 56320) : St.unit s false low σ = (true, half, { σ with at_ := σ.at_ + 4 }) := by
  obtain ⟨a, b, c, d⟩ := (hexAll4 s σ.at_).1 h
  have hV := hexPre4 s σ.at_
  rw [hV] at h1 h2 h3
  have ba := hexV_bd (bAt s σ.at_)
  have bb := hexV_bd (bAt s (σ.at_ + 1))
  have bc := hexV_bd (bAt s (σ.at_ + 2))
  have bd := hexV_bd (bAt s (σ.at_ + 3))
  have key : St.unitX low ≤ hexV (bAt s σ.at_) ∧ hexV (bAt s σ.at_) ≤ St.unitY low ∧ St.unitLo low ≤ hexV (bAt s (σ.at_ + 1)) ∧ hexV (bAt s (σ.at_ + 1)) ≤ St.unitHi low (hexV (bAt s σ.at_)) ∧
      (!low && decide (hexV (bAt s σ.at_) = 13) && decide (8 ≤ hexV (bAt s (σ.at_ + 1)))) = half := by
    cases low
    · cases half
      · have h2 := h2 rfl rfl
        unfold surB at h2
        simp only [St.unitX, St.unitY, St.unitLo, St.unitHi, Bool.false_eq_true, if_false]
        simp at h2 ⊢
        refine ⟨by omega, by omega, by omega, ?_, by omega⟩
        split <;> omega
      · have h3 := h3 rfl rfl
        simp only [St.unitX, St.unitY, St.unitLo, St.unitHi, Bool.false_eq_true, if_false]
        simp
        refine ⟨by omega, by omega, by omega, ?_, by omega⟩
        split <;> omega
    · obtain ⟨rfl, h1⟩ := h1 rfl
      simp only [St.unitX, St.unitY, St.unitLo, St.unitHi, if_true]
      simp
      omega
  unfold St.unit
  rw [if_neg (by simp)]
  dsimp only
  rw [hex_mk key.1 key.2.1]
  dsimp only
  rw [if_pos rfl, then_mk (hex_mk (by exact key.2.2.1) (by exact key.2.2.2.1)), hex2_mk (by exact c) (by exact d)]
  dsimp only
  rw [Bool.true_and, key.2.2.2.2]
theorem need_mk {s : ByteArray} {σ : St} {x y : Int} (h : σ.at_ < s.size) (h1 : x ≤ bAt s σ.at_) (h2 : bAt s σ.at_ ≤ y) : St.need s σ x y = (true, { σ with at_ := σ.at_ + 1 }) := by
  unfold St.need; rw [if_pos ⟨h, h1, h2⟩]
/-- An escape that a strict reader takes. -/
theorem escape_stp {s : ByteArray} {n : Nat} {σ' : St} {f : Int} {p : Bool} (h92 : bAt s n = 92) (h : St.escape s false ⟨n + 1, f, p⟩ = (true, σ')) : ∃ d o, SStp s n d o ∧ σ' = ⟨n + d, f, p⟩ := by
  unfold St.escape at h
  dsimp only at h
  split at h
  · rename_i he
    injection h with _ h2
    subst h2
    have hlt : n + 1 < s.size := by
      by_cases hl : n + 1 < s.size
      · exact hl
      · rw [bAt_ge hl] at he; omega
    exact ⟨2, _, .esc (by omega) h92 he, rfl⟩
  · rename_i he
    split at h
    · rename_i h117
      have hlt : n + 1 < s.size := by
        by_cases hl : n + 1 < s.size
        · exact hl
        · rw [bAt_ge hl] at h117; omega
      obtain ⟨r1, half, τ1, h1⟩ : ∃ r half τ, St.unit s false false ⟨n + 1 + 1, f, p⟩ = (r, half, τ) := ⟨_, _, _, rfl⟩
      rw [h1] at h
      dsimp only at h
      cases r1
      · simp at h
      · obtain ⟨u1, rfl, u3, _, u5⟩ := unit_full h1
        dsimp only at u1 u3 u5
        obtain ⟨u5, u6⟩ := u5 rfl
        cases half
        · simp at h
          subst h
          exact ⟨6, _, .uni (by omega) h92 h117 u3 (u5 rfl), rfl⟩
        · simp only [Bool.and_self, if_true] at h
          obtain ⟨τ2, g1, h⟩ := then_ok h
          obtain ⟨a1, a2, a3, rfl⟩ := need_ok g1
          obtain ⟨τ3, g2, h⟩ := then_ok h
          obtain ⟨b1, b2, b3, rfl⟩ := need_ok g2
          dsimp only at a1 a2 a3 b1 b2 b3 h
          obtain ⟨r4, hf4, τ4, g4⟩ : ∃ r half τ, St.unit s false true { at_ := n + 1 + 1 + 4 + 1 + 1, fault := f, opn := p } = (r, half, τ) := ⟨_, _, _, rfl⟩
          rw [g4] at h
          injection h with h5 h6
          dsimp only at h5 h6
          subst h5 h6
          obtain ⟨v1, rfl, v3, v4, _⟩ := unit_full g4
          dsimp only at v1 v3 v4
          have v4 := v4 rfl
          have u6 := u6 rfl
          exact ⟨12, _, .pair (by omega) h92 h117 u3 (by rw [show n + 6 = n + 1 + 1 + 4 from rfl]; omega) (by rw [show n + 7 = n + 1 + 1 + 4 + 1 from rfl]; omega) v3 u6.1 u6.2 v4.1 v4.2, rfl⟩
    · cases h
/-- One step of a strict reader. -/
theorem inner_stp {s : ByteArray} {σ σ' : St} (hl : σ.at_ < s.size) (h34 : bAt s σ.at_ ≠ 34) (h : St.inner s false σ = (true, σ')) : ∃ d o, SStp s σ.at_ d o ∧ σ' = { σ with at_ := σ.at_ + d } := by
  obtain ⟨n, f, p⟩ := σ
  dsimp only at hl h34 ⊢
  unfold St.inner at h
  dsimp only at h
  split at h
  · rename_i h92
    exact escape_stp h92 h
  · rename_i h92
    split at h
    · cases h
    · rename_i h32
      split at h
      · rename_i h128
        injection h with _ h2
        subst h2
        exact ⟨1, _, .asc hl (by omega) (by rcases h128 with h | h; exact h; cases h) h92 h34, rfl⟩
      · rename_i h128
        have h128' : ¬ bAt s n < 128 := fun hh => h128 (.inl hh)
        have R := rune_uw s ⟨n, f, p⟩ hl (by dsimp only; omega)
        dsimp only at R
        by_cases hu : uw s n = 0
        · have := R.2 hu; rw [h] at this; cases this
        · rw [R.1 hu] at h
          injection h with _ h2
          subst h2
          exact ⟨uw s n, _, .run (by omega) hu, rfl⟩
/-- The reader takes such a step. -/
theorem SStp.inner {s : ByteArray} {n d : Nat} {o : List Int} (h : SStp s n d o) (f : Int) (p : Bool) : St.inner s false ⟨n, f, p⟩ = (true, ⟨n + d, f, p⟩) := by
  unfold St.inner
  dsimp only
  cases h with
  | asc h h1 h2 h3 h4 => rw [if_neg h3, if_neg (by omega), if_pos (.inl h2)]
  | esc h h1 h2 =>
    unfold EscB at h2
    rw [if_pos h1]
    unfold St.escape
    dsimp only
    rw [if_pos h2]
  | uni h h1 h2 h3 h4 =>
    rw [if_pos h1]
    unfold St.escape
    dsimp only
    rw [if_neg (by omega), if_pos h2, unit_mk (σ := ⟨n + 1 + 1, f, p⟩) false false h3 (fun e => by cases e) (fun _ _ => h4) (fun _ e => by cases e)]
    rfl
  | pair h h1 h2 h3 h4 h5 h6 a1 a2 b1 b2 =>
    rw [if_pos h1]
    unfold St.escape
    dsimp only
    rw [if_neg (by omega), if_pos h2, unit_mk (σ := ⟨n + 1 + 1, f, p⟩) false true h3 (fun e => by cases e) (fun _ e => by cases e) (fun _ _ => ⟨a1, a2⟩)]
    dsimp only
    rw [Bool.and_self, if_pos rfl]
    have m6 : n + 1 + 1 + 4 = n + 6 := rfl
    rw [then_mk (need_mk (σ := ⟨n + 1 + 1 + 4, f, p⟩) (x := 92) (y := 92) (by dsimp only; omega) (by dsimp only; rw [m6]; omega) (by dsimp only; rw [m6]; omega))]
    dsimp only
    rw [then_mk (need_mk (σ := ⟨n + 1 + 1 + 4 + 1, f, p⟩) (x := 117) (y := 117) (by dsimp only; omega) (by dsimp only; rw [m6, show n + 6 + 1 = n + 7 from rfl]; omega) (by dsimp only; rw [m6, show n + 6 + 1 = n + 7 from rfl]; omega))]
    dsimp only
    rw [unit_mk (σ := ⟨n + 1 + 1 + 4 + 1 + 1, f, p⟩) true false h6 (fun _ => ⟨rfl, b1, b2⟩) (fun e => by cases e) (fun e => by cases e)]
  | run h1 h2 =>
    have hl : n < s.size := by have := uw_fit s n h2; omega
    rw [if_neg (by omega), if_neg (by omega), if_neg (by simp; omega)]
    exact (rune_uw s ⟨n, f, p⟩ hl h1).1 h2
/-- From n to m by such steps; what they stand for. -/
inductive Dc (s : ByteArray) : Nat → Nat → List Int → Prop
  | nil (n : Nat) : Dc s n n []
  | step {n m d : Nat} {o X : List Int} (h : SStp s n d o) (r : Dc s (n + d) m X) : Dc s n m (o ++ X)
theorem Dc.le {s : ByteArray} {n m : Nat} {X : List Int} (h : Dc s n m X) : n ≤ m := by
  induction h with
  | nil => exact Nat.le_refl _
  | step _ _ ih => omega
theorem Dc.same {s t : ByteArray} {n m : Nat} {X : List Int} (h : Dc s n m X) : ∀ n2, Same s t n n2 (m - n) → n2 + (m - n) ≤ t.size → Dc t n2 (n2 + (m - n)) X := by
  induction h with
  | nil n => intro n2 _ _; rw [Nat.sub_self]; exact .nil _
  | @step n m d o X h r ih =>
    intro n2 hs hf
    have hl := r.le
    have h2 := ih (n2 + d) ((hs.drop d (by omega)).mono (by omega)) (by omega)
    refine .step (h.same (hs.mono (by omega)) (by omega)) ?_
    have e : n2 + d + (m - (n + d)) = n2 + (m - n) := by omega
    rw [e] at h2
    exact h2
theorem loop_dc {s : ByteArray} : ∀ (g : Nat) (σ σ' : St), St.strLoop s false g σ = (true, σ') → ∃ X, Dc s σ.at_ σ'.at_ X ∧ σ' = { σ with at_ := σ'.at_ } ∧ bAt s σ'.at_ = 34 ∧ σ'.at_ < s.size
  | 0, σ, σ', h => by cases h
  | g + 1, σ, σ', h => by
    unfold St.strLoop at h
    split at h
    · rename_i hl
      split at h
      · rename_i h34
        injection h with _ h2
        subst h2
        exact ⟨[], .nil _, rfl, h34, hl⟩
      · rename_i h34
        obtain ⟨τ, h1, h2⟩ := then_ok h
        obtain ⟨d, o, e1, rfl⟩ := inner_stp hl h34 h1
        obtain ⟨X, r1, r2, r3⟩ := loop_dc g _ σ' h2
        exact ⟨o ++ X, .step e1 r1, r2, r3⟩
    · cases h
theorem Dc.loop {s : ByteArray} {n m : Nat} {X : List Int} (h : Dc s n m X) (h34 : bAt s m = 34) (hm : m < s.size) (f : Int) (p : Bool) : ∀ g, s.size - n ≤ g → St.strLoop s false g ⟨n, f, p⟩ = (true, ⟨m, f, p⟩) := by
  induction h with
  | nil n =>
    intro g hg
    obtain ⟨g', rfl⟩ : ∃ g', g = g' + 1 := ⟨g - 1, by omega⟩
    unfold St.strLoop
    rw [if_pos hm, if_pos h34]
  | @step n m d o X h r ih =>
    intro g hg
    have hf := h.fit
    obtain ⟨g', rfl⟩ : ∃ g', g = g' + 1 := ⟨g - 1, by omega⟩
    unfold St.strLoop
    rw [if_pos (by dsimp only; omega), if_neg h.ne34, then_mk (h.inner f p)]
    exact ih h34 hm g' (by omega)
/-- A loose reader takes such a step as well. -/
theorem SStp.loose {s : ByteArray} {n d : Nat} {o : List Int} (h : SStp s n d o) (f : Int) (p : Bool) {τ : St} (k : ∀ g, s.size - (n + d) ≤ g → St.strLoop s true g ⟨n + d, f, p⟩ = (true, τ)) : ∀ g, s.size - n ≤ g → St.strLoop s true g ⟨n, f, p⟩ = (true, τ) := by
  have uni : ∀ n, n + 6 ≤ s.size → bAt s n = 92 → bAt s (n + 1) = 117 → hexAll s (n + 2) 4 = true → (∀ g, s.size - (n + 6) ≤ g → St.strLoop s true g ⟨n + 6, f, p⟩ = (true, τ)) → ∀ g, s.size - n ≤ g → St.strLoop s true g ⟨n, f, p⟩ = (true, τ) := by
    intro n h h1 h2 h3 k g hg
    obtain ⟨g', rfl⟩ : ∃ g', g = g' + 1 := ⟨g - 1, by omega⟩
    unfold St.strLoop
    rw [if_pos (by dsimp only; omega), if_neg (by dsimp only; omega)]
    have e : St.inner s true ⟨n, f, p⟩ = (true, ⟨n + 6, f, p⟩) := by
      unfold St.inner
      dsimp only
      rw [if_pos h1]
      unfold St.escape
      dsimp only
      rw [if_neg (by omega), if_pos h2]
      unfold St.unit
      rw [if_pos rfl, hex4_mk (σ := ⟨n + 1 + 1, f, p⟩) h3]
      rfl
    rw [then_mk e]
    exact k g' (by omega)
  have one : ∀ n, n + 1 ≤ s.size → 32 ≤ bAt s n → bAt s n ≠ 92 → bAt s n ≠ 34 → (∀ g, s.size - (n + 1) ≤ g → St.strLoop s true g ⟨n + 1, f, p⟩ = (true, τ)) → ∀ g, s.size - n ≤ g → St.strLoop s true g ⟨n, f, p⟩ = (true, τ) := by
    intro n h h1 h2 h3 k g hg
    obtain ⟨g', rfl⟩ : ∃ g', g = g' + 1 := ⟨g - 1, by omega⟩
    unfold St.strLoop
    rw [if_pos (by dsimp only; omega), if_neg h3]
    have e : St.inner s true ⟨n, f, p⟩ = (true, ⟨n + 1, f, p⟩) := by
      unfold St.inner
      dsimp only
      rw [if_neg h2, if_neg (by omega), if_pos (.inr rfl)]
    rw [then_mk e]
    exact k g' (by omega)
  cases h with
  | asc h h1 h2 h3 h4 => exact one n h h1 h3 h4 k
  | esc h h1 h2 =>
    unfold EscB at h2
    intro g hg
    obtain ⟨g', rfl⟩ : ∃ g', g = g' + 1 := ⟨g - 1, by omega⟩
    unfold St.strLoop
    rw [if_pos (by dsimp only; omega), if_neg (by dsimp only; omega)]
    have e : St.inner s true ⟨n, f, p⟩ = (true, ⟨n + 2, f, p⟩) := by
      unfold St.inner
      dsimp only
      rw [if_pos h1]
      unfold St.escape
      dsimp only
      rw [if_pos h2]
    rw [then_mk e]
    exact k g' (by omega)
  | uni h h1 h2 h3 h4 => exact uni n h h1 h2 h3 k
  | pair h h1 h2 h3 h4 h5 h6 a1 a2 b1 b2 => exact uni n (by omega) h1 h2 h3 (uni (n + 6) (by omega) h4 h5 h6 k)
  | run h1 h2 =>
    have hf := uw_fit s n h2
    have hin := uw_inner s n h2
    have key : ∀ j, j ≤ uw s n → ∀ g, s.size - (n + (uw s n - j)) ≤ g → St.strLoop s true g ⟨n + (uw s n - j), f, p⟩ = (true, τ) := by
      intro j
      induction j with
      | zero => intro _ g hg; exact k g (by simpa using hg)
      | succ j ih =>
        intro hj
        have hb : 128 ≤ bAt s (n + (uw s n - (j + 1))) := by
          by_cases e : uw s n - (j + 1) = 0
          · rw [e]; exact h1
          · exact hin _ (by omega) (by omega)
        refine one _ (by omega) (by omega) (by omega) (by omega) ?_
        rw [show n + (uw s n - (j + 1)) + 1 = n + (uw s n - j) by omega]
        exact ih (by omega)
    have := key (uw s n) (Nat.le_refl _)
    rwa [Nat.sub_self] at this
theorem Dc.looseLoop {s : ByteArray} {n m : Nat} {X : List Int} (h : Dc s n m X) (h34 : bAt s m = 34) (hm : m < s.size) (f : Int) (p : Bool) : ∀ g, s.size - n ≤ g → St.strLoop s true g ⟨n, f, p⟩ = (true, ⟨m, f, p⟩) := by
  induction h with
  | nil n =>
    intro g hg
    obtain ⟨g', rfl⟩ : ∃ g', g = g' + 1 := ⟨g - 1, by omega⟩
    unfold St.strLoop
    rw [if_pos hm, if_pos h34]
  | step h r ih => exact h.loose f p (ih h34 hm)
/-- What Decode makes of it. -/
theorem Dc.dO {s : ByteArray} {n m : Nat} {X : List Int} (h : Dc s n m X) (hm : m = s.size) : ∀ g, s.size - n ≤ g → dO s g n = (X, true) := by
  induction h with
  | nil n =>
    subst hm
    intro g _
    cases g with
    | zero => rfl
    | succ g => rw [YtjbffgjclnjkoaaGreatDoor.dO, if_neg (by omega)]
  | @step n m d o X h r ih =>
    intro g hg
    have hf := h.fit
    obtain ⟨g', rfl⟩ : ∃ g', g = g' + 1 := ⟨g - 1, by omega⟩
    rw [YtjbffgjclnjkoaaGreatDoor.dO, if_pos (by omega), h.dS]
    dsimp only
    rw [ih hm g' (by omega)]
    rfl
theorem Dc.atk {s : ByteArray} {n m : Nat} {X : List Int} (h : Dc s n m X) (hm : m = s.size) : At s n := by
  induction h with
  | nil n => exact .done n hm
  | @step n m d o X h r ih =>
    have hf := h.fit
    have hd := h.dS
    refine .step n (by omega) (fun h92 => ?_) (by rw [hd]; exact hf.1) (by rw [hd]; exact hf.2) (by rw [hd]; exact ih hm)
    cases h with
    | asc _ _ _ h _ => exact absurd h92 h
    | esc h h1 h2 => exact ⟨by omega, .inl (by unfold EscB at h2; rcases h2 with h | h | h | h | h | h | h | h <;> (rw [h]; decide))⟩
    | uni h h1 h2 h3 h4 => exact ⟨by omega, .inr ⟨h2, by unfold unitD; rw [if_neg (by omega), if_neg (by omega), if_neg (by omega), if_neg (by rw [h3]; decide)]⟩⟩
    | pair h h1 h2 h3 h4 h5 h6 _ _ _ _ => exact ⟨by omega, .inr ⟨h2, by unfold unitD; rw [if_neg (by omega), if_neg (by omega), if_neg (by omega), if_neg (by rw [h3]; decide)]⟩⟩
    | run h _ => omega
/-- A text between quotation marks, and the string for which it stands. -/
def StrT (x : ByteArray) (X : List Int) : Prop := 2 ≤ x.size ∧ Dc x 1 (x.size - 1) X
theorem ext_byte {s N : ByteArray} {a b : Nat} (h : s.extract a b = N) (hb : b ≤ s.size) (ha : a ≤ b) : N.size = b - a ∧ ∀ i, i < N.size → bAt N i = bAt s (a + i) := by
  have hz : N.size = b - a := by rw [← h, ByteArray.size_extract]; omega
  refine ⟨hz, fun i hi => ?_⟩
  rw [bAt_lt hi, bAt_lt (s := s) (i := a + i) (by omega)]
  congr 2
  subst h
  rw [ByteArray.getElem_extract]
theorem decode_str {x : ByteArray} {X : List Int} (h : StrT x X) (hs : x.size ≤ 2500000000) (w : World) :
    Calls Tryz.prog 22 #[.string x] w fun e w' => e = .returned (.tuple #[.string (txt X), .bool true]) ∧ Below w.heap.size w w' := by
  obtain ⟨h2, hD⟩ := h
  obtain ⟨t, ht⟩ : ∃ t, x.extract 1 (x.size - 1) = t := ⟨_, rfl⟩
  obtain ⟨hz, hb⟩ := ext_byte ht (by omega) (by omega)
  have hT : Dc t 0 (0 + (x.size - 1 - 1)) X := hD.same 0 (fun i hi => by rw [Nat.zero_add]; exact hb i (by omega)) (by omega)
  have he : 0 + (x.size - 1 - 1) = t.size := by omega
  have hA := hT.atk he
  have hO := hT.dO he t.size (by omega)
  refine (specDecode_any x t w hs h2 ht hA).mono fun e w' ⟨h1, h3⟩ => ⟨?_, h3⟩
  rw [h1, hO]
/-- What a strict reader takes as a string. -/
theorem quoted_str {s : ByteArray} {σ σ' : St} (h : St.quoted s false σ = (true, σ')) : ∃ X, bAt s σ.at_ = 34 ∧ Dc s (σ.at_ + 1) σ'.at_ X ∧ σ' = { σ with at_ := σ'.at_ } ∧ bAt s σ'.at_ = 34 ∧ σ'.at_ < s.size ∧ StrT (s.extract σ.at_ (σ'.at_ + 1)) X := by
  obtain ⟨τ, g1, g2⟩ := then_ok h
  obtain ⟨a1, a2, a3, rfl⟩ := need_ok g1
  obtain ⟨X, b1, b2, b3, b4⟩ := loop_dc _ _ σ' g2
  dsimp only at b1 b2
  have hle := b1.le
  refine ⟨X, by omega, b1, b2, b3, b4, ?_⟩
  obtain ⟨N, hN⟩ : ∃ N, s.extract σ.at_ (σ'.at_ + 1) = N := ⟨_, rfl⟩
  obtain ⟨hz, hb⟩ := ext_byte hN (by omega) (by omega)
  rw [hN]
  refine ⟨by omega, ?_⟩
  have := b1.same (t := N) 1 (fun i hi => by rw [hb _ (by omega)]; congr 1; omega) (by omega)
  rw [show 1 + (σ'.at_ - (σ.at_ + 1)) = N.size - 1 by omega] at this
  exact this
theorem quoted_mk {s : ByteArray} (lo : Bool) {n m : Nat} {X : List Int} (f : Int) (p : Bool) (h34 : bAt s n = 34) (hD : Dc s (n + 1) m X) (hm34 : bAt s m = 34) (hm : m < s.size) : St.quoted s lo ⟨n, f, p⟩ = (true, ⟨m, f, p⟩) := by
  have hle := hD.le
  unfold St.quoted
  rw [then_mk (need_mk (σ := ⟨n, f, p⟩) (by dsimp only; omega) (by dsimp only; omega) (by dsimp only; omega))]
  dsimp only
  cases lo
  · exact hD.loop hm34 hm f p _ (Nat.le_refl _)
  · exact hD.looseLoop hm34 hm f p _ (Nat.le_refl _)
end Go.Proofs.YtjbffgjclnjkoaaGreatDoor
