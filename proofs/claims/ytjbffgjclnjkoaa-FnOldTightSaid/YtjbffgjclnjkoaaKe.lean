/- What is escaped for HTML, and what is made compact: the plain mathematics. -/
import Derived.Test.YtjbffgjclnjkoaaK1
import Derived.Test.YtjbffgjclnjkoaaHe
namespace Go.Proofs.Ytjbffgjclnjkoaa
set_option linter.unusedVariables false
set_option linter.unusedSimpArgs false

/-- Some bytes stand within strings alone. -/
theorem str_only {σ : Sc} (hi : Wl σ) {a : Int} (hg : Good (stepQ σ a)) (ha : a = 60 ∨ a = 62 ∨ a = 38 ∨ 128 ≤ a) : σ.q = .str ∧ stepQ σ a = (0, σ) := by
  have hw : ¬ isW a = true := by unfold isW; simp; omega
  have hx : ¬ hexB a = true := by unfold hexB digB; simp; omega
  have hd : ¬ digB a = true := by unfold digB; simp; omega
  have hE : ∀ τ : Sc, ¬ Good (endQ τ a) := fun τ h => by
    rcases end_good h with k | k
    · exact hw k
    · omega
  have hV : ¬ Good (bvQ σ a) := fun h => by
    unfold bvQ at h
    rw [if_neg hw, if_neg (by omega), if_neg (by omega), if_neg (by omega), if_neg (by omega), if_neg (by omega), if_neg (by omega), if_neg (by omega), if_neg (by omega), if_neg (by simp; omega)] at h
    exact not_err h
  have hS : ¬ Good (bsQ σ a) := fun h => by
    unfold bsQ at h
    rw [if_neg hw, if_neg (by omega)] at h
    exact not_err h
  obtain ⟨q, t, S, d⟩ := σ
  cases q
  case str =>
    refine ⟨rfl, ?_⟩
    show strQ _ a = _
    unfold strQ
    rw [if_neg (by omega), if_neg (by omega), if_neg (by omega)]
  case bv => exact absurd hg hV
  case bs => exact absurd hg hS
  case bvE =>
    exfalso
    change Good (bvEQ _ a) at hg
    unfold bvEQ at hg
    rw [if_neg hw, if_neg (by omega)] at hg
    exact hV hg
  case bsE =>
    exfalso
    change Good (bsEQ _ a) at hg
    unfold bsEQ at hg
    rw [if_neg hw, if_neg (by omega)] at hg
    exact hS hg
  case ev => exact absurd hg (hE _)
  case et => exact absurd (top_good hg) hw
  case esc =>
    exfalso
    change Good (escQ _ a) at hg
    unfold escQ at hg
    rw [if_neg (by omega), if_neg (by omega)] at hg
    exact not_err hg
  case neg =>
    exfalso
    change Good (negQ _ a) at hg
    unfold negQ at hg
    rw [if_neg (by omega), if_neg (by simp; omega)] at hg
    exact not_err hg
  case s0 =>
    exfalso
    change Good (s0Q _ a) at hg
    unfold s0Q at hg
    rw [if_neg (by omega), if_neg (by omega)] at hg
    exact hE _ hg
  case s1 =>
    exfalso
    change Good (s1Q _ a) at hg
    unfold s1Q s0Q at hg
    rw [if_neg hd, if_neg (by omega), if_neg (by omega)] at hg
    exact hE _ hg
  case dot =>
    exfalso
    change Good (dotQ _ a) at hg
    unfold dotQ at hg
    rw [if_neg hd] at hg
    exact not_err hg
  case dot0 =>
    exfalso
    change Good (dot0Q _ a) at hg
    unfold dot0Q at hg
    rw [if_neg hd, if_neg (by omega)] at hg
    exact hE _ hg
  case ee =>
    exfalso
    change Good (eeQ _ a) at hg
    unfold eeQ esgQ at hg
    rw [if_neg (by omega), if_neg hd] at hg
    exact not_err hg
  case esg =>
    exfalso
    change Good (esgQ _ a) at hg
    unfold esgQ at hg
    rw [if_neg hd] at hg
    exact not_err hg
  case e0 =>
    exfalso
    change Good (e0Q _ a) at hg
    unfold e0Q at hg
    rw [if_neg hd] at hg
    exact hE _ hg
  case er => exact absurd rfl hg.1
  case u0 | u1 | u2 | u3 =>
    exfalso
    simp only [stepQ, hexQ] at hg
    rw [if_neg hx] at hg
    exact not_err hg
  all_goals
    exfalso
    simp only [stepQ, litQ] at hg
    rw [if_neg (by omega)] at hg
    exact not_err hg
/-- A byte that is kept. -/
theorem kept0 {σ τ : Sc} {c : Int} (e : stepQ σ c = (0, τ)) (hb : τ.bad = false) (x : List Int) : cmpQ σ (c :: x) = c :: cmpQ τ x ∧ (VQ σ (c :: x) ↔ VQ τ x) := by
  refine ⟨?_, ?_⟩
  · rw [cmp_lt (by rw [e]; show (0 : Int) < 9; decide), e]
  · show (Good (stepQ σ c) ∧ VQ (stepQ σ c).2 x) ↔ _
    rw [e]
    exact ⟨fun h => h.2, fun h => ⟨⟨by show (0 : Int) ≠ 11; decide, hb⟩, h⟩⟩
/-- An escape of four digits within a string. -/
theorem run6 {σ : Sc} (hq : σ.q = .str) (hb : σ.bad = false) {a b c d : Int} (h1 : hexB a = true) (h2 : hexB b = true) (h3 : hexB c = true) (h4 : hexB d = true) (x : List Int) :
    cmpQ σ ([92, 117, a, b, c, d] ++ x) = [92, 117, a, b, c, d] ++ cmpQ σ x ∧ (VQ σ ([92, 117, a, b, c, d] ++ x) ↔ VQ σ x) := by
  obtain ⟨q, t, S, d'⟩ := σ
  dsimp only at hq hb
  subst hq hb
  have hx : ∀ (q q2 : Sq) (y : Int), hexB y = true → hexQ ⟨q, t, S, false⟩ y q2 = (0, ⟨q2, t, S, false⟩) := fun q q2 y h => by unfold hexQ; rw [if_pos h]; rfl
  obtain ⟨p1, q1⟩ := kept0 (σ := ⟨.str, t, S, false⟩) (τ := ⟨.esc, t, S, false⟩) (c := 92) rfl rfl (117 :: a :: b :: c :: d :: x)
  obtain ⟨p2, q2⟩ := kept0 (σ := ⟨.esc, t, S, false⟩) (τ := ⟨.u0, t, S, false⟩) (c := 117) rfl rfl (a :: b :: c :: d :: x)
  obtain ⟨p3, q3⟩ := kept0 (σ := ⟨.u0, t, S, false⟩) (τ := ⟨.u1, t, S, false⟩) (c := a) (hx .u0 .u1 a h1) rfl (b :: c :: d :: x)
  obtain ⟨p4, q4⟩ := kept0 (σ := ⟨.u1, t, S, false⟩) (τ := ⟨.u2, t, S, false⟩) (c := b) (hx .u1 .u2 b h2) rfl (c :: d :: x)
  obtain ⟨p5, q5⟩ := kept0 (σ := ⟨.u2, t, S, false⟩) (τ := ⟨.u3, t, S, false⟩) (c := c) (hx .u2 .u3 c h3) rfl (d :: x)
  obtain ⟨p6, q6⟩ := kept0 (σ := ⟨.u3, t, S, false⟩) (τ := ⟨.str, t, S, false⟩) (c := d) (hx .u3 .str d h4) rfl x
  refine ⟨?_, ?_⟩
  · show cmpQ _ (92 :: 117 :: a :: b :: c :: d :: x) = _
    rw [p1, p2, p3, p4, p5, p6]; rfl
  · show VQ _ (92 :: 117 :: a :: b :: c :: d :: x) ↔ _
    rw [q1, q2, q3, q4, q5, q6]
/-- Within a string the bytes are kept as they lie. -/
theorem str_two {σ : Sc} (hi : Wl σ) (hq : σ.q = .str) {t : List Int} (hv : VQ σ t) :
    ((cmpQ σ t)[0]? = some 128 ∧ ((cmpQ σ t)[1]? = some 168 ∨ (cmpQ σ t)[1]? = some 169)) ↔ (t[0]? = some 128 ∧ (t[1]? = some 168 ∨ t[1]? = some 169)) := by
  have code : ∀ (τ : Sc) (c : Int), τ.q = .str → Good (stepQ τ c) → (stepQ τ c).1 < 9 := fun τ c hq hg => by
    have e : stepQ τ c = strQ τ c := by unfold stepQ; rw [hq]
    rw [e] at hg ⊢
    unfold strQ at hg ⊢
    repeat' split
    all_goals first
      | (show (0 : Int) < 9; decide)
      | (rename_i h1 h2 h3; rw [if_neg h1, if_neg h2, if_pos h3] at hg; exact absurd hg not_err)
  cases t with
  | nil => exact Iff.rfl
  | cons c t =>
    obtain ⟨hg, hv⟩ := hv
    rw [cmp_lt (code σ c hq hg)]
    by_cases h : c = 128
    · subst h
      obtain ⟨_, e⟩ := str_only hi hg (by omega)
      rw [e] at hv ⊢
      cases t with
      | nil => exact Iff.rfl
      | cons d t =>
        obtain ⟨hg2, hv2⟩ := hv
        rw [cmp_lt (code σ d hq hg2)]
        simp
    · simp [h]
theorem hxD_hex {n : Int} (h0 : 0 ≤ n) (h1 : n < 16) : hexB (hxD n) = true := by
  unfold hxD hexB digB
  split <;> (simp; omega)
/-- Made compact and escaped, in either order. -/
theorem tight_esc : ∀ (n : Nat) (l : List Int) (σ : Sc), l.length ≤ n → Wl σ → VQ σ l → cmpQ σ (heL l) = heL (cmpQ σ l) ∧ VQ σ (heL l)
  | _, [], σ, _, _, hv => ⟨rfl, hv⟩
  | 0, _ :: _, _, hn, _, _ => by simp at hn
  | n + 1, a :: t, σ, hn, hi, hv => by
    obtain ⟨hg, hv'⟩ := hv
    simp at hn
    by_cases hh : a = 60 ∨ a = 62 ∨ a = 38
    · obtain ⟨hq, e⟩ := str_only hi hg (by omega)
      rw [e] at hv'
      obtain ⟨i1, i2⟩ := tight_esc n t σ (by omega) hi hv'
      obtain ⟨r1, r2⟩ := run6 hq hi.bad (a := 48) (b := 48) (c := hxD (a / 16)) (d := hxD (a % 16)) rfl rfl (hxD_hex (by omega) (by omega)) (hxD_hex (by omega) (by omega)) (heL t)
      rw [heL_hit t hh, r1, (kept0 e hi.bad t).1, heL_hit _ hh, i1]
      exact ⟨rfl, r2.2 i2⟩
    by_cases hs : a = 226 ∧ t[0]? = some 128 ∧ (t[1]? = some 168 ∨ t[1]? = some 169)
    · obtain ⟨ha, h0, h1⟩ := hs
      obtain ⟨hq, e⟩ := str_only hi hg (by omega)
      rw [e] at hv'
      have h2 := (str_two hi hq hv').2 ⟨h0, h1⟩
      rcases t with _ | ⟨b, _ | ⟨c, t⟩⟩
      · simp at h0
      · simp at h1
      simp at h0 h1
      subst h0
      obtain ⟨g1, hv1⟩ := hv'
      obtain ⟨_, e1⟩ := str_only hi g1 (by omega)
      rw [e1] at hv1
      obtain ⟨g2, hv2⟩ := hv1
      obtain ⟨_, e2⟩ := str_only hi g2 (by omega)
      rw [e2] at hv2
      have hn' : t.length ≤ n := by simp at hn; omega
      obtain ⟨i1, i2⟩ := tight_esc n t σ hn' hi hv2
      have hl : ∀ x : List Int, heL (226 :: 128 :: c :: x) = [92, 117, 50, 48, 50, hxD (c % 16)] ++ heL x := fun x => by
        unfold heL
        rw [heS, if_neg (by omega), if_pos ⟨rfl, rfl, by simpa using h1⟩]
        rfl
      obtain ⟨r1, r2⟩ := run6 hq hi.bad (a := 50) (b := 48) (c := 50) (d := hxD (c % 16)) rfl rfl rfl (hxD_hex (by omega) (by omega)) (heL t)
      rw [ha] at e ⊢
      rw [hl, r1, (kept0 e hi.bad _).1, (kept0 e1 hi.bad _).1, (kept0 e2 hi.bad _).1, hl, i1]
      exact ⟨rfl, r2.2 i2⟩
    · have hl : heL (a :: t) = a :: heL t := by unfold heL; rw [heS, if_neg hh, if_neg hs]
      obtain ⟨i1, i2⟩ := tight_esc n t _ (by omega) (hi.step hg) hv'
      rw [hl]
      refine ⟨?_, ⟨hg, i2⟩⟩
      by_cases h9 : (stepQ σ a).1 < 9
      · rw [cmp_lt h9, cmp_lt h9, i1]
        unfold heL
        rw [heS, if_neg hh, if_neg ?_]
        rintro ⟨k1, k2⟩
        obtain ⟨hq, e⟩ := str_only hi hg (by omega)
        rw [e] at k2 hv'
        exact hs ⟨k1, (str_two hi hq hv').1 k2⟩
      · rw [cmp_ge (by omega), cmp_ge (by omega), i1]
end Go.Proofs.Ytjbffgjclnjkoaa
