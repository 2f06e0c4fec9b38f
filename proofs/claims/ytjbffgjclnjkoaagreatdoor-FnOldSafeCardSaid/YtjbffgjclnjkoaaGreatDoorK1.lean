/- Joined texts: Kq, Ki, Kj. -/
import Derived.Test.YtjbffgjclnjkoaaGreatDoorG1
namespace Go.Proofs.YtjbffgjclnjkoaaGreatDoor
set_option linter.unusedVariables false
set_option linter.unusedSimpArgs false
section
/- (Kq) White space does not count: what is made compact, and what is laid out over lines: the plain mathematics. -/
/-- A value may have ended in these states. -/
def EndL (q : Sq) : Prop := q = .ev ∨ q = .et ∨ q = .s0 ∨ q = .s1 ∨ q = .dot0 ∨ q = .e0
/-- White space may stand in these states. -/
def B10 (q : Sq) : Prop := q = .bv ∨ q = .bvE ∨ q = .bs ∨ q = .bsE ∨ EndL q
/-- A text can go on so, and ends well. -/
def VQ : Sc → List Int → Prop
  | σ, [] => (eofQ σ).1 ≠ 11
  | σ, c :: l => Good (stepQ σ c) ∧ VQ (stepQ σ c).2 l
theorem validQ_cons (σ : Sc) (c : Int) (l : List Int) : validQ σ (c :: l) = if (stepQ σ c).1 = 11 then false else validQ (stepQ σ c).2 l := rfl
theorem vq_of : ∀ (l : List Int) (σ : Sc), σ.bad = false → validQ σ l = true → VQ σ l
  | [], σ, _, h => by
    have : ((eofQ σ).1 != 11) = true := h
    show (eofQ σ).1 ≠ 11
    simpa using this
  | c :: l, σ, hb, h => by
    rw [validQ_cons] at h
    by_cases h11 : (stepQ σ c).1 = 11
    · rw [if_pos h11] at h; cases h
    · rw [if_neg h11] at h
      cases hbad : (stepQ σ c).2.bad with
      | false => exact ⟨⟨h11, hbad⟩, vq_of l _ hbad h⟩
      | true => rw [valid_bad _ (br_step hb c hbad) hbad l] at h; cases h
theorem of_vq : ∀ (l : List Int) (σ : Sc), VQ σ l → validQ σ l = true
  | [], σ, h => by
    have h' : (eofQ σ).1 ≠ 11 := h
    show ((eofQ σ).1 != 11) = true
    simpa using h'
  | c :: l, σ, h => by
    rw [validQ_cons, if_neg h.1.1]
    exact of_vq l _ h.2
structure Wl (σ : Sc) : Prop where
  inw : Inw σ
  bad : σ.bad = false
theorem wl0 : Wl sc0 := ⟨inw0, rfl⟩
theorem Wl.step {σ : Sc} (h : Wl σ) {c : Int} (hg : Good (stepQ σ c)) : Wl (stepQ σ c).2 := ⟨inw_step h.inw hg, hg.2⟩
theorem Wl.tf {σ : Sc} (h : Wl σ) (hs : σ.stk ≠ []) : σ.top = false := by
  cases ht : σ.top
  · rfl
  · exact absurd (h.inw.es (h.inw.et.1 ht)) hs
theorem endQ_cong {σ τ : Sc} (hs : σ.stk = τ.stk) (hb : σ.bad = τ.bad) (ht : σ.stk ≠ [] → σ.top = τ.top) (c : Int) : endQ σ c = endQ τ c := by
  obtain ⟨q, t, S, d⟩ := σ
  obtain ⟨q', t', S', d'⟩ := τ
  dsimp only at hs hb ht
  subst hs hb
  cases S with
  | nil => rfl
  | cons k r =>
    obtain rfl := ht (by simp)
    cases r <;> rfl
theorem Wl.end_eq {σ τ : Sc} (h : Wl σ) (k : Wl τ) (hs : σ.stk = τ.stk) (c : Int) : endQ σ c = endQ τ c :=
  endQ_cong hs (by rw [h.bad, k.bad]) (fun hn => by rw [h.tf hn, k.tf (hs ▸ hn)]) c
theorem topQ_code (σ : Sc) (c : Int) : (topQ σ c).1 = 10 := by
  unfold topQ
  split <;> rfl
theorem top_good {σ : Sc} {c : Int} (h : Good (topQ σ c)) : isW c = true := by
  unfold topQ at h
  by_cases hw : isW c = true
  · exact hw
  · rw [if_neg hw] at h
    exact absurd h.2 (by simp [Sc.err])
/-- What may stand behind a value. -/
theorem end_good {σ : Sc} {c : Int} (h : Good (endQ σ c)) : isW c = true ∨ c = 58 ∨ c = 44 ∨ c = 125 ∨ c = 93 := by
  unfold endQ at h
  split at h
  · exact .inl (top_good h)
  · by_cases hw : isW c = true
    · exact .inl hw
    · rw [if_neg hw] at h
      repeat' split at h
      all_goals first
        | exact absurd h not_err
        | (right; omega)
theorem end_ge {σ : Sc} {c : Int} (h : Good (endQ σ c)) (h9 : 9 ≤ (endQ σ c).1) : isW c = true := by
  unfold endQ at h h9
  split at h
  · exact top_good h
  · rename_i k r hs
    rw [hs] at h9
    dsimp only at h9
    by_cases hw : isW c = true
    · exact hw
    · exfalso
      rw [if_neg hw] at h h9
      repeat' split at h
      all_goals first
        | exact absurd h not_err
        | (simp [*, Sc.to] at h9)
theorem end_ws {σ : Sc} {c : Int} (hw : isW c = true) : (endQ σ c).2.stk = σ.stk ∧ ((endQ σ c).2.q = .ev ∨ (endQ σ c).2.q = .et) ∧ (endQ σ c).2.bad = σ.bad ∧ ((endQ σ c).1 = 9 ∨ (endQ σ c).1 = 10) ∧ ((endQ σ c).1 = 10 → σ.stk = []) := by
  obtain ⟨q, t, S, d⟩ := σ
  cases S with
  | nil =>
    show (topQ _ c).2.stk = _ ∧ ((topQ _ c).2.q = _ ∨ (topQ _ c).2.q = _) ∧ (topQ _ c).2.bad = _ ∧ ((topQ _ c).1 = _ ∨ (topQ _ c).1 = _) ∧ _
    unfold topQ
    rw [if_pos hw]
    exact ⟨rfl, .inr rfl, rfl, .inr rfl, fun _ => rfl⟩
  | cons k r =>
    unfold endQ
    dsimp only
    rw [if_pos hw]
    exact ⟨rfl, .inl rfl, rfl, .inl rfl, fun h => by cases h⟩
theorem pun_dig {c : Int} (h : isW c = true ∨ c = 58 ∨ c = 44 ∨ c = 125 ∨ c = 93) : digB c = false ∧ c ≠ 46 ∧ ¬ (c = 101 ∨ c = 69) := by
  unfold isW at h
  unfold digB
  simp at h ⊢
  omega
/-- A byte behind which a number cannot go on. -/
theorem endl_pun {σ : Sc} (hi : Wl σ) (h : EndL σ.q) {c : Int} (hc : isW c = true ∨ c = 58 ∨ c = 44 ∨ c = 125 ∨ c = 93) : stepQ σ c = endQ σ c := by
  obtain ⟨d1, d2, d3⟩ := pun_dig hc
  have d1' : ¬ digB c = true := by rw [d1]; simp
  obtain ⟨q, t, S, d⟩ := σ
  rcases h with h | h | h | h | h | h
  all_goals (dsimp only at h; subst h)
  · rfl
  · have ht : t = true := hi.inw.et.2 rfl
    have hs : S = [] := hi.inw.es rfl
    subst ht hs
    rfl
  · show s0Q _ c = _
    unfold s0Q
    rw [if_neg d2, if_neg d3]
  · show s1Q _ c = _
    unfold s1Q s0Q
    rw [if_neg d1', if_neg d2, if_neg d3]
  · show dot0Q _ c = _
    unfold dot0Q
    rw [if_neg d1', if_neg d3]
  · show e0Q _ c = _
    unfold e0Q
    rw [if_neg d1']
theorem endl_step {σ : Sc} (hi : Wl σ) (h : EndL σ.q) {c : Int} (hc : (stepQ σ c).1 ≠ 0) : stepQ σ c = endQ σ c := by
  obtain ⟨q, t, S, d⟩ := σ
  rcases h with h | h | h | h | h | h
  all_goals (dsimp only at h; subst h)
  · rfl
  · have ht : t = true := hi.inw.et.2 rfl
    have hs : S = [] := hi.inw.es rfl
    subst ht hs
    rfl
  · change (s0Q _ c).1 ≠ 0 at hc
    show s0Q _ c = _
    unfold s0Q at hc ⊢
    repeat' split at hc
    all_goals first | exact absurd rfl hc | simp [*]
  · change (s1Q _ c).1 ≠ 0 at hc
    show s1Q _ c = _
    unfold s1Q s0Q at hc ⊢
    repeat' split at hc
    all_goals first | exact absurd rfl hc | simp [*]
  · change (dot0Q _ c).1 ≠ 0 at hc
    show dot0Q _ c = _
    unfold dot0Q at hc ⊢
    repeat' split at hc
    all_goals first | exact absurd rfl hc | simp [*]
  · change (e0Q _ c).1 ≠ 0 at hc
    show e0Q _ c = _
    unfold e0Q at hc ⊢
    repeat' split at hc
    all_goals first | exact absurd rfl hc | simp [*]
/-- One state is that of the other, or both stand behind a value's end, the first one behind white space. -/
def Rel (σ τ : Sc) : Prop := σ = τ ∨ (σ.stk = τ.stk ∧ (σ.q = .ev ∨ σ.q = .et) ∧ EndL τ.q)
theorem evt_end {q : Sq} (h : q = .ev ∨ q = .et) : EndL q := by rcases h with h | h; exact .inl h; exact .inr (.inl h)
/-- What does not depend on white space ahead of it. -/
theorem two_step {σ τ : Sc} (hi : Wl σ) (ht : Wl τ) (h : σ = τ ∨ (σ.stk = τ.stk ∧ EndL σ.q ∧ EndL τ.q)) {c : Int} (hg : Good (stepQ σ c)) (h0 : (stepQ σ c).1 ≠ 0) : stepQ τ c = stepQ σ c := by
  rcases h with rfl | ⟨h1, h2, h3⟩
  · rfl
  · have e := endl_step hi h2 h0
    rw [e] at hg ⊢
    rw [hi.end_eq ht h1] at hg ⊢
    exact endl_pun ht h3 (end_good hg)
theorem step_rel {σ τ : Sc} (hi : Wl σ) (ht : Wl τ) (h : Rel σ τ) {c : Int} (hg : Good (stepQ σ c)) : stepQ τ c = stepQ σ c := by
  rcases h with rfl | ⟨h1, h2, h3⟩
  · rfl
  · refine two_step hi ht (.inr ⟨h1, evt_end h2, h3⟩) hg ?_
    obtain ⟨q, t, S, d⟩ := σ
    rcases h2 with h2 | h2
    all_goals (dsimp only at h2; subst h2)
    · change Good (endQ _ c) at hg
      show (endQ _ c).1 ≠ 0
      unfold endQ at hg ⊢
      split
      · rw [topQ_code]; decide
      · repeat' split
        all_goals first | decide | simp [Sc.to, Sc.err]
    · show (topQ _ c).1 ≠ 0
      rw [topQ_code]; decide
/-- White space that is told as such. -/
theorem ws_step {σ : Sc} (hi : Wl σ) {c : Int} (hg : Good (stepQ σ c)) (h9 : 9 ≤ (stepQ σ c).1) : isW c = true ∧ (((stepQ σ c).2 = σ ∧ (stepQ σ c).1 = 9) ∨ (EndL σ.q ∧ stepQ σ c = endQ σ c)) := by
  have hE : ∀ {τ : Sc}, Good (endQ τ c) → 9 ≤ (endQ τ c).1 → isW c = true := end_ge
  have hV : Good (bvQ σ c) → 9 ≤ (bvQ σ c).1 → isW c = true ∧ (bvQ σ c).2 = σ ∧ (bvQ σ c).1 = 9 := fun h k => by
    unfold bvQ at h k ⊢
    by_cases hw : isW c = true
    · rw [if_pos hw]; exact ⟨hw, rfl, rfl⟩
    · exfalso
      rw [if_neg hw] at h k
      repeat' split at h
      all_goals first
        | exact absurd h not_err
        | (simp [*, Sc.to] at k)
  have hS : Good (bsQ σ c) → 9 ≤ (bsQ σ c).1 → isW c = true ∧ (bsQ σ c).2 = σ ∧ (bsQ σ c).1 = 9 := fun h k => by
    unfold bsQ at h k ⊢
    by_cases hw : isW c = true
    · rw [if_pos hw]; exact ⟨hw, rfl, rfl⟩
    · exfalso
      rw [if_neg hw] at h k
      repeat' split at h
      all_goals first
        | exact absurd h not_err
        | (simp [*, Sc.to] at k)
  obtain ⟨q, t, S, d⟩ := σ
  have fin : EndL q → isW c = true ∧ (((stepQ ⟨q, t, S, d⟩ c).2 = ⟨q, t, S, d⟩ ∧ (stepQ ⟨q, t, S, d⟩ c).1 = 9) ∨ (EndL q ∧ stepQ ⟨q, t, S, d⟩ c = endQ ⟨q, t, S, d⟩ c)) := fun hq => by
    have e := endl_step hi hq (c := c) (by omega)
    rw [e] at hg h9
    exact ⟨end_ge hg h9, .inr ⟨hq, e⟩⟩
  cases q
  case bv => have := hV hg h9; exact ⟨this.1, .inl this.2⟩
  case bs => have := hS hg h9; exact ⟨this.1, .inl this.2⟩
  case bvE =>
    change Good (bvEQ _ c) at hg
    change 9 ≤ (bvEQ _ c).1 at h9
    show isW c = true ∧ (((bvEQ _ c).2 = _ ∧ (bvEQ _ c).1 = 9) ∨ _)
    unfold bvEQ at hg h9 ⊢
    by_cases hw : isW c = true
    · rw [if_pos hw]; exact ⟨hw, .inl ⟨rfl, rfl⟩⟩
    · exfalso
      rw [if_neg hw] at hg h9
      split at hg
      · rename_i hc; rw [if_pos hc] at h9; exact hw (hE hg h9)
      · rename_i hc; rw [if_neg hc] at h9; exact hw (hV hg h9).1
  case bsE =>
    change Good (bsEQ _ c) at hg
    change 9 ≤ (bsEQ _ c).1 at h9
    show isW c = true ∧ (((bsEQ _ c).2 = _ ∧ (bsEQ _ c).1 = 9) ∨ _)
    unfold bsEQ at hg h9 ⊢
    by_cases hw : isW c = true
    · rw [if_pos hw]; exact ⟨hw, .inl ⟨rfl, rfl⟩⟩
    · exfalso
      rw [if_neg hw] at hg h9
      split at hg
      · rename_i hc; rw [if_pos hc] at h9; exact hw (hE hg h9)
      · rename_i hc; rw [if_neg hc] at h9; exact hw (hS hg h9).1
  case ev => exact fin (.inl rfl)
  case et => exact fin (.inr (.inl rfl))
  case s0 => exact fin (.inr (.inr (.inl rfl)))
  case s1 => exact fin (.inr (.inr (.inr (.inl rfl))))
  case dot0 => exact fin (.inr (.inr (.inr (.inr (.inl rfl)))))
  case e0 => exact fin (.inr (.inr (.inr (.inr (.inr rfl)))))
  all_goals
    exfalso
    simp only [stepQ, strQ, escQ, hexQ, negQ, dotQ, eeQ, esgQ, litQ] at hg h9
    repeat' split at hg
    all_goals first
      | exact absurd hg not_err
      | (simp [*, Sc.to] at h9; done)
      | (exact absurd rfl hg.1)
theorem ws_rel {σ τ : Sc} (hi : Wl σ) (h : Rel σ τ) {c : Int} (hg : Good (stepQ σ c)) (h9 : 9 ≤ (stepQ σ c).1) : isW c = true ∧ Rel (stepQ σ c).2 τ := by
  obtain ⟨hw, h1 | ⟨h1, h2⟩⟩ := ws_step hi hg h9
  · exact ⟨hw, by rw [h1.1]; exact h⟩
  · refine ⟨hw, ?_⟩
    obtain ⟨e1, e2, _⟩ := end_ws (σ := σ) hw
    rw [h2]
    rcases h with rfl | ⟨k1, k2, k3⟩
    · exact .inr ⟨e1, e2, h1⟩
    · exact .inr ⟨e1.trans k1, e2, k3⟩
theorem eof_end {σ : Sc} (hi : Wl σ) (h : EndL σ.q) : (eofQ σ).1 = if σ.stk = [] then 10 else 11 := by
  have e := endl_pun hi h (c := 32) (.inl rfl)
  have hb := hi.bad
  obtain ⟨q, t, S, d⟩ := σ
  dsimp only at hb
  subst hb
  unfold eofQ
  rw [if_neg (by simp), e]
  cases S with
  | nil =>
    dsimp only
    split
    · rw [if_pos rfl]
    · rw [if_pos rfl]; rfl
  | cons k r =>
    have ht : t = false := hi.tf (by simp)
    subst ht
    rw [if_neg (by simp), if_neg (by rw [show (endQ ⟨q, false, k :: r, false⟩ 32).2.top = false from rfl]; simp)]
    rfl
theorem eof_of {σ : Sc} (hi : Wl σ) (h : (eofQ σ).1 ≠ 11) : EndL σ.q ∧ σ.stk = [] := by
  have key : EndL σ.q → EndL σ.q ∧ σ.stk = [] := fun hq => by
    refine ⟨hq, ?_⟩
    rw [eof_end hi hq] at h
    by_cases hs : σ.stk = []
    · exact hs
    · rw [if_neg hs] at h; exact absurd rfl h
  have hb := hi.bad
  obtain ⟨q, t, S, d⟩ := σ
  dsimp only at hb
  subst hb
  by_cases hq : EndL q
  · exact key hq
  · exfalso
    have ht : t = false := by
      cases t
      · rfl
      · exact absurd (.inr (.inl (hi.inw.et.1 rfl))) hq
    subst ht
    apply h
    unfold eofQ
    rw [if_neg (by simp), if_neg (by simp)]
    cases q
    case ev => exact absurd (.inl rfl) hq
    case et => exact absurd (.inr (.inl rfl)) hq
    case s0 => exact absurd (.inr (.inr (.inl rfl))) hq
    case s1 => exact absurd (.inr (.inr (.inr (.inl rfl)))) hq
    case dot0 => exact absurd (.inr (.inr (.inr (.inr (.inl rfl))))) hq
    case e0 => exact absurd (.inr (.inr (.inr (.inr (.inr rfl))))) hq
    all_goals rfl
theorem eof_rel {σ τ : Sc} (hi : Wl σ) (ht : Wl τ) (h : Rel σ τ) : (eofQ τ).1 = (eofQ σ).1 := by
  rcases h with rfl | ⟨h1, h2, h3⟩
  · rfl
  · rw [eof_end hi (evt_end h2), eof_end ht h3, h1]
/-- The bytes that count, each with its code. -/
def K : Sc → List Int → List (Int × Int)
  | _, [] => []
  | σ, c :: l => if (stepQ σ c).1 < 9 then ((stepQ σ c).1, c) :: K (stepQ σ c).2 l else K (stepQ σ c).2 l
/-- A text without its white space. -/
def cmpQ (σ : Sc) (l : List Int) : List Int := (K σ l).map Prod.snd
/-- The white space behind the value. -/
def trQ : Sc → List Int → List Int
  | _, [] => []
  | σ, c :: l => if (stepQ σ c).1 = 10 then c :: trQ (stepQ σ c).2 l else trQ (stepQ σ c).2 l
theorem K_lt {σ : Sc} {c : Int} (h : (stepQ σ c).1 < 9) (l : List Int) : K σ (c :: l) = ((stepQ σ c).1, c) :: K (stepQ σ c).2 l := by rw [K, if_pos h]
theorem K_ge {σ : Sc} {c : Int} (h : 9 ≤ (stepQ σ c).1) (l : List Int) : K σ (c :: l) = K (stepQ σ c).2 l := by rw [K, if_neg (by omega)]
theorem tr_lt {σ : Sc} {c : Int} (h : (stepQ σ c).1 ≠ 10) (l : List Int) : trQ σ (c :: l) = trQ (stepQ σ c).2 l := by rw [trQ, if_neg h]
theorem cmp_lt {σ : Sc} {c : Int} (h : (stepQ σ c).1 < 9) (l : List Int) : cmpQ σ (c :: l) = c :: cmpQ (stepQ σ c).2 l := by unfold cmpQ; rw [K_lt h]; rfl
theorem cmp_ge {σ : Sc} {c : Int} (h : 9 ≤ (stepQ σ c).1) (l : List Int) : cmpQ σ (c :: l) = cmpQ (stepQ σ c).2 l := by unfold cmpQ; rw [K_ge h]
/-- A text that has been made compact. -/
theorem cmp_same : ∀ (l : List Int) (σ τ : Sc), Wl σ → Wl τ → Rel σ τ → VQ σ l → VQ τ (cmpQ σ l) ∧ K τ (cmpQ σ l) = K σ l ∧ trQ τ (cmpQ σ l) = []
  | [], σ, τ, hi, ht, hr, hv => ⟨by show (eofQ τ).1 ≠ 11; rw [eof_rel hi ht hr]; exact hv, rfl, rfl⟩
  | c :: l, σ, τ, hi, ht, hr, hv => by
    obtain ⟨hg, hv⟩ := hv
    by_cases h9 : (stepQ σ c).1 < 9
    · have e := step_rel hi ht hr hg
      obtain ⟨i1, i2, i3⟩ := cmp_same l _ _ (hi.step hg) (hi.step hg) (.inl rfl) hv
      rw [cmp_lt h9]
      refine ⟨⟨by rw [e]; exact hg, by rw [e]; exact i1⟩, ?_, ?_⟩
      · rw [K_lt h9, K_lt (by rw [e]; exact h9), e, i2]
      · rw [tr_lt (by rw [e]; omega), e, i3]
    · obtain ⟨_, hr'⟩ := ws_rel hi hr hg (by omega)
      rw [cmp_ge (by omega), K_ge (by omega)]
      exact cmp_same l _ _ (hi.step hg) ht hr' hv
theorem ten_end {σ : Sc} (hi : Wl σ) {c : Int} (hg : Good (stepQ σ c)) (h : (stepQ σ c).1 = 10) : isW c = true ∧ EndL σ.q ∧ σ.stk = [] ∧ stepQ σ c = endQ σ c ∧ (stepQ σ c).2.q = .et := by
  obtain ⟨hw, h1 | ⟨h1, h2⟩⟩ := ws_step hi hg (by omega)
  · omega
  · obtain ⟨_, _, _, _, e5⟩ := end_ws (σ := σ) hw
    have hs := e5 (by rw [← h2]; exact h)
    refine ⟨hw, h1, hs, h2, ?_⟩
    rw [h2]
    unfold endQ
    rw [hs]
    show (topQ _ c).2.q = _
    unfold topQ
    rw [if_pos hw]
theorem et_rest : ∀ (l : List Int) (σ : Sc), σ.q = .et → VQ σ l → K σ l = []
  | [], _, _, _ => rfl
  | c :: l, σ, hq, hv => by
    obtain ⟨hg, hv⟩ := hv
    have e : stepQ σ c = topQ σ c := by unfold stepQ; rw [hq]
    rw [e] at hg
    have hw := top_good hg
    have e2 : stepQ σ c = (10, σ) := by rw [e]; unfold topQ; rw [if_pos hw]
    rw [K_ge (by rw [e2]; show (9 : Int) ≤ 10; decide), e2]
    rw [e2] at hv
    exact et_rest l σ hq hv
end
section
/- (Ki) A text that is laid out over lines: the plain mathematics. -/
/-- What is put for one byte of a code; whether a line must begin behind it, and the depth. -/
def outI (nl : Int → List Int) (v c : Int) (need : Bool) (d : Int) : List Int × Bool × Int :=
  let b := need && v != 5 && v != 8
  let n1 := if b then false else need
  let d1 := if b then d + 1 else d
  let pre := if b then nl (d + 1) else []
  if v = 0 then (pre ++ [c], n1, d1)
  else if c = 123 ∨ c = 91 then (pre ++ [c], true, d1)
  else if c = 44 then (pre ++ [c] ++ nl d1, n1, d1)
  else if c = 58 then (pre ++ [c, 32], n1, d1)
  else if c = 125 ∨ c = 93 then (if n1 then (pre ++ [c], false, d1) else (pre ++ nl (d1 - 1) ++ [c], n1, d1 - 1))
  else (pre ++ [c], n1, d1)
def indQ (nl : Int → List Int) : Sc → Bool → Int → List Int → List Int
  | _, _, _, [] => []
  | σ, need, d, c :: l => if (stepQ σ c).1 = 9 then indQ nl (stepQ σ c).2 need d l else (outI nl (stepQ σ c).1 c need d).1 ++ indQ nl (stepQ σ c).2 (outI nl (stepQ σ c).1 c need d).2.1 (outI nl (stepQ σ c).1 c need d).2.2 l
def indK (nl : Int → List Int) : Bool → Int → List (Int × Int) → List Int
  | _, _, [] => []
  | need, d, (v, c) :: l => (outI nl v c need d).1 ++ indK nl (outI nl v c need d).2.1 (outI nl v c need d).2.2 l
theorem ind_nine {nl : Int → List Int} {σ : Sc} {c : Int} (h : (stepQ σ c).1 = 9) (need : Bool) (d : Int) (l : List Int) : indQ nl σ need d (c :: l) = indQ nl (stepQ σ c).2 need d l := by rw [indQ, if_pos h]
theorem ind_else {nl : Int → List Int} {σ : Sc} {c : Int} (h : (stepQ σ c).1 ≠ 9) (need : Bool) (d : Int) (l : List Int) : indQ nl σ need d (c :: l) = (outI nl (stepQ σ c).1 c need d).1 ++ indQ nl (stepQ σ c).2 (outI nl (stepQ σ c).1 c need d).2.1 (outI nl (stepQ σ c).1 c need d).2.2 l := by rw [indQ, if_neg h]
/-- A bracket that opens has just been read. -/
def NewB (q : Sq) : Prop := q = .bvE ∨ q = .bsE
theorem newb_end {q : Sq} (h : NewB q) : ¬ EndL q := by
  rcases h with h | h <;> subst h <;> rintro (k | k | k | k | k | k) <;> cases k
/-- What a byte says of the state behind it. -/
structure After (c : Int) (r : Int × Sc) : Prop where
  five : r.1 = 5 → c = 125
  eight : r.1 = 8 → c = 93
  opn : r.1 ≠ 0 → (c = 123 ∨ c = 91) → NewB r.2.q
  new : NewB r.2.q → r.1 < 9 → r.1 ≠ 0 ∧ (c = 123 ∨ c = 91)
  com : r.1 ≠ 0 → (c = 44 ∨ c = 58) → r.2.q = .bv ∨ r.2.q = .bs
theorem pop_q (σ : Sc) (h : σ.stk ≠ []) : σ.pop.q = .et ∨ σ.pop.q = .ev := by
  obtain ⟨q, t, S, d⟩ := σ
  rcases S with _ | ⟨a, _ | ⟨b, r⟩⟩
  · exact absurd rfl h
  · exact .inl rfl
  · exact .inr rfl
theorem after_zero {c : Int} {τ : Sc} (h : ¬ NewB τ.q) : After c (0, τ) := ⟨fun h => (by cases h), fun h => (by cases h), fun h => absurd rfl h, fun k => absurd k h, fun h => absurd rfl h⟩
theorem after_ws {c k : Int} {τ : Sc} (hk : 9 ≤ k) (hw : isW c = true) : After c (k, τ) := by
  have hc : c ≠ 123 ∧ c ≠ 91 ∧ c ≠ 44 ∧ c ≠ 58 := by unfold isW at hw; simp at hw; omega
  exact ⟨fun h => (by simp at h; omega), fun h => (by simp at h; omega), fun _ h => (by omega), fun _ h => (by simp at h; omega), fun _ h => (by omega)⟩
theorem after_end {σ : Sc} {c : Int} (hg : Good (endQ σ c)) : After c (endQ σ c) := by
  by_cases hw : isW c = true
  · obtain ⟨_, _, _, h4, _⟩ := end_ws (σ := σ) hw
    generalize endQ σ c = r at h4 ⊢
    obtain ⟨k, τ⟩ := r
    exact after_ws (by dsimp only at h4; omega) hw
  · have hs : ∃ k r, σ.stk = k :: r := by
      cases h : σ.stk with
      | cons k r => exact ⟨k, r, rfl⟩
      | nil =>
        exfalso
        unfold endQ at hg
        rw [h] at hg
        exact hw (top_good hg)
    obtain ⟨k, r, hs⟩ := hs
    have hp := pop_q σ (by rw [hs]; simp)
    have hn : ¬ NewB σ.pop.q := by rcases hp with h | h <;> rw [h] <;> rintro (k | k) <;> cases k
    unfold endQ at hg ⊢
    rw [hs] at hg ⊢
    dsimp only at hg ⊢
    rw [if_neg hw] at hg ⊢
    have one : ∀ (x : Int) (v : Int) (τ : Sc), c = x → v ≠ 0 → (x = 58 ∧ v = 3 ∧ τ.q = .bv ∨ x = 44 ∧ v = 4 ∧ τ.q = .bs ∨ x = 44 ∧ v = 7 ∧ τ.q = .bv) → After c (v, τ) := fun x v τ hc hv h => by
      refine ⟨fun e => ?_, fun e => ?_, fun _ e => ?_, fun e _ => ?_, fun _ _ => ?_⟩
      · dsimp only at e; omega
      · dsimp only at e; omega
      · omega
      · rcases h with ⟨_, _, h⟩ | ⟨_, _, h⟩ | ⟨_, _, h⟩ <;> (unfold NewB at e; dsimp only at e; rw [h] at e; rcases e with e | e <;> cases e)
      · rcases h with ⟨_, _, h⟩ | ⟨_, _, h⟩ | ⟨_, _, h⟩
        · exact .inl h
        · exact .inr h
        · exact .inl h
    have two : ∀ (v : Int), (c = 125 ∧ v = 5 ∨ c = 93 ∧ v = 8) → After c (v, σ.pop) := fun v h =>
      ⟨fun e => (by dsimp only at e; omega), fun e => (by dsimp only at e; omega), fun _ e => (by omega), fun e => absurd e hn, fun _ e => (by omega)⟩
    by_cases k0 : k = 0
    · rw [if_pos k0] at hg ⊢
      by_cases h : c = 58
      · rw [if_pos h]; exact one 58 3 _ h (by decide) (.inl ⟨rfl, rfl, rfl⟩)
      · rw [if_neg h] at hg; exact absurd hg not_err
    rw [if_neg k0] at hg ⊢
    by_cases k1 : k = 1
    · rw [if_pos k1] at hg ⊢
      by_cases h : c = 44
      · rw [if_pos h]; exact one 44 4 _ h (by decide) (.inr (.inl ⟨rfl, rfl, rfl⟩))
      · rw [if_neg h] at hg ⊢
        by_cases h' : c = 125
        · rw [if_pos h']; exact two 5 (.inl ⟨h', rfl⟩)
        · rw [if_neg h'] at hg; exact absurd hg not_err
    rw [if_neg k1] at hg ⊢
    by_cases k2 : k = 2
    · rw [if_pos k2] at hg ⊢
      by_cases h : c = 44
      · rw [if_pos h]; exact one 44 7 _ h (by decide) (.inr (.inr ⟨rfl, rfl, rfl⟩))
      · rw [if_neg h] at hg ⊢
        by_cases h' : c = 93
        · rw [if_pos h']; exact two 8 (.inr ⟨h', rfl⟩)
        · rw [if_neg h'] at hg; exact absurd hg not_err
    rw [if_neg k2] at hg; exact absurd hg not_err
theorem after_bv {σ : Sc} {c : Int} (hg : Good (bvQ σ c)) : After c (bvQ σ c) := by
  unfold bvQ at hg ⊢
  by_cases hw : isW c = true
  · rw [if_pos hw]; exact after_ws (by decide) hw
  · rw [if_neg hw] at hg ⊢
    by_cases h1 : c = 123
    · rw [if_pos h1]
      exact ⟨fun e => (by cases e), fun e => (by cases e), fun _ _ => .inr rfl, fun _ _ => ⟨(by show (2 : Int) ≠ 0; decide), .inl h1⟩, fun _ e => (by omega)⟩
    rw [if_neg h1] at hg ⊢
    by_cases h2 : c = 91
    · rw [if_pos h2]
      exact ⟨fun e => (by cases e), fun e => (by cases e), fun _ _ => .inl rfl, fun _ _ => ⟨(by show (6 : Int) ≠ 0; decide), .inr h2⟩, fun _ e => (by omega)⟩
    rw [if_neg h2] at hg ⊢
    have one : ∀ q : Sq, ¬ NewB q → c ≠ 44 → c ≠ 58 → After c (σ.to 1 q) := fun q hq h3 h4 =>
      ⟨fun e => (by cases e), fun e => (by cases e), fun _ e => (by omega), fun e => absurd e hq, fun _ e => (by omega)⟩
    by_cases h34 : c = 34
    · rw [if_pos h34]; exact one .str (by rintro (k | k) <;> cases k) (by omega) (by omega)
    rw [if_neg h34] at hg ⊢
    by_cases h45 : c = 45
    · rw [if_pos h45]; exact one .neg (by rintro (k | k) <;> cases k) (by omega) (by omega)
    rw [if_neg h45] at hg ⊢
    by_cases h48 : c = 48
    · rw [if_pos h48]; exact one .s0 (by rintro (k | k) <;> cases k) (by omega) (by omega)
    rw [if_neg h48] at hg ⊢
    by_cases h116 : c = 116
    · rw [if_pos h116]; exact one .t1 (by rintro (k | k) <;> cases k) (by omega) (by omega)
    rw [if_neg h116] at hg ⊢
    by_cases h102 : c = 102
    · rw [if_pos h102]; exact one .f1 (by rintro (k | k) <;> cases k) (by omega) (by omega)
    rw [if_neg h102] at hg ⊢
    by_cases h110 : c = 110
    · rw [if_pos h110]; exact one .n1 (by rintro (k | k) <;> cases k) (by omega) (by omega)
    rw [if_neg h110] at hg ⊢
    by_cases h19 : (decide (49 ≤ c) && decide (c ≤ 57)) = true
    · rw [if_pos h19]
      have h19' : 49 ≤ c ∧ c ≤ 57 := by simpa using h19
      exact one .s1 (by rintro (k | k) <;> cases k) (by omega) (by omega)
    · rw [if_neg h19] at hg; exact absurd hg not_err
theorem after_bs {σ : Sc} {c : Int} (hg : Good (bsQ σ c)) : After c (bsQ σ c) := by
  unfold bsQ at hg ⊢
  by_cases hw : isW c = true
  · rw [if_pos hw]; exact after_ws (by decide) hw
  · rw [if_neg hw] at hg ⊢
    by_cases h : c = 34
    · rw [if_pos h]
      exact ⟨fun e => (by cases e), fun e => (by cases e), fun _ e => (by omega), fun e => (by rcases e with e | e <;> cases e), fun _ e => (by omega)⟩
    · rw [if_neg h] at hg; exact absurd hg not_err
theorem after_step {σ : Sc} {c : Int} (hi : Wl σ) (hg : Good (stepQ σ c)) : After c (stepQ σ c) := by
  have hE : ∀ {τ : Sc}, Good (endQ τ c) → After c (endQ τ c) := after_end
  obtain ⟨q, t, S, d⟩ := σ
  cases q
  case ev => exact hE hg
  case et =>
    have hw := top_good hg
    show After c (topQ _ c)
    unfold topQ
    rw [if_pos hw]; exact after_ws (by decide) hw
  case s0 =>
    change Good (s0Q _ c) at hg
    show After c (s0Q _ c)
    unfold s0Q at hg ⊢
    by_cases h1 : c = 46
    · rw [if_pos h1]; exact after_zero (by rintro (k | k) <;> cases k)
    rw [if_neg h1] at hg ⊢
    by_cases h2 : c = 101 ∨ c = 69
    · rw [if_pos h2]; exact after_zero (by rintro (k | k) <;> cases k)
    rw [if_neg h2] at hg ⊢
    exact hE hg
  case s1 =>
    change Good (s1Q _ c) at hg
    show After c (s1Q _ c)
    unfold s1Q s0Q at hg ⊢
    by_cases h0 : digB c = true
    · rw [if_pos h0]; exact after_zero (by rintro (k | k) <;> cases k)
    rw [if_neg h0] at hg ⊢
    by_cases h1 : c = 46
    · rw [if_pos h1]; exact after_zero (by rintro (k | k) <;> cases k)
    rw [if_neg h1] at hg ⊢
    by_cases h2 : c = 101 ∨ c = 69
    · rw [if_pos h2]; exact after_zero (by rintro (k | k) <;> cases k)
    rw [if_neg h2] at hg ⊢
    exact hE hg
  case dot0 =>
    change Good (dot0Q _ c) at hg
    show After c (dot0Q _ c)
    unfold dot0Q at hg ⊢
    by_cases h0 : digB c = true
    · rw [if_pos h0]; exact after_zero (by rintro (k | k) <;> cases k)
    rw [if_neg h0] at hg ⊢
    by_cases h2 : c = 101 ∨ c = 69
    · rw [if_pos h2]; exact after_zero (by rintro (k | k) <;> cases k)
    rw [if_neg h2] at hg ⊢
    exact hE hg
  case e0 =>
    change Good (e0Q _ c) at hg
    show After c (e0Q _ c)
    unfold e0Q at hg ⊢
    by_cases h0 : digB c = true
    · rw [if_pos h0]; exact after_zero (by rintro (k | k) <;> cases k)
    rw [if_neg h0] at hg ⊢
    exact hE hg
  case bv => exact after_bv hg
  case bs => exact after_bs hg
  case bvE =>
    change Good (bvEQ _ c) at hg
    show After c (bvEQ _ c)
    unfold bvEQ at hg ⊢
    by_cases hw : isW c = true
    · rw [if_pos hw]; exact after_ws (by decide) hw
    · rw [if_neg hw] at hg ⊢
      split
      · rename_i h; rw [if_pos h] at hg; exact hE hg
      · rename_i h; rw [if_neg h] at hg; exact after_bv hg
  case bsE =>
    change Good (bsEQ _ c) at hg
    show After c (bsEQ _ c)
    unfold bsEQ at hg ⊢
    by_cases hw : isW c = true
    · rw [if_pos hw]; exact after_ws (by decide) hw
    · rw [if_neg hw] at hg ⊢
      split
      · rename_i h; rw [if_pos h] at hg; exact hE hg
      · rename_i h; rw [if_neg h] at hg; exact after_bs hg
  all_goals
    generalize hr : stepQ _ c = r at hg ⊢
    simp only [stepQ, strQ, escQ, hexQ, negQ, dotQ, eeQ, esgQ, litQ] at hr
    repeat' split at hr
    all_goals
      subst hr
      first
        | exact absurd hg not_err
        | exact absurd rfl hg.1
        | exact after_zero (by rintro (k | k) <;> cases k)
/-- What is put for a byte: white space, the byte, white space. -/
theorem out_form (nl : Int → List Int) (hn : ∀ d, ∀ x ∈ nl d, isW x = true) (v c : Int) (need : Bool) (d : Int) : ∃ W1 W2 : List Int, (outI nl v c need d).1 = W1 ++ c :: W2 ∧ (∀ x ∈ W1, isW x = true) ∧ (∀ x ∈ W2, isW x = true) ∧
    (W2 ≠ [] → v ≠ 0 ∧ (c = 44 ∨ c = 58)) ∧ (v = 0 → need = false → W1 = []) := by
  have h0 : ∀ b : Bool, ∀ x ∈ (if b = true then nl (d + 1) else []), isW x = true := fun b => by cases b; simp; exact hn _
  have e0 : ∀ x ∈ ([] : List Int), isW x = true := fun x hx => by cases hx
  unfold outI
  dsimp only
  generalize hb : (need && v != 5 && v != 8) = b
  have hz : need = false → (if b = true then nl (d + 1) else []) = [] := fun h => by rw [← hb, h]; rfl
  have h1 := h0 b
  generalize (if b = true then nl (d + 1) else []) = P at h1 hz ⊢
  generalize (if b = true then false else need) = n1
  generalize (if b = true then d + 1 else d) = d1
  by_cases v0 : v = 0
  · rw [if_pos v0]; exact ⟨P, [], rfl, h1, e0, fun h => absurd rfl h, fun _ h => hz h⟩
  rw [if_neg v0]
  by_cases c1 : c = 123 ∨ c = 91
  · rw [if_pos c1]; exact ⟨P, [], rfl, h1, e0, fun h => absurd rfl h, fun _ h => hz h⟩
  rw [if_neg c1]
  by_cases c2 : c = 44
  · rw [if_pos c2]; exact ⟨P, _, by rw [List.append_assoc]; rfl, h1, hn _, fun _ => ⟨v0, .inl c2⟩, fun _ h => hz h⟩
  rw [if_neg c2]
  by_cases c3 : c = 58
  · rw [if_pos c3]; exact ⟨P, [32], rfl, h1, fun x hx => (by simp at hx; rw [hx]; rfl), fun _ => ⟨v0, .inr c3⟩, fun _ h => hz h⟩
  rw [if_neg c3]
  by_cases c4 : c = 125 ∨ c = 93
  · rw [if_pos c4]
    split
    · exact ⟨P, [], rfl, h1, e0, fun h => absurd rfl h, fun _ h => hz h⟩
    · refine ⟨P ++ nl _, [], rfl, fun x hx => ?_, e0, fun h => absurd rfl h, fun h => absurd h v0⟩
      rcases List.mem_append.1 hx with h | h
      · exact h1 x h
      · exact hn _ x h
  rw [if_neg c4]
  exact ⟨P, [], rfl, h1, e0, fun h => absurd rfl h, fun _ h => hz h⟩
/-- Behind a bracket that opens no byte goes on with a literal. -/
theorem newb_code {σ : Sc} (hq : NewB σ.q) (c : Int) : (stepQ σ c).1 ≠ 0 := by
  obtain ⟨q, t, S, d⟩ := σ
  have hV : (bvQ ⟨q, t, S, d⟩ c).1 ≠ 0 := by
    unfold bvQ
    repeat' split
    all_goals first | decide | simp [Sc.to, Sc.err]
  have hS : (bsQ ⟨q, t, S, d⟩ c).1 ≠ 0 := by
    unfold bsQ
    repeat' split
    all_goals first | decide | simp [Sc.to, Sc.err]
  have hE : ∀ τ : Sc, (endQ τ c).1 ≠ 0 := fun τ => by
    unfold endQ
    split
    · rw [topQ_code]; decide
    · repeat' split
      all_goals first | decide | simp [Sc.to, Sc.err]
  rcases hq with h | h
  all_goals (dsimp only at h; subst h)
  · show (bvEQ _ c).1 ≠ 0
    unfold bvEQ
    split
    · show (9 : Int) ≠ 0; decide
    · split
      · exact hE _
      · exact hV
  · show (bsEQ _ c).1 ≠ 0
    unfold bsEQ
    split
    · show (9 : Int) ≠ 0; decide
    · split
      · exact hE _
      · exact hS
/-- Whether a line must begin behind a byte. -/
theorem out_need (nl : Int → List Int) {σ : Sc} {c : Int} (hi : Wl σ) (hg : Good (stepQ σ c)) (h9 : (stepQ σ c).1 < 9) (need : Bool) (d : Int) (hn : need = true → NewB σ.q) : (outI nl (stepQ σ c).1 c need d).2.1 = true ↔ NewB (stepQ σ c).2.q := by
  have ha := after_step hi hg
  have b0 : need = true → (stepQ σ c).1 ≠ 0 := fun h => newb_code (hn h) c
  unfold outI
  dsimp only
  by_cases v0 : (stepQ σ c).1 = 0
  · rw [if_pos v0]
    have hf : need = false := by cases need; rfl; exact absurd v0 (b0 rfl)
    subst hf
    constructor
    · intro h; simp at h
    · intro h; exact absurd v0 (ha.new h h9).1
  rw [if_neg v0]
  by_cases c1 : c = 123 ∨ c = 91
  · rw [if_pos c1]; exact ⟨fun _ => ha.opn v0 c1, fun _ => rfl⟩
  rw [if_neg c1]
  have hno : ¬ NewB (stepQ σ c).2.q := fun h => c1 (ha.new h h9).2
  have five := ha.five
  have eight := ha.eight
  generalize (stepQ σ c).1 = v at *
  have h58 : v = 5 ∨ v = 8 → c = 125 ∨ c = 93 := fun h => by rcases h with h | h; exact .inl (five h); exact .inr (eight h)
  have hfin : ¬ (c = 125 ∨ c = 93) → (if (need && v != 5 && v != 8) = true then false else need) = false := fun h => by
    have : ¬ v = 5 ∧ ¬ v = 8 := ⟨fun e => h (h58 (.inl e)), fun e => h (h58 (.inr e))⟩
    cases need <;> simp [this]
  generalize (if (need && v != 5 && v != 8) = true then false else need) = n1 at hfin ⊢
  constructor
  · intro h
    exfalso
    by_cases c4 : c = 125 ∨ c = 93
    · have c2 : ¬ c = 44 := by omega
      have c3 : ¬ c = 58 := by omega
      rw [if_neg c2, if_neg c3, if_pos c4] at h
      cases n1
      · simp at h
      · simp at h
    · have := hfin c4
      rw [if_neg c4] at h
      split at h
      · rw [this] at h; cases h
      · split at h
        · rw [this] at h; cases h
        · rw [this] at h; cases h
  · intro h; exact absurd h hno
/-- How it depends on what counts alone. -/
theorem ind_K (nl : Int → List Int) : ∀ (l : List Int) (σ : Sc) (need : Bool) (d : Int), Wl σ → (need = true → NewB σ.q) → VQ σ l → indQ nl σ need d l = indK nl need d (K σ l) ++ trQ σ l
  | [], _, _, _, _, _, _ => rfl
  | c :: l, σ, need, d, hi, hn, hv => by
    obtain ⟨hg, hv⟩ := hv
    by_cases h9 : (stepQ σ c).1 < 9
    · have hne := out_need nl hi hg h9 need d hn
      rw [ind_else (by omega), K_lt h9, tr_lt (by omega), indK, ind_K nl l _ _ _ (hi.step hg) (fun h => hne.1 h) hv, List.append_assoc]
    · obtain ⟨hw, hcase⟩ := ws_step hi hg (by omega)
      by_cases e9 : (stepQ σ c).1 = 9
      · rw [ind_nine e9, K_ge (by omega), tr_lt (by omega)]
        refine ind_K nl l _ _ _ (hi.step hg) (fun h => ?_) hv
        rcases hcase with h1 | ⟨h1, _⟩
        · rw [h1.1]; exact hn h
        · exact absurd h1 (newb_end (hn h))
      · have e10 : (stepQ σ c).1 = 10 := by
          rcases hcase with h1 | ⟨_, h1⟩
          · omega
          · have := (end_ws (σ := σ) hw).2.2.2.1
            rw [h1] at e9 ⊢
            omega
        obtain ⟨_, t2, _, _, t5⟩ := ten_end hi hg e10
        have hf : need = false := by
          cases need
          · rfl
          · exact absurd t2 (newb_end (hn rfl))
        subst hf
        have ho : outI nl 10 c false d = ([c], false, d) := by
          have hc : c ≠ 123 ∧ c ≠ 91 ∧ c ≠ 44 ∧ c ≠ 58 ∧ c ≠ 125 ∧ c ≠ 93 := by unfold isW at hw; simp at hw; omega
          unfold outI
          simp [hc]
        rw [ind_else e9, e10, ho, K_ge (by omega), trQ, if_pos e10, ind_K nl l _ false d (hi.step hg) (fun h => by cases h) hv, et_rest l _ t5 hv]
        rfl
end
section
/- (Kj) A text that is laid out over lines has the same bytes that count; the white space at its end: the plain mathematics. -/
/-- How deep the brackets lie, at most. -/
def DepQ (N : Nat) : Sc → List Int → Prop
  | σ, [] => σ.stk.length ≤ N
  | σ, c :: l => σ.stk.length ≤ N ∧ DepQ N (stepQ σ c).2 l
theorem DepQ.here {N : Nat} {σ : Sc} {l : List Int} (h : DepQ N σ l) : σ.stk.length ≤ N := by
  cases l with
  | nil => exact h
  | cons c l => exact h.1
theorem dep_len (N : Nat) : ∀ (l : List Int) (σ : Sc), Inv σ → σ.stk.length + l.length ≤ N → DepQ N σ l
  | [], σ, _, h => by simpa [DepQ] using h
  | c :: l, σ, hi, h => by
    have ho := ok_step hi c
    have hl := ho.len
    simp at h
    exact ⟨by omega, dep_len N l _ ho.inv (by omega)⟩
theorem stay_ws {σ : Sc} (h : σ.q = .bv ∨ σ.q = .bvE ∨ σ.q = .bs ∨ σ.q = .bsE) {c : Int} (hw : isW c = true) : stepQ σ c = (9, σ) := by
  obtain ⟨q, t, S, d⟩ := σ
  rcases h with h | h | h | h
  all_goals (dsimp only at h; subst h)
  · show bvQ _ c = _; unfold bvQ; rw [if_pos hw]
  · show bvEQ _ c = _; unfold bvEQ; rw [if_pos hw]
  · show bsQ _ c = _; unfold bsQ; rw [if_pos hw]
  · show bsEQ _ c = _; unfold bsEQ; rw [if_pos hw]
/-- White space that is put in between. -/
theorem ws_ins (N : Nat) : ∀ (W : List Int) (τ : Sc), (∀ x ∈ W, isW x = true) → B10 τ.q → Wl τ → τ.stk.length ≤ N → ∃ τ1, Wl τ1 ∧ (τ1 = τ ∨ (τ1.stk = τ.stk ∧ EndL τ1.q ∧ EndL τ.q)) ∧
    ∀ x, (VQ τ (W ++ x) ↔ VQ τ1 x) ∧ K τ (W ++ x) = K τ1 x ∧ (DepQ N τ1 x → DepQ N τ (W ++ x))
  | [], τ, _, _, hi, _ => ⟨τ, hi, .inl rfl, fun x => ⟨Iff.rfl, rfl, id⟩⟩
  | c :: W, τ, hW, hb, hi, hN => by
    have hw := hW c (.head _)
    have hW' : ∀ x ∈ W, isW x = true := fun x hx => hW x (.tail _ hx)
    by_cases hs : τ.q = .bv ∨ τ.q = .bvE ∨ τ.q = .bs ∨ τ.q = .bsE
    · have e := stay_ws hs hw
      obtain ⟨τ1, h1, h2, h3⟩ := ws_ins N W τ hW' hb hi hN
      refine ⟨τ1, h1, h2, fun x => ?_⟩
      obtain ⟨g1, g2, g3⟩ := h3 x
      refine ⟨?_, ?_, fun h => ⟨hN, by rw [e]; exact g3 h⟩⟩
      · show (Good (stepQ τ c) ∧ VQ (stepQ τ c).2 (W ++ x)) ↔ _
        rw [e]
        exact ⟨fun h => g1.1 h.2, fun h => ⟨⟨by show (9 : Int) ≠ 11; decide, hi.bad⟩, g1.2 h⟩⟩
      · rw [List.cons_append, K_ge (by rw [e]; show (9 : Int) ≤ 9; decide), e]; exact g2
    · have hq : EndL τ.q := by
        rcases hb with h | h | h | h | h
        · exact absurd (.inl h) hs
        · exact absurd (.inr (.inl h)) hs
        · exact absurd (.inr (.inr (.inl h))) hs
        · exact absurd (.inr (.inr (.inr h))) hs
        · exact h
      have e := endl_pun hi hq (c := c) (.inl hw)
      obtain ⟨e1, e2, e3, e4, _⟩ := end_ws (σ := τ) hw
      have hg : Good (stepQ τ c) := by rw [e]; exact ⟨by omega, by rw [e3]; exact hi.bad⟩
      obtain ⟨τ1, h1, h2, h3⟩ := ws_ins N W (stepQ τ c).2 hW' (by rw [e]; exact .inr (.inr (.inr (.inr (evt_end e2))))) (hi.step hg) (by rw [e, e1]; exact hN)
      refine ⟨τ1, h1, .inr ?_, fun x => ?_⟩
      · rcases h2 with h2 | ⟨h2, h4, _⟩
        · rw [h2, e]; exact ⟨e1, evt_end e2, hq⟩
        · exact ⟨h2.trans (by rw [e, e1]), h4, hq⟩
      · obtain ⟨g1, g2, g3⟩ := h3 x
        refine ⟨⟨fun h => g1.1 h.2, fun h => ⟨hg, g1.2 h⟩⟩, ?_, fun h => ⟨hN, g3 h⟩⟩
        rw [List.cons_append, K_ge (by rw [e]; omega)]; exact g2
/-- Where a byte stands that is not within a literal. -/
theorem b10_of {σ : Sc} {c : Int} (hg : Good (stepQ σ c)) (h0 : (stepQ σ c).1 ≠ 0) : B10 σ.q := by
  obtain ⟨q, t, S, d⟩ := σ
  cases q
  case bv => exact .inl rfl
  case bvE => exact .inr (.inl rfl)
  case bs => exact .inr (.inr (.inl rfl))
  case bsE => exact .inr (.inr (.inr (.inl rfl)))
  case ev => exact .inr (.inr (.inr (.inr (.inl rfl))))
  case et => exact .inr (.inr (.inr (.inr (.inr (.inl rfl)))))
  case s0 => exact .inr (.inr (.inr (.inr (.inr (.inr (.inl rfl))))))
  case s1 => exact .inr (.inr (.inr (.inr (.inr (.inr (.inr (.inl rfl)))))))
  case dot0 => exact .inr (.inr (.inr (.inr (.inr (.inr (.inr (.inr (.inl rfl))))))))
  case e0 => exact .inr (.inr (.inr (.inr (.inr (.inr (.inr (.inr (.inr rfl))))))))
  all_goals
    exfalso
    generalize hr : stepQ _ c = r at hg h0
    simp only [stepQ, strQ, escQ, hexQ, negQ, dotQ, eeQ, esgQ, litQ] at hr
    repeat' split at hr
    all_goals
      subst hr
      first
        | exact absurd hg not_err
        | exact absurd rfl hg.1
        | exact absurd rfl h0
set_option maxHeartbeats 1000000 in
/-- A text that has been laid out over lines. -/
theorem ind_same (nl : Int → List Int) (hnl : ∀ d, ∀ x ∈ nl d, isW x = true) (N : Nat) : ∀ (l : List Int) (σ τ : Sc) (need : Bool) (d : Int), Wl σ → Wl τ → Rel σ τ → (need = true ↔ NewB σ.q) → VQ σ l → DepQ N σ l →
    VQ τ (indQ nl σ need d l) ∧ K τ (indQ nl σ need d l) = K σ l ∧ DepQ N τ (indQ nl σ need d l)
  | [], σ, τ, _, _, hi, ht, hr, _, hv, hd => by
    refine ⟨by show (eofQ τ).1 ≠ 11; rw [eof_rel hi ht hr]; exact hv, rfl, ?_⟩
    have : σ.stk = τ.stk := by rcases hr with rfl | h; rfl; exact h.1
    show τ.stk.length ≤ N
    rw [← this]; exact hd
  | c :: l, σ, τ, need, d, hi, ht, hr, hn, hv, hd => by
    obtain ⟨hg, hv⟩ := hv
    obtain ⟨hd0, hd⟩ := hd
    have hst : σ.stk = τ.stk := by rcases hr with rfl | h; rfl; exact h.1
    have hdt : τ.stk.length ≤ N := by rw [← hst]; exact hd0
    by_cases h9 : (stepQ σ c).1 < 9
    · have hne := out_need nl hi hg h9 need d (fun h => hn.1 h)
      obtain ⟨W1, W2, ho, hW1, hW2, hw2, hw1⟩ := out_form nl hnl (stepQ σ c).1 c need d
      obtain ⟨i1, i2, i3⟩ := ind_same nl hnl N l _ _ _ (outI nl (stepQ σ c).1 c need d).2.2 (hi.step hg) (hi.step hg) (.inl rfl) hne hv hd
      rw [ind_else (by omega), ho, List.append_assoc, List.cons_append]
      -- behind the byte
      have hX : VQ (stepQ σ c).2 (W2 ++ indQ nl (stepQ σ c).2 (outI nl (stepQ σ c).1 c need d).2.1 (outI nl (stepQ σ c).1 c need d).2.2 l) ∧ K (stepQ σ c).2 (W2 ++ indQ nl (stepQ σ c).2 (outI nl (stepQ σ c).1 c need d).2.1 (outI nl (stepQ σ c).1 c need d).2.2 l) = K (stepQ σ c).2 l ∧
          DepQ N (stepQ σ c).2 (W2 ++ indQ nl (stepQ σ c).2 (outI nl (stepQ σ c).1 c need d).2.1 (outI nl (stepQ σ c).1 c need d).2.2 l) := by
        by_cases hw : W2 = []
        · rw [hw]; exact ⟨i1, i2, i3⟩
        · obtain ⟨v0, hc⟩ := hw2 hw
          have hq := (after_step hi hg).com v0 hc
          obtain ⟨τ2, _, h2, h3⟩ := ws_ins N W2 _ hW2 (by rcases hq with h | h; exact .inl h; exact .inr (.inr (.inl h))) (hi.step hg) hd.here
          have e2 : τ2 = (stepQ σ c).2 := by
            rcases h2 with h2 | ⟨_, _, h4⟩
            · exact h2
            · exfalso
              rcases hq with h | h <;> rw [h] at h4 <;> rcases h4 with k | k | k | k | k | k <;> cases k
          obtain ⟨g1, g2, g3⟩ := h3 (indQ nl (stepQ σ c).2 (outI nl (stepQ σ c).1 c need d).2.1 (outI nl (stepQ σ c).1 c need d).2.2 l)
          rw [e2] at g1 g2 g3
          exact ⟨g1.2 i1, g2.trans i2, g3 i3⟩
      generalize (W2 ++ indQ nl (stepQ σ c).2 (outI nl (stepQ σ c).1 c need d).2.1 (outI nl (stepQ σ c).1 c need d).2.2 l) = X at hX ⊢
      by_cases v0 : (stepQ σ c).1 = 0
      · have hf : need = false := by
          cases need
          · rfl
          · exact absurd v0 (newb_code (hn.1 rfl) c)
        rw [hw1 v0 hf]
        have e := step_rel hi ht hr hg
        exact ⟨⟨by rw [e]; exact hg, by rw [e]; exact hX.1⟩, by rw [List.nil_append, K_lt (by rw [e]; exact h9), K_lt h9, e, hX.2.1], ⟨hdt, by rw [e]; exact hX.2.2⟩⟩
      · have hb := b10_of hg v0
        have hbt : B10 τ.q := by
          rcases hr with rfl | ⟨_, _, h⟩
          · exact hb
          · exact .inr (.inr (.inr (.inr h)))
        obtain ⟨τ1, k1, k2, k3⟩ := ws_ins N W1 τ hW1 hbt ht hdt
        have e : stepQ τ1 c = stepQ σ c := by
          refine two_step hi k1 ?_ hg v0
          rcases hr with rfl | ⟨r1, r2, r3⟩
          · rcases k2 with rfl | ⟨a1, a2, a3⟩
            · exact .inl rfl
            · exact .inr ⟨a1.symm, a3, a2⟩
          · rcases k2 with rfl | ⟨a1, a2, a3⟩
            · exact .inr ⟨r1, evt_end r2, r3⟩
            · exact .inr ⟨r1.trans a1.symm, evt_end r2, a2⟩
        obtain ⟨g1, g2, g3⟩ := k3 (c :: X)
        have hst1 : τ1.stk.length ≤ N := by
          rcases k2 with rfl | ⟨a1, _, _⟩
          · exact hdt
          · rw [a1]; exact hdt
        exact ⟨g1.2 ⟨by rw [e]; exact hg, by rw [e]; exact hX.1⟩, by rw [g2, K_lt (by rw [e]; exact h9), K_lt h9, e, hX.2.1], g3 ⟨hst1, by rw [e]; exact hX.2.2⟩⟩
    · obtain ⟨hw, hr'⟩ := ws_rel hi hr hg (by omega)
      obtain ⟨_, hcase⟩ := ws_step hi hg (by omega)
      by_cases e9 : (stepQ σ c).1 = 9
      · rw [ind_nine e9, K_ge (by omega)]
        refine ind_same nl hnl N l _ _ _ _ (hi.step hg) ht hr' ?_ hv hd
        rcases hcase with h1 | ⟨h1, h2⟩
        · rw [h1.1]; exact hn
        · have hq := (end_ws (σ := σ) hw).2.1
          rw [h2]
          constructor
          · intro h; exact absurd h1 (newb_end (hn.1 h))
          · intro h; exact absurd (evt_end hq) (newb_end h)
      · have e10 : (stepQ σ c).1 = 10 := by
          rcases hcase with h1 | ⟨_, h1⟩
          · omega
          · have := (end_ws (σ := σ) hw).2.2.2.1
            rw [h1] at e9 ⊢
            omega
        obtain ⟨_, t2, t3, t4, t5⟩ := ten_end hi hg e10
        have hf : need = false := by
          cases need
          · rfl
          · exact absurd t2 (newb_end (hn.1 rfl))
        subst hf
        have ho : outI nl 10 c false d = ([c], false, d) := by
          have hc : c ≠ 123 ∧ c ≠ 91 ∧ c ≠ 44 ∧ c ≠ 58 ∧ c ≠ 125 ∧ c ≠ 93 := by unfold isW at hw; simp at hw; omega
          unfold outI
          simp [hc]
        have tq : EndL τ.q := by
          rcases hr with rfl | h
          · exact t2
          · exact h.2.2
        have e : stepQ τ c = stepQ σ c := by rw [t4, endl_pun ht tq (.inl hw), hi.end_eq ht hst]
        have hnn : (false = true ↔ NewB (stepQ σ c).2.q) := by
          rw [t5]
          exact ⟨fun h => (by cases h), fun h => (by rcases h with h | h <;> cases h)⟩
        obtain ⟨i1, i2, i3⟩ := ind_same nl hnl N l _ _ false d (hi.step hg) (hi.step hg) (.inl rfl) hnn hv hd
        rw [ind_else e9, e10, ho]
        refine ⟨⟨by rw [e]; exact hg, by rw [e]; exact i1⟩, ?_, ⟨hdt, by rw [e]; exact i3⟩⟩
        show K τ (c :: indQ nl (stepQ σ c).2 false d l) = _
        rw [K_ge (by rw [e]; omega), K_ge (by omega), e, i2]
/-- Behind white space that does not stand behind the value, more must come. -/
theorem ws_more {σ : Sc} (hi : Wl σ) {c : Int} (hg : Good (stepQ σ c)) (hw : isW c = true) (h10 : (stepQ σ c).1 ≠ 10) : ¬ (EndL (stepQ σ c).2.q ∧ (stepQ σ c).2.stk = []) := by
  rintro ⟨k1, k2⟩
  by_cases h9 : 9 ≤ (stepQ σ c).1
  · obtain ⟨_, h1 | ⟨h1, h2⟩⟩ := ws_step hi hg h9
    · rw [h1.1] at k1 k2
      have e := endl_pun hi k1 (c := c) (.inl hw)
      apply h10
      rw [e]
      unfold endQ
      rw [k2]
      exact topQ_code _ _
    · obtain ⟨e1, _⟩ := end_ws (σ := σ) hw
      rw [h2, e1] at k2
      apply h10
      rw [h2]
      unfold endQ
      rw [k2]
      exact topQ_code _ _
  · have hb : ¬ B10 σ.q := fun hb => by
      by_cases hs : σ.q = .bv ∨ σ.q = .bvE ∨ σ.q = .bs ∨ σ.q = .bsE
      · have e := stay_ws hs hw
        rw [e] at h9
        exact h9 (Int.le_refl _)
      · have hq : EndL σ.q := by
          rcases hb with h | h | h | h | h
          · exact absurd (.inl h) hs
          · exact absurd (.inr (.inl h)) hs
          · exact absurd (.inr (.inr (.inl h))) hs
          · exact absurd (.inr (.inr (.inr h))) hs
          · exact h
        have e := endl_pun hi hq (c := c) (.inl hw)
        have := (end_ws (σ := σ) hw).2.2.2.1
        rw [e] at h9
        omega
    have h0 : (stepQ σ c).1 = 0 := by
      by_cases h0 : (stepQ σ c).1 = 0
      · exact h0
      · exact absurd (b10_of hg h0) hb
    have hc : c = 32 ∨ c = 9 ∨ c = 13 ∨ c = 10 := by unfold isW at hw; simp at hw; omega
    obtain ⟨q, t, S, d⟩ := σ
    cases q
    case bv => exact hb (.inl rfl)
    case bvE => exact hb (.inr (.inl rfl))
    case bs => exact hb (.inr (.inr (.inl rfl)))
    case bsE => exact hb (.inr (.inr (.inr (.inl rfl))))
    case ev => exact hb (.inr (.inr (.inr (.inr (.inl rfl)))))
    case et => exact hb (.inr (.inr (.inr (.inr (.inr (.inl rfl))))))
    case s0 => exact hb (.inr (.inr (.inr (.inr (.inr (.inr (.inl rfl)))))))
    case s1 => exact hb (.inr (.inr (.inr (.inr (.inr (.inr (.inr (.inl rfl))))))))
    case dot0 => exact hb (.inr (.inr (.inr (.inr (.inr (.inr (.inr (.inr (.inl rfl)))))))))
    case e0 => exact hb (.inr (.inr (.inr (.inr (.inr (.inr (.inr (.inr (.inr rfl)))))))))
    case str =>
      change EndL (strQ _ c).2.q at k1
      have e : strQ ⟨.str, t, S, d⟩ c = Sc.err ⟨.str, t, S, d⟩ ∨ (strQ ⟨.str, t, S, d⟩ c).2.q = .str := by
        unfold strQ
        rw [if_neg (by omega), if_neg (by omega)]
        split
        · exact .inl rfl
        · exact .inr rfl
      rcases e with e | e
      · change Good (strQ _ c) at hg
        rw [e] at hg
        exact not_err hg
      · rw [e] at k1
        rcases k1 with k | k | k | k | k | k <;> cases k
    all_goals
      exfalso
      generalize hr : stepQ _ c = r at hg h0 k1
      simp only [stepQ, escQ, hexQ, negQ, dotQ, eeQ, esgQ, litQ, hexB, digB] at hr
      rcases hc with rfl | rfl | rfl | rfl
      all_goals
        try simp at hr
        subst hr
        first
          | exact absurd hg not_err
          | exact absurd rfl hg.1
/-- The white space at the end of a text is what stands behind its value. -/
theorem tr_spec : ∀ (l : List Int) (σ : Sc), Wl σ → VQ σ l → ∃ l0, l = l0 ++ trQ σ l ∧ (∀ x ∈ trQ σ l, isW x = true) ∧ (l0 = [] ∨ ∃ a b, l0 = a ++ [b] ∧ isW b = false) ∧ (l0 = [] → EndL σ.q ∧ σ.stk = [])
  | [], σ, hi, hv => ⟨[], rfl, fun x hx => (by cases hx), .inl rfl, fun _ => eof_of hi hv⟩
  | c :: l, σ, hi, hv => by
    obtain ⟨hg, hv⟩ := hv
    obtain ⟨l0, h1, h2, h3, h4⟩ := tr_spec l _ (hi.step hg) hv
    by_cases h10 : (stepQ σ c).1 = 10
    · obtain ⟨t1, t2, t3, t4, t5⟩ := ten_end hi hg h10
      have hl : l0 = [] := by
        rcases h3 with h | ⟨a, b, e, hb⟩
        · exact h
        · exfalso
          -- behind white space at the end there is white space alone
          have key : ∀ (l : List Int) (τ : Sc), τ.q = .et → VQ τ l → ∀ x ∈ l, isW x = true := fun l => by
            induction l with
            | nil => intro _ _ _ x hx; cases hx
            | cons y l ih =>
              intro τ hq hv x hx
              obtain ⟨hg, hv⟩ := hv
              have e : stepQ τ y = topQ τ y := by unfold stepQ; rw [hq]
              rw [e] at hg hv
              have hw := top_good hg
              have e2 : topQ τ y = (10, τ) := by unfold topQ; rw [if_pos hw]
              rw [e2] at hv
              rcases List.mem_cons.1 hx with rfl | hx
              · exact hw
              · exact ih τ hq hv x hx
          have := key l _ t5 hv b (by rw [h1, e]; simp)
          rw [hb] at this; cases this
      rw [trQ, if_pos h10]
      refine ⟨[], ?_, fun x hx => ?_, .inl rfl, fun _ => ⟨t2, t3⟩⟩
      · rw [hl] at h1; rw [List.nil_append]; congr 1
      · rcases List.mem_cons.1 hx with rfl | hx
        · exact t1
        · exact h2 x hx
    · rw [tr_lt h10]
      refine ⟨c :: l0, by rw [List.cons_append, ← h1], h2, .inr ?_, fun h => by cases h⟩
      rcases h3 with h | ⟨a, b, e, hb⟩
      · refine ⟨[], c, by rw [h]; rfl, ?_⟩
        cases hw : isW c
        · rfl
        · exact absurd (h4 h) (ws_more hi hg hw h10)
      · exact ⟨c :: a, b, by rw [e]; rfl, hb⟩
theorem K_ne {l : List Int} (h : VQ sc0 l) : K sc0 l ≠ [] := by
  have key : ∀ (l : List Int) (σ : Sc), σ.q = .bv → Wl σ → VQ σ l → K σ l ≠ [] := fun l => by
    induction l with
    | nil =>
      intro σ hq hi hv hk
      have := (eof_of hi hv).1
      rw [hq] at this
      rcases this with k | k | k | k | k | k <;> cases k
    | cons c l ih =>
      intro σ hq hi hv
      obtain ⟨hg, hv⟩ := hv
      by_cases h9 : (stepQ σ c).1 < 9
      · rw [K_lt h9]; simp
      · obtain ⟨hw, _⟩ := ws_step hi hg (by omega)
        have e := stay_ws (.inl hq) hw
        rw [K_ge (by omega)]
        rw [e] at hv ⊢
        exact ih σ hq hi hv
  exact key l sc0 rfl wl0 h
/-- Made compact behind its layout, laid out behind being made compact. -/
theorem back_all (nl : Int → List Int) (hnl : ∀ d, ∀ x ∈ nl d, isW x = true) (N : Nat) {l : List Int} (hv : validQ sc0 l = true) (hd : DepQ N sc0 l) :
    validQ sc0 (cmpQ sc0 l) = true ∧ validQ sc0 (indQ nl sc0 false 0 l) = true ∧ DepQ N sc0 (indQ nl sc0 false 0 l) ∧ cmpQ sc0 (indQ nl sc0 false 0 l) = cmpQ sc0 l ∧
    indQ nl sc0 false 0 (cmpQ sc0 l) ++ trQ sc0 l = indQ nl sc0 false 0 l ∧ cmpQ sc0 l ≠ [] := by
  have hV := vq_of l sc0 rfl hv
  obtain ⟨a1, a2, a3⟩ := cmp_same l sc0 sc0 wl0 wl0 (.inl rfl) hV
  have hn0 : (false = true ↔ NewB sc0.q) := ⟨fun h => (by cases h), fun h => (by rcases h with h | h <;> cases h)⟩
  obtain ⟨b1, b2, b3⟩ := ind_same nl hnl N l sc0 sc0 false 0 wl0 wl0 (.inl rfl) hn0 hV hd
  refine ⟨of_vq _ _ a1, of_vq _ _ b1, b3, ?_, ?_, ?_⟩
  · show (K sc0 (indQ nl sc0 false 0 l)).map Prod.snd = _
    rw [b2]; rfl
  · rw [ind_K nl _ sc0 false 0 wl0 (fun h => by cases h) a1, ind_K nl l sc0 false 0 wl0 (fun h => by cases h) hV, a2, a3, List.append_nil]
  · intro h
    unfold cmpQ at h
    exact K_ne hV (by simpa using h)
end
end Go.Proofs.YtjbffgjclnjkoaaGreatDoor
