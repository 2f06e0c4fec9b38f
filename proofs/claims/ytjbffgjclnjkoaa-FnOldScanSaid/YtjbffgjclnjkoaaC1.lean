/- Joined texts: Cs, Ct, Cx, Cy, Cz. -/
import Derived.Test.YtjbffgjclnjkoaaG1
import Derived.Test.YtjbffgjclnjkoaaZs
namespace Go.Proofs.Ytjbffgjclnjkoaa
set_option linter.unusedVariables false
set_option linter.unusedSimpArgs false
section
/- (Cs) The reference's own scanner goes with that of encoding/json: the plain mathematics. -/
/-- The reference's scanner: what is open (innermost first), what the last byte stands in, whether anything has begun. -/
structure Sp where
  opn : List Int
  st : Int
  bg : Bool
def belB (c : Int) : Bool := (decide (48 ≤ c) && decide (c ≤ 57)) || (decide (97 ≤ c) && decide (c ≤ 122)) || c == 69 || c == 46 || c == 43 || c == 45
def innS (p : Sp) (c : Int) : Bool × Sp :=
  if p.st = 3 then (true, { p with st := 2 })
  else if p.st = 2 then (true, { p with st := if c = 34 then 0 else if c = 92 then 3 else 2 })
  else if p.st = 1 ∧ belB c = true then (true, p)
  else (false, { p with st := 0 })
def outS (p : Sp) (c : Int) : Int × Sp :=
  if isSp c = true then (if p.bg = true ∧ p.opn = [] then 10 else 9, p)
  else if c = 123 then (2, ⟨123 :: p.opn, 0, true⟩)
  else if c = 91 then (6, ⟨91 :: p.opn, 0, true⟩)
  else if c = 125 then (5, ⟨p.opn.tail, 0, true⟩)
  else if c = 93 then (8, ⟨p.opn.tail, 0, true⟩)
  else if c = 58 then (3, ⟨p.opn, 0, true⟩)
  else if c = 44 then (if p.opn.head? = some 123 then 4 else 7, ⟨p.opn, 0, true⟩)
  else if c = 34 then (1, ⟨p.opn, 2, true⟩)
  else (1, ⟨p.opn, 1, true⟩)
def stepS (p : Sp) (c : Int) : Int × Sp := if (innS p c).1 = true then (0, (innS p c).2) else outS (innS p c).2 c
def kindQ (k : Int) : Int := if k = 2 then 91 else 123
def SimQ : Sq → Int → Prop
  | .bv, t | .bvE, t | .bsE, t | .bs, t | .et, t => t = 0
  | .ev, t => t = 0 ∨ t = 1
  | .str, t | .u0, t | .u1, t | .u2, t | .u3, t => t = 2
  | .esc, t => t = 3
  | .er, _ => False
  | _, t => t = 1
structure Sim (p : Sp) (A : Sc) : Prop where
  opn : p.opn = A.stk.map kindQ
  ks : ∀ k ∈ A.stk, k = 0 ∨ k = 1 ∨ k = 2
  st : SimQ A.q p.st
  bg : p.bg = true ↔ ¬ (A.q = .bv ∧ A.stk = [])
  ne : (A.q = .bvE ∨ A.q = .bsE ∨ A.q = .bs) → A.stk ≠ []
  et : A.q = .et → A.stk = []
  bad : A.bad = false
theorem isSp_of {c : Int} (h : isW c = true) : isSp c = true := by rw [← isW_sp]; exact h
theorem isSp_not {c : Int} (h : ¬ isW c = true) : isSp c = false := by rw [← isW_sp]; simpa using h
theorem sim_pop {A : Sc} {k : Int} {r : List Int} (hb : A.bad = false) (hk : A.stk = k :: r) (hks : ∀ k ∈ A.stk, k = 0 ∨ k = 1 ∨ k = 2) : Sim ⟨r.map kindQ, 0, true⟩ A.pop := by
  obtain ⟨q, t, S, d⟩ := A
  dsimp only at hb hk hks
  subst hb hk
  cases r with
  | nil => exact ⟨rfl, fun k hk => (by cases hk), rfl, ⟨fun _ h => (by cases h.1), fun _ => rfl⟩, fun h => (by rcases h with h | h | h <;> cases h), fun _ => rfl, rfl⟩
  | cons x r => exact ⟨rfl, fun k hk => hks k (List.mem_cons_of_mem _ hk), .inl rfl, ⟨fun _ h => (by cases h.1), fun _ => rfl⟩, fun h => (by rcases h with h | h | h <;> cases h), fun h => (by cases h), rfl⟩
/-- Behind a value's end. -/
theorem sim_end {p : Sp} {A : Sc} {c : Int} (ho : p.opn = A.stk.map kindQ) (hks : ∀ k ∈ A.stk, k = 0 ∨ k = 1 ∨ k = 2) (hbg : p.bg = true) (hb : A.bad = false) (hg : Good (endQ A c)) :
    (outS { p with st := 0 } c).1 = (endQ A c).1 ∧ Sim (outS { p with st := 0 } c).2 (endQ A c).2 ∧ belB c = false ∧ ((c = 125 ∨ c = 93 ∨ c = 44) → p.opn ≠ []) := by
  obtain ⟨opn, st, bg⟩ := p
  obtain ⟨q, t, S, d⟩ := A
  dsimp only at ho hks hbg hb
  subst ho hbg hb
  have bsp : ∀ {c : Int}, isW c = true → belB c = false := fun {c} h => by
    unfold isW at h
    unfold belB
    simp at h ⊢
    omega
  cases S with
  | nil =>
    have e : endQ ⟨q, t, [], false⟩ c = topQ ⟨.et, true, [], false⟩ c := rfl
    rw [e] at hg ⊢
    unfold topQ at hg ⊢
    by_cases hw : isW c = true
    · rw [if_pos hw]
      unfold outS
      rw [if_pos (isSp_of hw)]
      refine ⟨by simp, ⟨rfl, fun k hk => (by cases hk), rfl, ⟨fun _ h => (by cases h.1), fun _ => rfl⟩, fun h => (by rcases h with h | h | h <;> cases h), fun _ => rfl, rfl⟩, bsp hw, fun h => ?_⟩
      exfalso
      rcases h with rfl | rfl | rfl <;> cases hw
    · rw [if_neg hw] at hg
      exact absurd hg.2 (by simp [Sc.err])
  | cons k r =>
    unfold endQ at hg ⊢
    dsimp only at hg ⊢
    by_cases hw : isW c = true
    · rw [if_pos hw] at hg ⊢
      unfold outS
      rw [if_pos (isSp_of hw)]
      refine ⟨by simp [Sc.to], ⟨rfl, hks, .inl rfl, ⟨fun _ h => (by cases h.1), fun _ => rfl⟩, fun h => (by rcases h with h | h | h <;> cases h), fun h => (by cases h), rfl⟩, bsp hw, fun h => ?_⟩
      simp
    · rw [if_neg hw] at hg ⊢
      have hs := isSp_not hw
      have hk := hks k (by simp)
      have hr : ∀ x ∈ r, x = 0 ∨ x = 1 ∨ x = 2 := fun x hx => hks x (by simp [hx])
      rcases hk with rfl | rfl | rfl
      · rw [if_pos rfl] at hg ⊢
        by_cases h58 : c = 58
        · subst h58
          refine ⟨rfl, ⟨rfl, fun x hx => ?_, rfl, ⟨fun _ h => (by cases h.2), fun _ => rfl⟩, fun h => (by rcases h with h | h | h <;> cases h), fun h => (by cases h), rfl⟩, rfl, fun _ => (by simp)⟩
          rcases List.mem_cons.1 hx with rfl | h
          · exact .inr (.inl rfl)
          · exact hr x h
        · rw [if_neg h58] at hg
          exact absurd hg not_err
      · rw [if_neg (by decide), if_pos rfl] at hg ⊢
        by_cases h44 : c = 44
        · subst h44
          refine ⟨rfl, ⟨rfl, fun x hx => ?_, rfl, ⟨fun _ h => (by cases h.1), fun _ => rfl⟩, fun _ => (by simp), fun h => (by cases h), rfl⟩, rfl, fun _ => (by simp)⟩
          rcases List.mem_cons.1 hx with rfl | h
          · exact .inl rfl
          · exact hr x h
        · rw [if_neg h44] at hg ⊢
          by_cases h125 : c = 125
          · subst h125
            exact ⟨rfl, sim_pop rfl rfl hks, rfl, fun _ => (by simp)⟩
          · rw [if_neg h125] at hg
            exact absurd hg not_err
      · rw [if_neg (by decide), if_neg (by decide), if_pos rfl] at hg ⊢
        by_cases h44 : c = 44
        · subst h44
          exact ⟨rfl, ⟨rfl, hks, rfl, ⟨fun _ h => (by cases h.2), fun _ => rfl⟩, fun h => (by rcases h with h | h | h <;> cases h), fun h => (by cases h), rfl⟩, rfl, fun _ => (by simp)⟩
        · rw [if_neg h44] at hg ⊢
          by_cases h93 : c = 93
          · subst h93
            exact ⟨rfl, sim_pop rfl rfl hks, rfl, fun _ => (by simp)⟩
          · rw [if_neg h93] at hg
            exact absurd hg not_err
theorem sim_id {p : Sp} {A : Sc} {q : Sq} {t : Int} (h : Sim p A) (hq : A.q ≠ .bv ∨ A.stk ≠ []) (hs : SimQ q t) (h1 : q ≠ .bv) (h2 : q ≠ .bvE) (h3 : q ≠ .bsE) (h4 : q ≠ .bs) (h5 : q ≠ .et) : Sim { p with st := t } { A with q := q } :=
  ⟨h.opn, h.ks, hs, ⟨fun _ k => h1 k.1, fun _ => h.bg.2 fun k => hq.elim (fun e => e k.1) (fun e => e k.2)⟩, fun k => (by rcases k with k | k | k; exact absurd k h2; exact absurd k h3; exact absurd k h4), fun k => absurd k h5, h.bad⟩
theorem inn_in {p : Sp} {c : Int} (h : p.st = 1) (hb : belB c = true) : innS p c = (true, p) := by
  unfold innS
  rw [if_neg (by omega), if_neg (by omega), if_pos ⟨h, hb⟩]
theorem inn_out {p : Sp} {c : Int} (h : p.st = 0 ∨ p.st = 1 ∧ belB c = false) : innS p c = (false, { p with st := 0 }) := by
  unfold innS
  rw [if_neg (by omega), if_neg (by omega), if_neg (fun k => by rcases h with h | h; omega; rw [h.2] at k; exact absurd k.2 (by decide))]
/-- A byte that ends a value. -/
theorem step_end {p : Sp} {A : Sc} {c : Int} (h : Sim p A) (hst : p.st = 0 ∨ p.st = 1) (hq : A.q ≠ .bv) (hg : Good (endQ A c)) :
    (stepS p c).1 = (endQ A c).1 ∧ Sim (stepS p c).2 (endQ A c).2 ∧ ((innS p c).1 = false → (c = 125 ∨ c = 93 ∨ c = 44) → p.opn ≠ []) := by
  obtain ⟨h1, h2, h3, h4⟩ := sim_end h.opn h.ks (h.bg.2 fun k => hq k.1) h.bad hg
  have hi := inn_out (p := p) (c := c) (by rcases hst with e | e; exact .inl e; exact .inr ⟨e, h3⟩)
  unfold stepS
  rw [hi, if_neg (by simp)]
  exact ⟨h1, h2, fun _ => h4⟩
theorem step_in {p : Sp} {A : Sc} {c : Int} {q : Sq} (h : Sim p A) (hst : p.st = 1) (hb : belB c = true) (hq : A.q ≠ .bv) (hs : SimQ q 1) (h1 : q ≠ .bv) (h2 : q ≠ .bvE) (h3 : q ≠ .bsE) (h4 : q ≠ .bs) (h5 : q ≠ .et) :
    (stepS p c).1 = (A.to 0 q).1 ∧ Sim (stepS p c).2 (A.to 0 q).2 ∧ ((innS p c).1 = false → (c = 125 ∨ c = 93 ∨ c = 44) → p.opn ≠ []) := by
  unfold stepS
  rw [inn_in hst hb, if_pos rfl]
  refine ⟨rfl, ?_, fun e => by cases e⟩
  have := sim_id (t := 1) h (.inl hq) hs h1 h2 h3 h4 h5
  rw [← hst] at this
  exact this
/-- The beginning of a value. -/
theorem step_bv {p : Sp} {A : Sc} {c : Int} (h : Sim p A) (hq : A.q = .bv ∨ A.q = .bvE) (hg : Good (bvQ A c)) :
    (stepS p c).1 = (bvQ A c).1 ∧ Sim (stepS p c).2 (bvQ A c).2 ∧ ((innS p c).1 = false → (c = 125 ∨ c = 93 ∨ c = 44) → p.opn ≠ []) := by
  have hst : p.st = 0 := by have := h.st; rcases hq with e | e <;> rw [e] at this <;> exact this
  have hi := inn_out (p := p) (c := c) (.inl hst)
  have hp : ({ p with st := 0 } : Sp) = p := by obtain ⟨a, b, d⟩ := p; dsimp only at hst; subst hst; rfl
  rw [hp] at hi
  have hop := h.opn
  have hns : ¬ (p.bg = true ∧ p.opn = []) := fun k => by
    have hb := h.bg.1 k.1
    have hs : A.stk = [] := by rw [hop] at k; simpa using k.2
    rcases hq with e | e
    · exact hb ⟨e, hs⟩
    · exact h.ne (.inl e) hs
  have sim1 : ∀ (q : Sq) (t : Int), SimQ q t → q ≠ .bv → q ≠ .bvE → q ≠ .bsE → q ≠ .bs → q ≠ .et → Sim ⟨p.opn, t, true⟩ { A with q := q } := fun q t hs h1 h2 h3 h4 h5 =>
    ⟨hop, h.ks, hs, ⟨fun _ k => h1 k.1, fun _ => rfl⟩, fun k => (by rcases k with k | k | k; exact absurd k h2; exact absurd k h3; exact absurd k h4), fun k => absurd k h5, h.bad⟩
  unfold stepS
  rw [hi, if_neg (by simp)]
  show (outS p c).1 = _ ∧ Sim (outS p c).2 _ ∧ (false = false → _)
  unfold bvQ at hg ⊢
  unfold outS
  by_cases hw : isW c = true
  · rw [if_pos hw] at hg ⊢
    rw [if_pos (isSp_of hw), if_neg hns]
    refine ⟨rfl, h, fun _ k => ?_⟩
    exfalso
    rcases k with rfl | rfl | rfl <;> cases hw
  rw [if_neg hw] at hg ⊢
  rw [if_neg (by rw [isSp_not hw]; decide)]
  by_cases c123 : c = 123
  · subst c123
    refine ⟨rfl, ⟨by rw [hop]; rfl, fun k hk => ?_, rfl, ⟨fun _ k => (by cases k.1), fun _ => rfl⟩, fun _ => (by simp [Sc.pushed]), fun k => (by cases k), h.bad⟩, fun _ k => (by omega)⟩
    rcases List.mem_cons.1 hk with rfl | hk
    · exact .inl rfl
    · exact h.ks k hk
  rw [if_neg c123] at hg ⊢
  rw [if_neg c123]
  by_cases c91 : c = 91
  · subst c91
    refine ⟨rfl, ⟨by rw [hop]; rfl, fun k hk => ?_, rfl, ⟨fun _ k => (by cases k.1), fun _ => rfl⟩, fun _ => (by simp [Sc.pushed]), fun k => (by cases k), h.bad⟩, fun _ k => (by omega)⟩
    rcases List.mem_cons.1 hk with rfl | hk
    · exact .inr (.inr rfl)
    · exact h.ks k hk
  rw [if_neg c91] at hg ⊢
  rw [if_neg c91]
  have rest : ∀ (q : Sq), SimQ q 1 → q ≠ .bv → q ≠ .bvE → q ≠ .bsE → q ≠ .bs → q ≠ .et → c ≠ 125 → c ≠ 93 → c ≠ 58 → c ≠ 44 → c ≠ 34 →
      (if c = 125 then ((5, ⟨p.opn.tail, 0, true⟩) : Int × Sp) else if c = 93 then (8, ⟨p.opn.tail, 0, true⟩) else if c = 58 then (3, ⟨p.opn, 0, true⟩) else if c = 44 then (if p.opn.head? = some 123 then 4 else 7, ⟨p.opn, 0, true⟩) else (1, ⟨p.opn, 1, true⟩)).1 = (A.to 1 q).1 ∧
      Sim (if c = 125 then ((5, ⟨p.opn.tail, 0, true⟩) : Int × Sp) else if c = 93 then (8, ⟨p.opn.tail, 0, true⟩) else if c = 58 then (3, ⟨p.opn, 0, true⟩) else if c = 44 then (if p.opn.head? = some 123 then 4 else 7, ⟨p.opn, 0, true⟩) else (1, ⟨p.opn, 1, true⟩)).2 (A.to 1 q).2 ∧
      ((false = false) → (c = 125 ∨ c = 93 ∨ c = 44) → p.opn ≠ []) := by
    intro q hs h1 h2 h3 h4 h5 n1 n2 n3 n4 n5
    rw [if_neg n1, if_neg n2, if_neg n3, if_neg n4]
    exact ⟨rfl, sim1 q 1 hs h1 h2 h3 h4 h5, fun _ k => (by omega)⟩
  by_cases c34 : c = 34
  · subst c34
    exact ⟨rfl, sim1 .str 2 rfl nofun nofun nofun nofun nofun, fun _ k => (by omega)⟩
  rw [if_neg c34] at hg
  rw [if_neg c34, if_neg c34]
  by_cases c45 : c = 45
  · rw [if_pos c45]
    exact rest .neg rfl nofun nofun nofun nofun nofun (by omega) (by omega) (by omega) (by omega) (by omega)
  rw [if_neg c45] at hg ⊢
  by_cases c48 : c = 48
  · rw [if_pos c48]
    exact rest .s0 rfl nofun nofun nofun nofun nofun (by omega) (by omega) (by omega) (by omega) (by omega)
  rw [if_neg c48] at hg ⊢
  by_cases c116 : c = 116
  · rw [if_pos c116]
    exact rest .t1 rfl nofun nofun nofun nofun nofun (by omega) (by omega) (by omega) (by omega) (by omega)
  rw [if_neg c116] at hg ⊢
  by_cases c102 : c = 102
  · rw [if_pos c102]
    exact rest .f1 rfl nofun nofun nofun nofun nofun (by omega) (by omega) (by omega) (by omega) (by omega)
  rw [if_neg c102] at hg ⊢
  by_cases c110 : c = 110
  · rw [if_pos c110]
    exact rest .n1 rfl nofun nofun nofun nofun nofun (by omega) (by omega) (by omega) (by omega) (by omega)
  rw [if_neg c110] at hg ⊢
  by_cases c19 : (decide (49 ≤ c) && decide (c ≤ 57)) = true
  · rw [if_pos c19]
    have c19' : 49 ≤ c ∧ c ≤ 57 := by simpa using c19
    exact rest .s1 rfl nofun nofun nofun nofun nofun (by omega) (by omega) (by omega) (by omega) (by omega)
  · rw [if_neg c19] at hg
    exact absurd hg not_err
end
section
/- (Ct) The reference's own scanner goes with that of encoding/json: one byte. -/
theorem bel_dig {c : Int} (h : digB c = true) : belB c = true := by
  have := digB_dest h
  unfold belB
  simp
  omega
theorem inn_str {p : Sp} {c : Int} (h : p.st = 2) : innS p c = (true, { p with st := if c = 34 then 0 else if c = 92 then 3 else 2 }) := by
  unfold innS
  rw [if_neg (by omega), if_pos h]
theorem inn_esc {p : Sp} {c : Int} (h : p.st = 3) : innS p c = (true, { p with st := 2 }) := by
  unfold innS
  rw [if_pos h]
/-- Within a string. -/
theorem step_str {p : Sp} {A : Sc} {c t : Int} {q : Sq} (h : Sim p A) (hi : innS p c = (true, { p with st := t })) (hq : A.q ≠ .bv) (hs : SimQ q t) (h1 : q ≠ .bv) (h2 : q ≠ .bvE) (h3 : q ≠ .bsE) (h4 : q ≠ .bs) (h5 : q ≠ .et) :
    (stepS p c).1 = (A.to 0 q).1 ∧ Sim (stepS p c).2 (A.to 0 q).2 ∧ ((innS p c).1 = false → (c = 125 ∨ c = 93 ∨ c = 44) → p.opn ≠ []) := by
  unfold stepS
  rw [hi, if_pos rfl]
  exact ⟨rfl, sim_id (t := t) h (.inl hq) hs h1 h2 h3 h4 h5, fun e => by cases e⟩
def SimC (p : Sp) (c : Int) (r : Int × Sc) : Prop := (stepS p c).1 = r.1 ∧ Sim (stepS p c).2 r.2 ∧ ((innS p c).1 = false → (c = 125 ∨ c = 93 ∨ c = 44) → p.opn ≠ [])
theorem lit_sim {p : Sp} {A : Sc} {c x : Int} {q : Sq} (h : Sim p A) (hst : p.st = 1) (hx : belB x = true) (hq : A.q ≠ .bv) (hg : Good (litQ A c x q)) (hs : SimQ q 1) (h1 : q ≠ .bv) (h2 : q ≠ .bvE) (h3 : q ≠ .bsE) (h4 : q ≠ .bs) (h5 : q ≠ .et) : SimC p c (litQ A c x q) := by
  unfold litQ at hg ⊢
  by_cases hc : c = x
  · rw [if_pos hc]
    exact step_in h hst (by rw [hc]; exact hx) hq hs h1 h2 h3 h4 h5
  · rw [if_neg hc] at hg
    exact absurd hg not_err
theorem hex_sim {p : Sp} {A : Sc} {c : Int} {q : Sq} (h : Sim p A) (hst : p.st = 2) (hq : A.q ≠ .bv) (hg : Good (hexQ A c q)) (hs : SimQ q 2) (h1 : q ≠ .bv) (h2 : q ≠ .bvE) (h3 : q ≠ .bsE) (h4 : q ≠ .bs) (h5 : q ≠ .et) : SimC p c (hexQ A c q) := by
  unfold hexQ at hg ⊢
  by_cases hc : hexB c = true
  · rw [if_pos hc]
    have hi := inn_str (c := c) hst
    rw [if_neg (fun e => by rw [e] at hc; cases hc), if_neg (fun e => by rw [e] at hc; cases hc)] at hi
    exact step_str h hi hq hs h1 h2 h3 h4 h5
  · rw [if_neg hc] at hg
    exact absurd hg not_err
theorem s0_sim {p : Sp} {A : Sc} {c : Int} (h : Sim p A) (hst : p.st = 1) (hq : A.q ≠ .bv) (hg : Good (s0Q A c)) : SimC p c (s0Q A c) := by
  unfold s0Q at hg ⊢
  by_cases h46 : c = 46
  · rw [if_pos h46]
    exact step_in h hst (by rw [h46]; rfl) hq rfl nofun nofun nofun nofun nofun
  · rw [if_neg h46] at hg ⊢
    by_cases he : c = 101 ∨ c = 69
    · rw [if_pos he]
      exact step_in h hst (by rcases he with e | e <;> rw [e] <;> rfl) hq rfl nofun nofun nofun nofun nofun
    · rw [if_neg he] at hg ⊢
      exact step_end h (.inr hst) hq hg
theorem esg_sim {p : Sp} {A : Sc} {c : Int} (h : Sim p A) (hst : p.st = 1) (hq : A.q ≠ .bv) (hg : Good (esgQ A c)) : SimC p c (esgQ A c) := by
  unfold esgQ at hg ⊢
  by_cases hd : digB c = true
  · rw [if_pos hd]
    exact step_in h hst (bel_dig hd) hq rfl nofun nofun nofun nofun nofun
  · rw [if_neg hd] at hg
    exact absurd hg not_err
theorem stay_sim {p : Sp} {A : Sc} {c : Int} (h : Sim p A) (hst : p.st = 1) (hb : belB c = true) : SimC p c (0, A) := by
  unfold SimC stepS
  rw [inn_in hst hb, if_pos rfl]
  exact ⟨rfl, h, fun e => by cases e⟩
theorem space_sim {p : Sp} {A : Sc} {c : Int} (h : Sim p A) (hst : p.st = 0) (hw : isW c = true) (hn : A.stk ≠ []) : SimC p c (9, A) := by
  have hi := inn_out (p := p) (c := c) (.inl hst)
  have hp : ({ p with st := 0 } : Sp) = p := by obtain ⟨a, b, d⟩ := p; dsimp only at hst; subst hst; rfl
  rw [hp] at hi
  unfold SimC stepS
  rw [hi, if_neg (by simp)]
  show (outS p c).1 = _ ∧ Sim (outS p c).2 _ ∧ (false = false → _)
  unfold outS
  rw [if_pos (isSp_of hw), if_neg (fun k => hn (by have := k.2; rw [h.opn] at this; simpa using this))]
  refine ⟨rfl, h, fun _ k => ?_⟩
  exfalso
  rcases k with rfl | rfl | rfl <;> cases hw
theorem bs_sim {p : Sp} {A : Sc} {c : Int} (h : Sim p A) (hst : p.st = 0) (hn : A.stk ≠ []) (hg : Good (bsQ A c)) : SimC p c (bsQ A c) := by
  unfold bsQ at hg ⊢
  by_cases hw : isW c = true
  · rw [if_pos hw]
    exact space_sim h hst hw hn
  · rw [if_neg hw] at hg ⊢
    by_cases c34 : c = 34
    · subst c34
      rw [if_pos rfl]
      have hi := inn_out (p := p) (c := 34) (.inl hst)
      unfold SimC stepS
      rw [hi, if_neg (by simp)]
      exact ⟨rfl, ⟨h.opn, h.ks, rfl, ⟨fun _ k => (by cases k.1), fun _ => rfl⟩, fun k => (by rcases k with k | k | k <;> cases k), fun k => (by cases k), h.bad⟩, fun _ k => (by omega)⟩
    · rw [if_neg c34] at hg
      exact absurd hg not_err
theorem sim_step {p : Sp} {A : Sc} {c : Int} (h : Sim p A) (hE : A.q = .bsE → ∃ r, A.stk = 0 :: r) (hg : Good (stepQ A c)) : SimC p c (stepQ A c) := by
  have hst := h.st
  have hne := h.ne
  obtain ⟨q, t, S, d⟩ := A
  cases q
  case bv => exact step_bv h (.inl rfl) hg
  case bvE =>
    have hn : S ≠ [] := hne (.inl rfl)
    change Good (bvEQ _ c) at hg
    show SimC p c (bvEQ _ c)
    unfold bvEQ at hg ⊢
    by_cases hw : isW c = true
    · rw [if_pos hw]; exact space_sim h hst hw hn
    · rw [if_neg hw] at hg ⊢
      by_cases h93 : c = 93
      · rw [if_pos h93] at hg ⊢; exact step_end h (.inl hst) nofun hg
      · rw [if_neg h93] at hg ⊢; exact step_bv h (.inr rfl) hg
  case bsE =>
    obtain ⟨r, hr⟩ := hE rfl
    dsimp only at hr
    subst hr
    change Good (bsEQ _ c) at hg
    show SimC p c (bsEQ _ c)
    unfold bsEQ at hg ⊢
    by_cases hw : isW c = true
    · rw [if_pos hw]; exact space_sim h hst hw (by simp)
    · rw [if_neg hw] at hg ⊢
      by_cases h125 : c = 125
      · rw [if_pos h125] at hg ⊢
        have h' : Sim p ⟨.bsE, t, 1 :: r, d⟩ := ⟨h.opn, fun k hk => (by
          rcases List.mem_cons.1 hk with rfl | hk
          · exact .inr (.inl rfl)
          · exact h.ks k (by simp [hk])), hst, ⟨fun _ k => (by cases k.1), fun _ => h.bg.2 fun k => (by cases k.1)⟩, fun _ => (by simp), fun k => (by cases k), h.bad⟩
        exact step_end h' (.inl hst) nofun hg
      · rw [if_neg h125] at hg ⊢; exact bs_sim h hst (by simp) hg
  case bs => exact bs_sim h hst (hne (.inr (.inr rfl))) hg
  case ev => exact step_end h hst nofun hg
  case et =>
    have hs : S = [] := h.et rfl
    subst hs
    change Good (topQ _ c) at hg
    show SimC p c (topQ _ c)
    unfold topQ at hg ⊢
    by_cases hw : isW c = true
    · rw [if_pos hw]
      have hi := inn_out (p := p) (c := c) (.inl hst)
      have hp : ({ p with st := 0 } : Sp) = p := by obtain ⟨a, b, d⟩ := p; dsimp only at hst; subst hst; rfl
      rw [hp] at hi
      unfold SimC stepS
      rw [hi, if_neg (by simp)]
      show (outS p c).1 = _ ∧ Sim (outS p c).2 _ ∧ (false = false → _)
      unfold outS
      rw [if_pos (isSp_of hw), if_pos ⟨h.bg.2 fun k => (by cases k.1), h.opn⟩]
      refine ⟨rfl, h, fun _ k => ?_⟩
      exfalso
      rcases k with rfl | rfl | rfl <;> cases hw
    · rw [if_neg hw] at hg
      exact absurd hg.2 (by simp [Sc.err])
  case str =>
    change Good (strQ _ c) at hg
    show SimC p c (strQ _ c)
    have hi := inn_str (c := c) hst
    unfold strQ at hg ⊢
    by_cases c34 : c = 34
    · rw [if_pos c34] at hi ⊢
      exact step_str h hi nofun (.inl rfl) nofun nofun nofun nofun nofun
    · rw [if_neg c34] at hg hi ⊢
      by_cases c92 : c = 92
      · rw [if_pos c92] at hi ⊢
        exact step_str h hi nofun rfl nofun nofun nofun nofun nofun
      · rw [if_neg c92] at hg hi ⊢
        by_cases c32 : c < 32
        · rw [if_pos c32] at hg; exact absurd hg not_err
        · rw [if_neg c32]
          exact step_str (q := .str) h hi nofun rfl nofun nofun nofun nofun nofun
  case esc =>
    change Good (escQ _ c) at hg
    show SimC p c (escQ _ c)
    have hi := inn_esc (c := c) hst
    unfold escQ at hg ⊢
    split
    · exact step_str h hi nofun rfl nofun nofun nofun nofun nofun
    · rename_i h1
      rw [if_neg h1] at hg
      split
      · exact step_str h hi nofun rfl nofun nofun nofun nofun nofun
      · rename_i h2
        rw [if_neg h2] at hg
        exact absurd hg not_err
  case u0 => exact hex_sim h hst nofun hg rfl nofun nofun nofun nofun nofun
  case u1 => exact hex_sim h hst nofun hg rfl nofun nofun nofun nofun nofun
  case u2 => exact hex_sim h hst nofun hg rfl nofun nofun nofun nofun nofun
  case u3 => exact hex_sim h hst nofun hg rfl nofun nofun nofun nofun nofun
  case t1 => exact lit_sim h hst rfl nofun hg rfl nofun nofun nofun nofun nofun
  case t2 => exact lit_sim h hst rfl nofun hg rfl nofun nofun nofun nofun nofun
  case t3 => exact lit_sim h hst rfl nofun hg (.inr rfl) nofun nofun nofun nofun nofun
  case f1 => exact lit_sim h hst rfl nofun hg rfl nofun nofun nofun nofun nofun
  case f2 => exact lit_sim h hst rfl nofun hg rfl nofun nofun nofun nofun nofun
  case f3 => exact lit_sim h hst rfl nofun hg rfl nofun nofun nofun nofun nofun
  case f4 => exact lit_sim h hst rfl nofun hg (.inr rfl) nofun nofun nofun nofun nofun
  case n1 => exact lit_sim h hst rfl nofun hg rfl nofun nofun nofun nofun nofun
  case n2 => exact lit_sim h hst rfl nofun hg rfl nofun nofun nofun nofun nofun
  case n3 => exact lit_sim h hst rfl nofun hg (.inr rfl) nofun nofun nofun nofun nofun
  case s0 => exact s0_sim h hst nofun hg
  case esg => exact esg_sim h hst nofun hg
  case er => exact absurd hst (fun k => k)
  case neg =>
    change Good (negQ _ c) at hg
    show SimC p c (negQ _ c)
    unfold negQ at hg ⊢
    by_cases c48 : c = 48
    · rw [if_pos c48]
      exact step_in h hst (by rw [c48]; rfl) nofun rfl nofun nofun nofun nofun nofun
    · rw [if_neg c48] at hg ⊢
      by_cases c19 : (decide (49 ≤ c) && decide (c ≤ 57)) = true
      · rw [if_pos c19]
        have c19' : 49 ≤ c ∧ c ≤ 57 := by simpa using c19
        exact step_in h hst (bel_dig (digB_iff' (by omega) c19'.2)) nofun rfl nofun nofun nofun nofun nofun
      · rw [if_neg c19] at hg; exact absurd hg not_err
  case s1 =>
    change Good (s1Q _ c) at hg
    show SimC p c (s1Q _ c)
    unfold s1Q at hg ⊢
    by_cases hd : digB c = true
    · rw [if_pos hd]
      exact step_in h hst (bel_dig hd) nofun rfl nofun nofun nofun nofun nofun
    · rw [if_neg hd] at hg ⊢; exact s0_sim h hst nofun hg
  case dot =>
    change Good (dotQ _ c) at hg
    show SimC p c (dotQ _ c)
    unfold dotQ at hg ⊢
    by_cases hd : digB c = true
    · rw [if_pos hd]
      exact step_in h hst (bel_dig hd) nofun rfl nofun nofun nofun nofun nofun
    · rw [if_neg hd] at hg; exact absurd hg not_err
  case dot0 =>
    change Good (dot0Q _ c) at hg
    show SimC p c (dot0Q _ c)
    unfold dot0Q at hg ⊢
    by_cases hd : digB c = true
    · rw [if_pos hd]; exact stay_sim h hst (bel_dig hd)
    · rw [if_neg hd] at hg ⊢
      by_cases he : c = 101 ∨ c = 69
      · rw [if_pos he]
        exact step_in h hst (by rcases he with e | e <;> rw [e] <;> rfl) nofun rfl nofun nofun nofun nofun nofun
      · rw [if_neg he] at hg ⊢; exact step_end h (.inr hst) nofun hg
  case ee =>
    change Good (eeQ _ c) at hg
    show SimC p c (eeQ _ c)
    unfold eeQ at hg ⊢
    by_cases he : c = 43 ∨ c = 45
    · rw [if_pos he]
      exact step_in h hst (by rcases he with e | e <;> rw [e] <;> rfl) nofun rfl nofun nofun nofun nofun nofun
    · rw [if_neg he] at hg ⊢; exact esg_sim h hst nofun hg
  case e0 =>
    change Good (e0Q _ c) at hg
    show SimC p c (e0Q _ c)
    unfold e0Q at hg ⊢
    by_cases hd : digB c = true
    · rw [if_pos hd]; exact stay_sim h hst (bel_dig hd)
    · rw [if_neg hd] at hg ⊢; exact step_end h (.inr hst) nofun hg
end
section
/- (Cx) The codes of a text by both scanners: the plain mathematics. -/
/-- The codes of some bytes. -/
def codesS : Sp → List Int → List Int
  | _, [] => []
  | p, c :: l => (stepS p c).1 :: codesS (stepS p c).2 l
theorem run_codes {s : ByteArray} {a b : Nat} {A B : Sc} (h : RunQ s a A b B) : ∀ p, Sim p A → Inw A → ∃ p', Sim p' B ∧ Inw B ∧
    codesQ A ((bl s).drop a) = (codesS p (((bl s).drop a).take (b - a)) ++ (codesQ B ((bl s).drop b)).1, (codesQ B ((bl s).drop b)).2) := by
  induction h with
  | refl => intro p hp hi; exact ⟨p, hp, hi, by simp [codesS]⟩
  | @step a A a' A' h1 h2 h3 hr ih =>
    intro p hp hi
    have hg : Good (stepQ A (bAt s a)) := ⟨h2, h3⟩
    obtain ⟨k1, k2, _⟩ := sim_step hp hi.bs hg
    obtain ⟨p', q1, q2, q3⟩ := ih _ k2 (inw_step hi hg)
    refine ⟨p', q1, q2, ?_⟩
    have hge := hr.ge
    rw [gdrop h1, show a' - a = (a' - (a + 1)) + 1 by omega, List.take_succ_cons, codesS, codes_cons, if_neg h2, q3, k1]
    rfl
theorem dead_codes {s : ByteArray} {a : Nat} {A : Sc} (hb : A.bad = false) (h : Dead s a A) : codesQ A ((bl s).drop a) = ([11], false) ∨ (a < s.size ∧ (stepQ A (bAt s a)).1 ≠ 11 ∧ codesQ A ((bl s).drop a) = ([(stepQ A (bAt s a)).1, 11], false)) := by
  rcases h with ⟨h1, h2⟩ | ⟨h1, h2⟩
  · rw [gdrop h1, codes_cons]
    split
    · exact .inl rfl
    · rename_i h3
      have hbad := h2.resolve_left h3
      have hq := br_step hb _ hbad
      refine .inr ⟨h1, h3, ?_⟩
      generalize (stepQ A (bAt s a)).2 = τ at hq hbad
      have : codesQ τ ((bl s).drop (a + 1)) = ([11], false) := by
        obtain ⟨q, t, S, d⟩ := τ
        dsimp only at hq hbad
        subst hq hbad
        cases (bl s).drop (a + 1) with
        | nil => rfl
        | cons c l => rfl
      rw [this]
  · subst h1
    rw [List.drop_of_length_le (by rw [bl_len]; exact Nat.le_refl _), codes_nil, eof_bad h2, h2]
    exact .inl rfl
end
section
/- (Cy) Where the scanner comes to its fault: whether the value had ended. -/
def E11 (r : Int × Sc) : Prop := r.2.bad = true → r.1 = 11
theorem e11_of {r : Int × Sc} (h : r.2.bad = false) : E11 r := fun e => by rw [h] at e; cases e
theorem e11_err {σ : Sc} : E11 σ.err := fun _ => rfl
theorem e11_end {A : Sc} (hb : A.bad = false) (hs : A.stk ≠ []) (c : Int) : E11 (endQ A c) := by
  unfold endQ
  split
  · rename_i h; exact absurd h hs
  · repeat' split
    all_goals first
      | exact e11_err
      | exact e11_of hb
      | exact e11_of (by rw [pop_bad]; exact hb)
theorem end_nil {A : Sc} (hs : A.stk = []) (c : Int) : (endQ A c).1 = 10 := by
  unfold endQ
  rw [hs]
  show (topQ _ _).1 = 10
  unfold topQ
  split <;> rfl
theorem e11_bv {A : Sc} (hb : A.bad = false) (c : Int) : E11 (bvQ A c) := by
  unfold bvQ
  repeat' split
  all_goals first
    | exact e11_of hb
    | exact e11_err
theorem e11_bs {A : Sc} (hb : A.bad = false) (c : Int) : E11 (bsQ A c) := by
  unfold bsQ
  repeat' split
  all_goals first
    | exact e11_of hb
    | exact e11_err
/-- The codes of a fault. -/
theorem code_eof {A : Sc} (hi : Inw A) (hb : A.bad = false) (hn : (A.q = .bvE ∨ A.q = .bsE) → A.stk ≠ []) (hq : A.q ≠ .er) (c : Int) :
    ((stepQ A c).1 = 11 → (eofQ A).1 = 11) ∧ ((stepQ A c).1 ≠ 11 → (stepQ A c).2.bad = true → (stepQ A c).1 = 10 ∧ (eofQ A).1 = 10) := by
  obtain ⟨q, t, S, d⟩ := A
  dsimp only at hb
  subst hb
  have he11 : t = false → (stepQ ⟨q, t, S, false⟩ 32).2.top = false → (eofQ ⟨q, t, S, false⟩).1 = 11 := fun h1 h2 => by
    unfold eofQ
    rw [if_neg (by simp), h1, if_neg (by simp)]
    rw [h1] at h2
    rw [h2]
    rfl
  have he10 : t = false → (stepQ ⟨q, t, S, false⟩ 32).2.top = true → (eofQ ⟨q, t, S, false⟩).1 = 10 := fun h1 h2 => by
    unfold eofQ
    rw [if_neg (by simp), h1, if_neg (by simp)]
    rw [h1] at h2
    rw [h2]
    rfl
  by_cases het : q = .et
  · subst het
    have ht : t = true := hi.et.2 rfl
    subst ht
    have hc : (stepQ ⟨.et, true, S, false⟩ c).1 = 10 := by
      show (topQ _ c).1 = 10
      unfold topQ
      split <;> rfl
    refine ⟨fun h => (by rw [hc] at h; cases h), fun _ _ => ⟨hc, rfl⟩⟩
  have ht : t = false := by
    cases t
    · rfl
    · exact absurd (hi.et.1 rfl) het
  subst ht
  have fin : E11 (stepQ ⟨q, false, S, false⟩ c) → (stepQ ⟨q, false, S, false⟩ 32).2.top = false → ((stepQ ⟨q, false, S, false⟩ c).1 = 11 → (eofQ ⟨q, false, S, false⟩).1 = 11) ∧ ((stepQ ⟨q, false, S, false⟩ c).1 ≠ 11 → (stepQ ⟨q, false, S, false⟩ c).2.bad = true → (stepQ ⟨q, false, S, false⟩ c).1 = 10 ∧ (eofQ ⟨q, false, S, false⟩).1 = 10) :=
    fun h1 h2 => ⟨fun _ => he11 rfl h2, fun h3 h4 => absurd (h1 h4) h3⟩
  have num : (∀ x, stepQ ⟨q, false, S, false⟩ x = endQ ⟨q, false, S, false⟩ x ∨ ((stepQ ⟨q, false, S, false⟩ x).1 = 0 ∧ (stepQ ⟨q, false, S, false⟩ x).2.bad = false)) → stepQ ⟨q, false, S, false⟩ 32 = endQ ⟨q, false, S, false⟩ 32 →
      ((stepQ ⟨q, false, S, false⟩ c).1 = 11 → (eofQ ⟨q, false, S, false⟩).1 = 11) ∧ ((stepQ ⟨q, false, S, false⟩ c).1 ≠ 11 → (stepQ ⟨q, false, S, false⟩ c).2.bad = true → (stepQ ⟨q, false, S, false⟩ c).1 = 10 ∧ (eofQ ⟨q, false, S, false⟩).1 = 10) := by
    intro h1 h2
    cases S with
    | nil =>
      have h10 : (eofQ ⟨q, false, [], false⟩).1 = 10 := he10 rfl (by rw [h2]; rfl)
      rcases h1 c with e | ⟨e1, e2⟩
      · have hc : (stepQ ⟨q, false, [], false⟩ c).1 = 10 := by rw [e]; exact end_nil rfl c
        exact ⟨fun h => (by rw [hc] at h; cases h), fun _ _ => ⟨hc, h10⟩⟩
      · exact ⟨fun h => (by rw [e1] at h; cases h), fun _ h => (by rw [e2] at h; cases h)⟩
    | cons k r =>
      refine fin ?_ (by rw [h2]; rfl)
      rcases h1 c with e | ⟨e1, e2⟩
      · rw [e]; exact e11_end rfl (by simp) c
      · exact e11_of e2
  cases q
  case et => exact absurd rfl het
  case er => exact absurd rfl hq
  case ev => exact num (fun x => .inl rfl) rfl
  case bv => exact fin (e11_bv rfl c) rfl
  case bs => exact fin (e11_bs rfl c) rfl
  case bvE =>
    refine fin ?_ rfl
    show E11 (bvEQ _ c)
    unfold bvEQ
    repeat' split
    · exact e11_of rfl
    · exact e11_end rfl (hn (.inl rfl)) c
    · exact e11_bv rfl c
  case bsE =>
    refine fin ?_ rfl
    show E11 (bsEQ _ c)
    unfold bsEQ
    repeat' split
    · exact e11_of rfl
    · exact e11_end (A := { (⟨.bsE, false, S, false⟩ : Sc) with stk := 1 :: S.tail }) rfl (List.cons_ne_nil _ _) c
    · exact e11_bs rfl c
  case s0 =>
    refine num (fun x => ?_) rfl
    show s0Q ⟨.s0, false, S, false⟩ x = endQ ⟨.s0, false, S, false⟩ x ∨ ((s0Q ⟨.s0, false, S, false⟩ x).1 = 0 ∧ (s0Q ⟨.s0, false, S, false⟩ x).2.bad = false)
    unfold s0Q
    repeat' split
    all_goals first | exact .inl rfl | exact .inr ⟨rfl, rfl⟩
  case s1 =>
    refine num (fun x => ?_) rfl
    show s1Q ⟨.s1, false, S, false⟩ x = endQ ⟨.s1, false, S, false⟩ x ∨ ((s1Q ⟨.s1, false, S, false⟩ x).1 = 0 ∧ (s1Q ⟨.s1, false, S, false⟩ x).2.bad = false)
    unfold s1Q s0Q
    repeat' split
    all_goals first | exact .inl rfl | exact .inr ⟨rfl, rfl⟩
  case dot0 =>
    refine num (fun x => ?_) rfl
    show dot0Q ⟨.dot0, false, S, false⟩ x = endQ ⟨.dot0, false, S, false⟩ x ∨ ((dot0Q ⟨.dot0, false, S, false⟩ x).1 = 0 ∧ (dot0Q ⟨.dot0, false, S, false⟩ x).2.bad = false)
    unfold dot0Q
    repeat' split
    all_goals first | exact .inl rfl | exact .inr ⟨rfl, rfl⟩
  case e0 =>
    refine num (fun x => ?_) rfl
    show e0Q ⟨.e0, false, S, false⟩ x = endQ ⟨.e0, false, S, false⟩ x ∨ ((e0Q ⟨.e0, false, S, false⟩ x).1 = 0 ∧ (e0Q ⟨.e0, false, S, false⟩ x).2.bad = false)
    unfold e0Q
    repeat' split
    all_goals first | exact .inl rfl | exact .inr ⟨rfl, rfl⟩
  all_goals
    refine fin ?_ rfl
    simp only [stepQ, strQ, escQ, hexQ, negQ, dotQ, eeQ, esgQ, litQ]
    repeat' split
    all_goals first
      | exact e11_of rfl
      | exact e11_err
end
section
/- (Cz) The codes of a whole text, by both scanners: the plain mathematics. -/
/-- Where something is closed or a comma stands outside literals, something is open. -/
def OkS : Sp → List Int → Prop
  | _, [] => True
  | p, c :: l => ((innS p c).1 = false → (c = 125 ∨ c = 93 ∨ c = 44) → p.opn ≠ []) ∧ OkS (stepS p c).2 l
def sp0 : Sp := ⟨[], 0, false⟩
theorem sim0 : Sim sp0 sc0 := ⟨rfl, fun k hk => (by cases hk), rfl, ⟨fun h => (by cases h), fun h => absurd ⟨rfl, rfl⟩ h⟩, fun h => (by rcases h with h | h | h <;> cases h), fun h => (by cases h), rfl⟩
theorem run_all {s : ByteArray} {a b : Nat} {A B : Sc} (h : RunQ s a A b B) : ∀ p, Sim p A → Inw A → ∃ p', Sim p' B ∧ Inw B ∧ OkS p (((bl s).drop a).take (b - a)) ∧
    codesQ A ((bl s).drop a) = (codesS p (((bl s).drop a).take (b - a)) ++ (codesQ B ((bl s).drop b)).1, (codesQ B ((bl s).drop b)).2) ∧ validQ A (((bl s).drop a).take (b - a)) = validQ B [] := by
  induction h with
  | refl => intro p hp hi; exact ⟨p, hp, hi, by simp [OkS], by simp [codesS], by simp⟩
  | @step a A a' A' h1 h2 h3 hr ih =>
    intro p hp hi
    have hg : Good (stepQ A (bAt s a)) := ⟨h2, h3⟩
    obtain ⟨k1, k2, k3⟩ := sim_step hp hi.bs hg
    obtain ⟨p', q1, q2, q3, q4, q5⟩ := ih _ k2 (inw_step hi hg)
    have hge := hr.ge
    have ht : ((bl s).drop a).take (a' - a) = bAt s a :: ((bl s).drop (a + 1)).take (a' - (a + 1)) := by
      rw [gdrop h1, show a' - a = (a' - (a + 1)) + 1 by omega, List.take_succ_cons]
    refine ⟨p', q1, q2, ?_, ?_, ?_⟩
    · rw [ht]; exact ⟨k3, q3⟩
    · rw [ht, gdrop h1, codesS, codes_cons, if_neg h2, q4, k1]; rfl
    · rw [ht]
      show (if (stepQ A (bAt s a)).1 = 11 then false else validQ (stepQ A (bAt s a)).2 (((bl s).drop (a + 1)).take (a' - (a + 1)))) = validQ A' []
      rw [if_neg h2]; exact q5
theorem Sim.good {p : Sp} {A : Sc} (h : Sim p A) : ((A.q = .bvE ∨ A.q = .bsE) → A.stk ≠ []) ∧ A.q ≠ .er :=
  ⟨fun k => h.ne (by rcases k with k | k; exact .inl k; exact .inr (.inl k)), fun k => by have := h.st; rw [k] at this; exact this⟩
/-- The codes of a whole text. -/
theorem codes_whole {s : ByteArray} {σ' : St} (h : ParseR s σ') : σ'.at_ ≤ s.size ∧ OkS sp0 ((bl s).take σ'.at_) ∧
    codesQ sc0 (bl s) = (codesS sp0 ((bl s).take σ'.at_) ++ (if σ'.fault = 0 then [10] else if validQ sc0 ((bl s).take σ'.at_) = true then [10, 11] else [11]), decide (σ'.fault = 0)) := by
  rcases parse_goes h with ⟨h1, h2, C, h3, h4⟩ | ⟨h1, h2, B, h3, h4⟩
  · obtain ⟨p', q1, q2, q3, q4, q5⟩ := run_all h3 sp0 sim0 inw0
    rw [Nat.sub_zero, List.drop_zero] at q3 q4 q5
    rw [h2]
    refine ⟨Nat.le_refl _, q3, ?_⟩
    have hE := endA_eof h4
    rw [q4, List.drop_of_length_le (by rw [bl_len]; exact Nat.le_refl _), codes_nil, hE.1, hE.2, if_pos h1, h1]
    rfl
  · obtain ⟨p', q1, q2, q3, q4, q5⟩ := run_all h3 sp0 sim0 inw0
    rw [Nat.sub_zero, List.drop_zero] at q3 q4 q5
    refine ⟨h2, q3, ?_⟩
    rw [q4, if_neg h1, q5, decide_eq_false h1]
    have hB := h3.bad rfl
    have hv : (validQ B [] = true) = ((eofQ B).1 ≠ 11) := by show (((eofQ B).1 != 11) = true) = _; simp
    obtain ⟨g1, g2⟩ := q1.good
    rcases h4 with ⟨k1, k2⟩ | ⟨k1, k2⟩
    · obtain ⟨e1, e2⟩ := code_eof q2 hB g1 g2 (bAt s σ'.at_)
      by_cases h11 : (stepQ B (bAt s σ'.at_)).1 = 11
      · rw [if_neg (by rw [hv, e1 h11]; simp), gdrop k1, codes_cons, if_pos h11]
      · have hbad := k2.resolve_left h11
        obtain ⟨f1, f2⟩ := e2 h11 hbad
        rw [if_pos (by rw [hv, f2]; decide)]
        rcases dead_codes hB (.inl ⟨k1, .inr hbad⟩) with e | ⟨_, _, e⟩
        · exfalso
          rw [gdrop k1, codes_cons, if_neg h11, f1] at e
          have := congrArg Prod.fst e
          simp at this
        · rw [e, f1]
    · rw [if_neg (by rw [hv, k2]; simp)]
      rcases dead_codes hB (.inr ⟨k1, k2⟩) with e | ⟨h, _⟩
      · rw [e]
      · omega
end
end Go.Proofs.Ytjbffgjclnjkoaa
