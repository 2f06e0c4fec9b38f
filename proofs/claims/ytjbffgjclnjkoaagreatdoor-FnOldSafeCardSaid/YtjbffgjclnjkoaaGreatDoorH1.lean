/- Joined texts: Ax, Hl, Hm. -/
import Derived.Test.YtjbffgjclnjkoaaGreatDoorD3
import Derived.Test.YtjbffgjclnjkoaaGreatDoorHs
import Derived.Test.YtjbffgjclnjkoaaGreatDoorG1
namespace Go.Proofs.YtjbffgjclnjkoaaGreatDoor
set_option linter.unusedVariables false
set_option linter.unusedSimpArgs false
section
/- (Ax) The reader of the reference by strict names: whether a name has come already. Lines of XAg. -/
open Go.RowKit

theorem decF_str {x : ByteArray} {X : List Int} (h : StrT x X) : decF x = (txt X).toList := by
  obtain ⟨h2, hD⟩ := h
  unfold decF
  obtain ⟨t, ht⟩ : ∃ t, x.extract 1 (x.size - 1) = t := ⟨_, rfl⟩
  rw [ht]
  obtain ⟨hz, hb⟩ := ext_byte ht (by omega) (by omega)
  have hT : Dc t 0 (0 + (x.size - 1 - 1)) X := hD.same 0 (fun i hi => by rw [Nat.zero_add]; exact hb i (by omega)) (by omega)
  have he : 0 + (x.size - 1 - 1) = t.size := by omega
  rw [hT.dO he t.size (by omega)]
/-- A text that a strict reader takes as a string. -/
def NqS (x : Value) : Prop := ∃ (t : ByteArray) (X : List Int), x = .string t ∧ StrT t X ∧ t.size ≤ 2500000000
theorem nqs_quoted (s : ByteArray) (hs : s.size ≤ 2500000000) : ∀ σ σ', St.quoted s false σ = (true, σ') → NqS (.string (s.extract σ.at_ (σ'.at_ + 1))) := by
  intro σ σ' h
  obtain ⟨X, _, _, _, _, h5, h6⟩ := quoted_str h
  exact ⟨_, X, rfl, h6, by rw [ByteArray.size_extract]; omega⟩
theorem dec_of {t : ByteArray} (h : NqS (.string t)) : ∃ D : ByteArray, (∀ w : World, Calls Tryz.prog 22 #[.string t] w fun e w' => e = .returned (.tuple #[.string D, .bool true]) ∧ Below w.heap.size w w') ∧ D.toList = decF t := by
  obtain ⟨t', X, e, h1, h2⟩ := h
  injection e with e
  subst e
  exact ⟨txt X, fun w => decode_str h1 h2 w, (decF_str h1).symm⟩
theorem Mv.of_below2 {b : Nat} {w w' : World} (h : Below w.heap.size w w') : Mv b w w' := ⟨h.os, h.tape, h.output, h.size, fun i hi _ => h.block i hi⟩
theorem IsR.below2 {w w' : World} {b s tw lo σ} (h : IsR w b s tw lo σ) (hb : Below w.heap.size w w') : IsR w' b s tw lo σ := h.other (hb.block b h.lt)
set_option maxRecDepth 100000 in
set_option maxHeartbeats 4000000 in
theorem again_ex (b B : Nat) (s : ByteArray) (lo : Bool) : AgX NqS b B s lo := by
  intro hbB σ w nm m xs ns t0 hR ho hxs hm hq
  obtain ⟨g, cp, rfl⟩ := own_some ho (by omega)
  obtain ⟨hmc, hcm⟩ := own_len ho
  have hxl : xs.length = m := by have := ho.1; omega
  have hnl : ns.length + 1 = m := by rw [← hxl, hxs]; simp [nmv]
  have hgb : g ≠ b := by have := (ho.lt g rfl).1; omega
  have hglt : g < w.heap.size := (ho.lt g rfl).2
  have cellsW : ∀ j t, (ns ++ [t0])[j]? = some t → w.cell? ⟨g, j, none⟩ = some (.string t) ∧ ∃ D : ByteArray, (∀ w : World, Calls Tryz.prog 22 #[.string t] w fun e w' => e = .returned (.tuple #[.string D, .bool true]) ∧ Below w.heap.size w w') ∧ D.toList = decF t := fun j t hj => by
    have hx : xs[j]? = some (.string t) := by rw [hxs]; unfold nmv; rw [List.getElem?_map, hj]; rfl
    have hjl : j < xs.length := (List.getElem?_eq_some_iff.1 hx).1
    refine ⟨by rw [World.ownsRow.cellAt ho j (by omega), hx], dec_of ?_⟩
    have := hq (xs[j]'hjl) (List.getElem_mem _)
    rwa [(List.getElem?_eq_some_iff.1 hx).2] at this
  have cellsAt : ∀ (w' : World), Mv b w w' → ∀ j t, (ns ++ [t0])[j]? = some t → w'.cell? ⟨g, j, none⟩ = some (.string t) ∧ ∃ D : ByteArray, (∀ w : World, Calls Tryz.prog 22 #[.string t] w fun e w' => e = .returned (.tuple #[.string D, .bool true]) ∧ Below w.heap.size w w') ∧ D.toList = decF t := fun w' hM j t hj => by
    obtain ⟨h1, h2⟩ := cellsW j t hj
    exact ⟨(World.cell?_of_block (hM.block g hglt (by simpa using hgb))).trans h1, h2⟩
  obtain ⟨hcl, X1, hdl, hx1⟩ := cellsW (m - 1) t0 (by rw [List.getElem?_append_right (by omega), show m - 1 - ns.length = 0 by omega]; rfl)
  have hmI : (1 : Int) ≤ (m : Int) := by omega
  have hmcI : (m : Int) ≤ (cp : Int) := by omega
  have HC := Lib.hid cellsAt
  have HX1 := Lib.hid hx1
  have HNL := Lib.hid hnl
  clear cellsW cellsAt ho hq hxl hmc hxs hx1 hnl
  have HI0 : Hid (∀ i (h : i < ns.length), i < 0 → decF ns[i] ≠ decF t0) := Lib.hid fun i _ h => absurd h (by omega)
  go_enter Tryz.func76, Tryz.ntmps76
  go_wp2_with (go_at_call 22; refine (hdl _).mono ?_; rintro e w1 ⟨rfl, hb1⟩; have hM1 : Mv b w w1 := Mv.of_below2 hb1; have hR1 := hR.below2 hb1)
  clear hdl hcl
  go_loopg [27] m (fun g' i wx => ∃ (j : Nat), i = .int .i64 j ∧ j ≤ m - 1 ∧ m - j ≤ g' ∧ IsR wx b s false lo σ ∧ Mv b w wx ∧ Hid (∀ i (h : i < ns.length), i < j → decF ns[i] ≠ decF t0))
  case atStart => exact ⟨0, rfl, by omega, by omega, hR1, hM1, HI0⟩
  case round =>
    clear hR1 hM1 HI0
    obtain ⟨j, rfl, hj, hjg, hRj, hMj, HI⟩ := hrel
    by_cases hjm : j < m - 1
    · have hjI : (j : Int) < (m : Int) - 1 := by omega
      have hjn : j < ns.length := by have := HNL.out; omega
      obtain ⟨hct, X2, hdt, hx2⟩ := HC.out wr hMj j ns[j] (by rw [List.getElem?_append_left hjn, List.getElem?_eq_getElem hjn])
      have HX2 := Lib.hid hx2
      clear hx2
      obtain ⟨c0, c1, c2, c3, c4, c5, f1, f4, f5⟩ := hRj.cells
      generalize ns[j] = t at hct hdt
      go_upto_if 38 with (go_at_call 22; refine (hdt _).mono ?_; rintro e w2 ⟨rfl, hb2⟩)
      have hM2 : Mv b w w2 := hMj.trans (Mv.of_below2 hb2)
      have hR2 := hRj.below2 hb2
      clear c0 c1 c2 c3 c4 c5 f1 f4 f5 hct hdt
      obtain ⟨c0, c1, c2, c3, c4, c5, f1, f4, f5⟩ := hR2.cells
      cases hx : (X2.toList == X1.toList)
      case false =>
        have HJ : Hid (∀ i (h : i < ns.length), i < j + 1 → decF ns[i] ≠ decF t0) := Lib.hid fun i h hi => by
          by_cases e : i < j
          · exact HI.out i h e
          · obtain rfl : i = j := by omega
            rw [← HX2.out, ← HX1.out]
            simpa using hx
        go_wp2_with fail
        go_roundg (gk - 1)
        case measure => omega
        case rel => exact ⟨j + 1, by go_num, by omega, by omega, hR2, hM2, HJ⟩
      case true =>
        have HD : Hid (Dup ns t0) := Lib.hid ⟨ns[j], List.getElem_mem _, by rw [← HX2.out, ← HX1.out]; simpa using hx⟩
        go_wp2_with fail
        all_goals go_ret
        exact ⟨_, rfl, hR2, hM2, Lib.hid fun _ => HD.out, Lib.hid fun e => (by cases e)⟩
    · have hjI : (m : Int) - 1 ≤ (j : Int) := by omega
      have HD : Hid (¬ Dup ns t0) := Lib.hid fun ⟨y, hy, he⟩ => by
        obtain ⟨i, hi, rfl⟩ := List.getElem_of_mem hy
        have := HNL.out
        exact HI.out i hi (by omega) he
      go_wp2_with fail
      all_goals go_ret
      exact ⟨_, rfl, hRj, hMj, Lib.hid fun e => (by cases e), Lib.hid fun _ => HD.out⟩
end
section
/- (Hl) A strict reader along an escaped text: it goes as along the text itself. Plain mathematics. -/
open Go.RowKit

/-- From q on t is what s is from p on, escaped. -/
def Al (s t : ByteArray) (p q : Nat) : Prop := p ≤ s.size ∧ q ≤ t.size ∧ sub t q t.size = heL (sub s p s.size)
theorem sub_uncons {t : ByteArray} {q : Nat} {a : Int} {l : List Int} (h : sub t q t.size = a :: l) : q < t.size ∧ bAt t q = a ∧ sub t (q + 1) t.size = l := by
  have hl := sub_len t q t.size
  rw [h] at hl
  have hq : q < t.size := by simp at hl; omega
  rw [sub_cons t hq] at h
  injection h with h1 h2
  exact ⟨hq, h1, h2⟩
def Htm (c : Int) : Prop := c = 60 ∨ c = 62 ∨ c = 38
/-- A byte that stays, and stands for itself alone. -/
def Pn (c : Int) : Prop := c ≠ 60 ∧ c ≠ 62 ∧ c ≠ 38 ∧ c ≠ 226 ∧ c ≠ 92
theorem heL_keep {l : List Int} (h : ¬ (l[0]? = some 128 ∧ (l[1]? = some 168 ∨ l[1]? = some 169))) : heL (226 :: l) = 226 :: heL l := by
  unfold heL
  rw [heS, if_neg (by decide), if_neg (fun e => h e.2)]
theorem heL_sep {c : Int} (l : List Int) (h : c = 168 ∨ c = 169) : heL (226 :: 128 :: c :: l) = [92, 117, 50, 48, 50, hxD (c % 16)] ++ heL l := by
  unfold heL
  rw [heS, if_neg (by decide), if_pos ⟨rfl, rfl, by rcases h with h | h <;> (rw [h]; simp)⟩, heS, heS]
  rfl
theorem heL_nil : heL [] = [] := rfl
theorem heL_ne (a : Int) (l : List Int) : heL (a :: l) ≠ [] := by
  unfold heL
  rw [heS]
  repeat' split
  all_goals simp
/-- The separators of lines. -/
def Sep (s : ByteArray) (p : Nat) : Prop := p + 2 < s.size ∧ bAt s p = 226 ∧ bAt s (p + 1) = 128 ∧ (bAt s (p + 2) = 168 ∨ bAt s (p + 2) = 169)
section
variable {s t : ByteArray} {p q : Nat}
theorem Al.plain (h : Al s t p q) (hp : p < s.size) (h1 : ¬ Htm (bAt s p)) (h2 : bAt s p ≠ 226) : q < t.size ∧ bAt t q = bAt s p ∧ Al s t (p + 1) (q + 1) := by
  obtain ⟨a, b, c⟩ := h
  rw [sub_cons s hp, heL_plain _ h1 h2] at c
  obtain ⟨d1, d2, d3⟩ := sub_uncons c
  exact ⟨d1, d2, by omega, by omega, d3⟩
theorem six {l : List Int} {a b c d e f : Int} (h : sub t q t.size = [a, b, c, d, e, f] ++ l) : q + 6 ≤ t.size ∧ bAt t q = a ∧ bAt t (q + 1) = b ∧ bAt t (q + 2) = c ∧ bAt t (q + 3) = d ∧ bAt t (q + 4) = e ∧ bAt t (q + 5) = f ∧ sub t (q + 6) t.size = l := by
  obtain ⟨a1, a2, h⟩ := sub_uncons h
  obtain ⟨b1, b2, h⟩ := sub_uncons h
  obtain ⟨c1, c2, h⟩ := sub_uncons h
  obtain ⟨d1, d2, h⟩ := sub_uncons h
  obtain ⟨e1, e2, h⟩ := sub_uncons h
  obtain ⟨f1, f2, h⟩ := sub_uncons h
  exact ⟨f1, a2, b2, c2, d2, e2, f2, h⟩
theorem Al.hit (h : Al s t p q) (hp : p < s.size) (h1 : Htm (bAt s p)) : q + 6 ≤ t.size ∧ bAt t q = 92 ∧ bAt t (q + 1) = 117 ∧ bAt t (q + 2) = 48 ∧ bAt t (q + 3) = 48 ∧ bAt t (q + 4) = hxD (bAt s p / 16) ∧ bAt t (q + 5) = hxD (bAt s p % 16) ∧ Al s t (p + 1) (q + 6) := by
  obtain ⟨a, b, c⟩ := h
  rw [sub_cons s hp, heL_hit _ h1] at c
  obtain ⟨d0, d1, d2, d3, d4, d5, d6, d7⟩ := six c
  exact ⟨d0, d1, d2, d3, d4, d5, d6, by omega, by omega, d7⟩
theorem Al.sep (h : Al s t p q) (h1 : Sep s p) : q + 6 ≤ t.size ∧ bAt t q = 92 ∧ bAt t (q + 1) = 117 ∧ bAt t (q + 2) = 50 ∧ bAt t (q + 3) = 48 ∧ bAt t (q + 4) = 50 ∧ bAt t (q + 5) = hxD (bAt s (p + 2) % 16) ∧ Al s t (p + 3) (q + 6) := by
  obtain ⟨a, b, c⟩ := h
  obtain ⟨s1, s2, s3, s4⟩ := h1
  rw [sub_cons s (by omega), sub_cons s (k := p + 1) (by omega), sub_cons s (k := p + 1 + 1) (by omega), s2, s3, heL_sep _ s4] at c
  obtain ⟨d0, d1, d2, d3, d4, d5, d6, d7⟩ := six c
  exact ⟨d0, d1, d2, d3, d4, d5, d6, by omega, by omega, d7⟩
theorem Al.keep (h : Al s t p q) (hp : p < s.size) (h1 : bAt s p = 226) (h2 : ¬ Sep s p) : q < t.size ∧ bAt t q = 226 ∧ Al s t (p + 1) (q + 1) := by
  obtain ⟨a, b, c⟩ := h
  rw [sub_cons s hp, h1, heL_keep] at c
  · obtain ⟨d1, d2, d3⟩ := sub_uncons c
    exact ⟨d1, d2, by omega, by omega, d3⟩
  · rintro ⟨e1, e2⟩
    rw [sub_get] at e1 e2
    apply h2
    by_cases hz : 1 < s.size - (p + 1)
    · rw [if_pos (by omega)] at e1
      rw [if_pos hz] at e2
      refine ⟨by omega, h1, Option.some.inj e1, ?_⟩
      rcases e2 with e2 | e2
      · left; exact Option.some.inj e2
      · right; exact Option.some.inj e2
    · rw [if_neg hz] at e2
      rcases e2 with e2 | e2 <;> cases e2
theorem Al.lt (h : Al s t p q) : p < s.size ↔ q < t.size := by
  obtain ⟨a, b, c⟩ := h
  constructor
  · intro hp
    rw [sub_cons s hp] at c
    rcases Nat.lt_or_ge q t.size with hq | hq
    · exact hq
    · have : sub t q t.size = [] := by unfold sub; rw [show t.size - q = 0 by omega]; rfl
      rw [this] at c
      exact absurd c.symm (heL_ne _ _)
  · intro hq
    rcases Nat.lt_or_ge p s.size with hp | hp
    · exact hp
    · have : sub s p s.size = [] := by unfold sub; rw [show s.size - p = 0 by omega]; rfl
      rw [this, heL_nil] at c
      obtain hl := sub_len t q t.size
      rw [c] at hl
      simp at hl
      omega
theorem Al.or (h : Al s t p q) : bAt t q = bAt s p ∨ (bAt t q = 92 ∧ (Htm (bAt s p) ∨ bAt s p = 226)) := by
  by_cases hp : p < s.size
  · by_cases h1 : Htm (bAt s p)
    · exact .inr ⟨(h.hit hp h1).2.1, .inl h1⟩
    · by_cases h2 : bAt s p = 226
      · by_cases h3 : Sep s p
        · exact .inr ⟨(h.sep h3).2.1, .inr h2⟩
        · exact .inl (by rw [(h.keep hp h2 h3).2.1, h2])
      · exact .inl (h.plain hp h1 h2).2.1
  · have hq := mt h.lt.2 hp
    exact .inl (by rw [bAt_ge hp, bAt_ge hq])
theorem Al.eq (h : Al s t p q) {c : Int} (hc : Pn c) : bAt t q = c ↔ bAt s p = c := by
  unfold Pn at hc
  rcases h.or with e | ⟨e1, e2⟩
  · rw [e]
  · unfold Htm at e2
    constructor <;> intro e <;> omega
theorem Al.uniq {q' : Nat} (h : Al s t p q) (k : Al s t p q') : q = q' := by
  have e : sub t q t.size = sub t q' t.size := h.2.2.trans k.2.2.symm
  have := congrArg List.length e
  rw [sub_len, sub_len] at this
  have := h.2.1
  have := k.2.1
  omega
theorem Al.sp (h : Al s t p q) : isSp (bAt t q) = isSp (bAt s p) := by
  rcases h.or with e | ⟨e1, e2⟩
  · rw [e]
  · rw [e1]
    have : isSp (bAt s p) = false := by
      unfold Htm at e2
      unfold isSp
      simp
      omega
    rw [this]; rfl
theorem Al.dg (h : Al s t p q) : dgB (bAt t q) = dgB (bAt s p) := by
  rcases h.or with e | ⟨e1, e2⟩
  · rw [e]
  · rw [e1]
    have : dgB (bAt s p) = false := by
      unfold Htm at e2
      unfold dgB
      simp
      omega
    rw [this]; rfl
end
/-- A relation between readers of the text and of the escaped one that is kept by steps over plain bytes. -/
structure Clo (s t : ByteArray) (R : St → St → Prop) : Prop where
  al : ∀ {σ τ}, R σ τ → Al s t σ.at_ τ.at_
  step : ∀ {σ τ : St}, R σ τ → σ.at_ < s.size → Pn (bAt s σ.at_) → R σ.at1 τ.at1
def SB (R : St → St → Prop) (p q : Bool × St) : Prop := q.1 = p.1 ∧ (p.1 = true → R p.2 q.2)
section
variable {s t : ByteArray} {R : St → St → Prop}
theorem then_sb {p q : Bool × St} {f g : St → Bool × St} (h : SB R p q) (k : ∀ {σ τ}, R σ τ → SB R (f σ) (g τ)) : SB R (St.andThen p f) (St.andThen q g) := by
  unfold St.andThen
  rw [h.1]
  split
  · rename_i hp; exact k (h.2 hp)
  · exact ⟨rfl, fun e => by cases e⟩
theorem need_sb (C : Clo s t R) {x y : Int} (hx : ∀ c, x ≤ c → c ≤ y → Pn c) {σ τ : St} (h : R σ τ) : SB R (St.need s σ x y) (St.need t τ x y) := by
  have A := C.al h
  unfold St.need
  by_cases hc : σ.at_ < s.size ∧ x ≤ bAt s σ.at_ ∧ bAt s σ.at_ ≤ y
  · have hp := hx _ hc.2.1 hc.2.2
    have e := (A.eq hp).2 rfl
    rw [if_pos hc, if_pos ⟨A.lt.1 hc.1, by rw [e]; exact hc.2.1, by rw [e]; exact hc.2.2⟩]
    exact ⟨rfl, fun _ => C.step h hc.1 hp⟩
  · rw [if_neg hc, if_neg]
    · exact ⟨rfl, fun e => by cases e⟩
    · rintro ⟨k1, k2, k3⟩
      have e := (A.eq (hx _ k2 k3)).1 rfl
      exact hc ⟨A.lt.2 k1, by rw [e]; exact k2, by rw [e]; exact k3⟩
theorem one_pn {c : Int} (h : Pn c) : ∀ d, c ≤ d → d ≤ c → Pn d := fun d h1 h2 => by
  have : d = c := by omega
  rw [this]; exact h
theorem word_sb (C : Clo s t R) : ∀ (l : List Int), (∀ c ∈ l, Pn c) → ∀ {σ τ : St}, R σ τ → SB R (St.word s l σ) (St.word t l τ)
  | [], _, σ, τ, h => ⟨rfl, fun _ => h⟩
  | c :: l, hl, σ, τ, h => by
    unfold St.word
    exact then_sb (need_sb C (one_pn (hl c (.head _))) h) (fun h => word_sb C l (fun d hd => hl d (.tail _ hd)) h)
theorem space_sb (C : Clo s t R) : ∀ (n m : Nat) {σ τ : St}, s.size - σ.at_ ≤ n → t.size - τ.at_ ≤ m → R σ τ → R (St.space s n σ) (St.space t m τ) := by
  intro n
  induction n with
  | zero =>
    intro m σ τ h1 h2 h
    have hq := mt (C.al h).lt.2 (show ¬ σ.at_ < s.size by omega)
    cases m with
    | zero => exact h
    | succ m => unfold St.space; rw [if_neg (fun e => hq e.1)]; exact h
  | succ n ih =>
    intro m σ τ h1 h2 h
    have A := C.al h
    rw [St.space]
    by_cases hc : σ.at_ < s.size ∧ isSp (bAt s σ.at_) = true
    · have hq := A.lt.1 hc.1
      obtain ⟨m', rfl⟩ : ∃ m', m = m' + 1 := ⟨m - 1, by omega⟩
      rw [if_pos hc, St.space, if_pos ⟨hq, by rw [A.sp]; exact hc.2⟩]
      have hp : Pn (bAt s σ.at_) := by
        have := hc.2
        unfold isSp at this
        simp at this
        unfold Pn
        omega
      exact ih m' (by simp; omega) (by simp; omega) (C.step h hc.1 hp)
    · rw [if_neg hc]
      have hq : ¬ (τ.at_ < t.size ∧ isSp (bAt t τ.at_) = true) := fun e => hc ⟨A.lt.2 e.1, by rw [← A.sp]; exact e.2⟩
      cases m with
      | zero => exact h
      | succ m => unfold St.space; rw [if_neg hq]; exact h
theorem sp_sb (C : Clo s t R) {σ τ : St} (h : R σ τ) : R (St.sp s σ) (St.sp t τ) := space_sb C _ _ (Nat.le_refl _) (Nat.le_refl _) h
theorem dgE_sb (C : Clo s t R) : ∀ (n m : Nat) {σ τ : St}, s.size - σ.at_ ≤ n → t.size - τ.at_ ≤ m → R σ τ → R { σ with at_ := dgE s n σ.at_ } { τ with at_ := dgE t m τ.at_ } := by
  intro n
  induction n with
  | zero =>
    intro m σ τ h1 h2 h
    have hq := mt (C.al h).lt.2 (show ¬ σ.at_ < s.size by omega)
    cases m with
    | zero => exact h
    | succ m => rw [dgE, dgE, if_neg (fun e => hq e.1)]; exact h
  | succ n ih =>
    intro m σ τ h1 h2 h
    have A := C.al h
    rw [dgE]
    by_cases hc : σ.at_ < s.size ∧ dgB (bAt s σ.at_) = true
    · have hq := A.lt.1 hc.1
      obtain ⟨m', rfl⟩ : ∃ m', m = m' + 1 := ⟨m - 1, by omega⟩
      rw [if_pos hc, dgE, if_pos ⟨hq, by rw [A.dg]; exact hc.2⟩]
      have hp : Pn (bAt s σ.at_) := by
        have := hc.2
        unfold dgB at this
        simp at this
        unfold Pn
        omega
      exact ih m' (σ := σ.at1) (τ := τ.at1) (by simp [St.at1]; omega) (by simp [St.at1]; omega) (C.step h hc.1 hp)
    · rw [if_neg hc]
      have hq : ¬ (τ.at_ < t.size ∧ dgB (bAt t τ.at_) = true) := fun e => hc ⟨A.lt.2 e.1, by rw [← A.dg]; exact e.2⟩
      cases m with
      | zero => exact h
      | succ m => rw [dgE, if_neg hq]; exact h
theorem digits_sb (C : Clo s t R) {σ τ : St} (h : R σ τ) : SB R (St.digits s σ) (St.digits t τ) := by
  unfold St.digits
  exact then_sb (need_sb C (fun c h1 h2 => by unfold Pn; omega) h) fun h => ⟨rfl, fun _ => dgE_sb C _ _ (Nat.le_refl _) (Nat.le_refl _) h⟩
theorem at1_sb (C : Clo s t R) {σ τ : St} (h : R σ τ) {c : Int} (hc : Pn c) (h0 : c ≠ 0) (e : bAt s σ.at_ = c) : R σ.at1 τ.at1 :=
  C.step h (St.byte_in (by rw [e]; exact h0)) (by rw [e]; exact hc)
theorem pn_of {c : Int} (h : c < 60) (h2 : c ≠ 38) : Pn c := by unfold Pn; omega
theorem number_sb (C : Clo s t R) {σ τ : St} (h : R σ τ) : SB R (St.number s σ) (St.number t τ) := by
  unfold St.number
  have p45 : Pn 45 := pn_of (by decide) (by decide)
  have p43 : Pn 43 := pn_of (by decide) (by decide)
  have p48 : Pn 48 := pn_of (by decide) (by decide)
  have p46 : Pn 46 := pn_of (by decide) (by decide)
  have p101 : Pn 101 := by unfold Pn; decide
  have p69 : Pn 69 := by unfold Pn; decide
  have h1 : R (St.sgn s σ) (St.sgn t τ) := by
    unfold St.sgn
    by_cases e : bAt s σ.at_ = 45
    · rw [if_pos e, if_pos (((C.al h).eq p45).2 e)]; exact at1_sb C h p45 (by decide) e
    · rw [if_neg e, if_neg (mt ((C.al h).eq p45).1 e)]; exact h
  refine then_sb (?_ : SB R _ _) fun {σ τ} h => then_sb (?_ : SB R _ _) fun {σ τ} h => ?_
  · unfold St.numInt
    by_cases e : bAt s (St.sgn s σ).at_ = 48
    · rw [if_pos e, if_pos (((C.al h1).eq p48).2 e)]; exact ⟨rfl, fun _ => at1_sb C h1 p48 (by decide) e⟩
    · rw [if_neg e, if_neg (mt ((C.al h1).eq p48).1 e)]; exact digits_sb C h1
  · unfold St.numFrac
    by_cases e : bAt s σ.at_ = 46
    · rw [if_pos e, if_pos (((C.al h).eq p46).2 e)]; exact digits_sb C (at1_sb C h p46 (by decide) e)
    · rw [if_neg e, if_neg (mt ((C.al h).eq p46).1 e)]; exact ⟨rfl, fun _ => h⟩
  · unfold St.numExp
    have e2 : (bAt t τ.at_ = 101 ∨ bAt t τ.at_ = 69) ↔ (bAt s σ.at_ = 101 ∨ bAt s σ.at_ = 69) := by rw [(C.al h).eq p101, (C.al h).eq p69]
    by_cases e : bAt s σ.at_ = 101 ∨ bAt s σ.at_ = 69
    · rw [if_pos e, if_pos (e2.2 e)]
      have hr : R σ.at1 τ.at1 := by rcases e with e | e; exact at1_sb C h p101 (by decide) e; exact at1_sb C h p69 (by decide) e
      refine digits_sb C ?_
      unfold St.sgn2
      have e3 : (bAt t τ.at1.at_ = 43 ∨ bAt t τ.at1.at_ = 45) ↔ (bAt s σ.at1.at_ = 43 ∨ bAt s σ.at1.at_ = 45) := by rw [(C.al hr).eq p43, (C.al hr).eq p45]
      by_cases f : bAt s σ.at1.at_ = 43 ∨ bAt s σ.at1.at_ = 45
      · rw [if_pos f, if_pos (e3.2 f)]
        rcases f with f | f
        · exact at1_sb C hr p43 (by decide) f
        · exact at1_sb C hr p45 (by decide) f
      · rw [if_neg f, if_neg (mt e3.1 f)]; exact hr
    · rw [if_neg e, if_neg (mt e2.1 e)]; exact ⟨rfl, fun _ => h⟩
end
/-- Readers of the text and of the escaped one. -/
def SA (s t : ByteArray) (σ τ : St) : Prop := Al s t σ.at_ τ.at_ ∧ τ.fault = σ.fault ∧ τ.opn = σ.opn
theorem SA.clo (s t : ByteArray) : Clo s t (SA s t) where
  al := fun h => h.1
  step := fun h h1 h2 => ⟨((h.1).plain h1 (by unfold Pn at h2; unfold Htm; omega) (by unfold Pn at h2; omega)).2.2, h.2.1, h.2.2⟩
/-- Since two places all bytes have been the same. -/
def SN (s t : ByteArray) (p q : Nat) (σ τ : St) : Prop := SA s t σ τ ∧ p ≤ σ.at_ ∧ q ≤ τ.at_ ∧ τ.at_ - q = σ.at_ - p ∧ Same s t p q (σ.at_ - p)
theorem SN.clo (s t : ByteArray) (p q : Nat) : Clo s t (SN s t p q) where
  al := fun h => h.1.1
  step := fun {σ τ} h h1 h2 => by
    obtain ⟨a, b, c, d, e⟩ := h
    have hb := ((a.1).plain h1 (by unfold Pn at h2; unfold Htm; omega) (by unfold Pn at h2; omega)).2.1
    refine ⟨(SA.clo s t).step a h1 h2, by simp [St.at1]; omega, by simp [St.at1]; omega, by simp [St.at1]; omega, fun i hi => ?_⟩
    simp [St.at1] at hi
    by_cases he : i < σ.at_ - p
    · exact e i he
    · obtain rfl : i = σ.at_ - p := by omega
      rw [show p + (σ.at_ - p) = σ.at_ by omega, show q + (σ.at_ - p) = τ.at_ by omega]
      exact hb
theorem uw_len (s : ByteArray) (n : Nat) (h : uw s n ≠ 0) (h1 : 128 ≤ bAt s n) : uw s n = uLen (bAt s n) ∧ uwOk s n (uLen (bAt s n)) (uLo (bAt s n)) (uHi (bAt s n)) = true := by
  have hf := uw_fit s n h
  have hl : n < s.size := by omega
  have hn : ¬ bAt s n < 128 := by omega
  clear hf
  unfold uw at h ⊢
  rw [if_pos hl, if_neg hn] at h ⊢
  by_cases hz : uLen (bAt s n) = 0
  · rw [if_pos hz] at h; exact absurd rfl h
  · rw [if_neg hz] at h ⊢
    by_cases ho : uwOk s n (uLen (bAt s n)) (uLo (bAt s n)) (uHi (bAt s n)) = true
    · rw [if_pos ho]; exact ⟨rfl, ho⟩
    · rw [if_neg ho] at h; exact absurd rfl h
theorem uw_cont (s : ByteArray) (n : Nat) (h : uw s n ≠ 0) (h128 : 128 ≤ bAt s n) (i : Nat) (h0 : 0 < i) (hi : i < uw s n) : bAt s (n + i) ≤ 191 := by
  obtain ⟨e, ho⟩ := uw_len s n h h128
  rw [e] at hi
  unfold uwOk at ho
  simp only [Bool.and_eq_true, decide_eq_true_eq] at ho
  obtain ⟨⟨⟨o1, o2⟩, o3⟩, o4⟩ := ho
  have hhi : uHi (bAt s n) ≤ 191 := by unfold uHi; repeat' split
                                       all_goals omega
  by_cases e1 : i = 1
  · subst e1; omega
  have more : ∀ m b, contN s b m = true → ∀ q, b ≤ q → q < b + m → bAt s q ≤ 191 := by
    intro m
    induction m with
    | zero => intro b _ q h3 h4; omega
    | succ m ih =>
      intro b hb q h3 h4
      unfold contN at hb
      rw [Bool.and_eq_true] at hb
      by_cases e : q = b
      · subst e; have := hb.1; simp [cont] at this; omega
      · exact ih (b + 1) hb.2 q (by omega) (by omega)
  exact more (uLen (bAt s n) - 2) (n + 2) o4 (n + i) (by omega) (by omega)
theorem Dc.al {s t : ByteArray} {n m : Nat} {X : List Int} (h : Dc s n m X) : ∀ {q}, Al s t n q → ∃ q', Dc t q q' X ∧ Al s t m q' := by
  induction h with
  | nil n => intro q A; exact ⟨q, .nil q, A⟩
  | @step n m d o X h r ih =>
    intro q A
    have hf := h.fit
    have hx0 : hexV 48 = 0 := by decide
    have go : ∀ d2, SStp t q d2 o → Al s t (n + d) (q + d2) → ∃ q', Dc t q q' (o ++ X) ∧ Al s t m q' := fun d2 h2 A2 => by
      obtain ⟨q', e1, e2⟩ := ih A2
      exact ⟨q', .step h2 e1, e2⟩
    have run : ∀ k, k ≤ d → (∀ i, i < k → ¬ Htm (bAt s (n + i)) ∧ bAt s (n + i) ≠ 226) → Same s t n q k ∧ Al s t (n + k) (q + k) := by
      intro k
      induction k with
      | zero => intro _ _; exact ⟨fun i hi => absurd hi (by omega), A⟩
      | succ k ihk =>
        intro hk hb
        obtain ⟨a1, a2⟩ := ihk (by omega) (fun i hi => hb i (by omega))
        obtain ⟨b1, b2, b3⟩ := a2.plain (by omega) (hb k (by omega)).1 (hb k (by omega)).2
        refine ⟨fun i hi => ?_, b3⟩
        by_cases e : i < k
        · exact a1 i e
        · obtain rfl : i = k := by omega
          exact b2
    have all : (∀ i, i < d → ¬ Htm (bAt s (n + i)) ∧ bAt s (n + i) ≠ 226) → ∃ q', Dc t q q' (o ++ X) ∧ Al s t m q' := fun hb => by
      obtain ⟨a1, a2⟩ := run d (Nat.le_refl _) hb
      exact go d (h.same a1 a2.2.1) a2
    have hexs : ∀ c, 0 ≤ hexV c → ¬ Htm c ∧ c ≠ 226 := fun c hc => by
      unfold hexV at hc
      unfold Htm
      split at hc
      · omega
      · split at hc
        · omega
        · split at hc
          · omega
          · omega
    cases h with
    | asc h h1 h2 h3 h4 =>
      by_cases hm : Htm (bAt s n)
      · obtain ⟨g0, g1, g2, g3, g4, g5, g6, g7⟩ := A.hit (by omega) hm
        refine go 6 ?_ g7
        have k1 : hexV (hxD (bAt s n / 16)) = bAt s n / 16 := by unfold Htm at hm; rcases hm with e | e | e <;> (rw [e]; decide)
        have k2 : hexV (hxD (bAt s n % 16)) = bAt s n % 16 := by unfold Htm at hm; rcases hm with e | e | e <;> (rw [e]; decide)
        have hA : hexAll t (q + 2) 4 = true := (hexAll4 t (q + 2)).2 (by
          rw [show q + 2 + 1 = q + 3 from rfl, show q + 2 + 2 = q + 4 from rfl, show q + 2 + 3 = q + 5 from rfl, g3, g4, g5, g6, k1, k2, hx0]
          omega)
        have hP : hexPre t (q + 2) 4 = bAt s n := by
          rw [hexPre4, show q + 2 + 1 = q + 3 from rfl, show q + 2 + 2 = q + 4 from rfl, show q + 2 + 3 = q + 5 from rfl, g3, g4, g5, g6, k1, k2, hx0]
          omega
        have := SStp.uni (s := t) (n := q) g0 g1 g2 hA (by rw [hP]; unfold surB; simp; omega)
        rw [hP] at this
        have e : encU (bAt s n) = [bAt s n] := by unfold encU; rw [if_pos h2]
        rwa [e] at this
      · exact all fun i hi => by obtain rfl : i = 0 := by omega
                                 exact ⟨hm, by rw [Nat.add_zero]; omega⟩
    | esc h h1 h2 =>
      refine all fun i hi => ?_
      have : i = 0 ∨ i = 1 := by omega
      unfold EscB at h2
      unfold Htm
      rcases this with rfl | rfl <;> (try rw [Nat.add_zero]) <;> omega
    | uni h h1 h2 h3 h4 =>
      obtain ⟨x1, x2, x3, x4⟩ := (hexAll4 s (n + 2)).1 h3
      refine all fun i hi => ?_
      have : i = 0 ∨ i = 1 ∨ i = 2 ∨ i = 3 ∨ i = 4 ∨ i = 5 := by omega
      rcases this with rfl | rfl | rfl | rfl | rfl | rfl
      · rw [Nat.add_zero]; unfold Htm; omega
      · unfold Htm; omega
      · exact hexs _ x1
      · exact hexs _ x2
      · exact hexs _ x3
      · exact hexs _ x4
    | pair h h1 h2 h3 h4 h5 h6 a1 a2 b1 b2 =>
      obtain ⟨x1, x2, x3, x4⟩ := (hexAll4 s (n + 2)).1 h3
      obtain ⟨y1, y2, y3, y4⟩ := (hexAll4 s (n + 8)).1 h6
      refine all fun i hi => ?_
      have : i = 0 ∨ i = 1 ∨ i = 2 ∨ i = 3 ∨ i = 4 ∨ i = 5 ∨ i = 6 ∨ i = 7 ∨ i = 8 ∨ i = 9 ∨ i = 10 ∨ i = 11 := by omega
      rcases this with rfl | rfl | rfl | rfl | rfl | rfl | rfl | rfl | rfl | rfl | rfl | rfl
      · rw [Nat.add_zero]; unfold Htm; omega
      · unfold Htm; omega
      · exact hexs _ x1
      · exact hexs _ x2
      · exact hexs _ x3
      · exact hexs _ x4
      · unfold Htm; omega
      · unfold Htm; omega
      · exact hexs _ y1
      · exact hexs _ y2
      · exact hexs _ y3
      · exact hexs _ y4
    | run h1 h2 =>
      have hin := uw_inner s n h2
      have hcont : ∀ i, 0 < i → i < uw s n → bAt s (n + i) ≤ 191 := fun i h0 hi => uw_cont s n h2 h1 i h0 hi
      by_cases h226 : bAt s n = 226
      · by_cases hsep : Sep s n
        · have hw : uw s n = 3 := by
            have := (uw_len s n h2 h1).1
            rw [this, h226]; decide
          obtain ⟨g0, g1, g2, g3, g4, g5, g6, g7⟩ := A.sep hsep
          refine go 6 ?_ (by rw [hw]; exact g7)
          obtain ⟨s1, s2, s3, s4⟩ := hsep
          have k2 : hexV (hxD (bAt s (n + 2) % 16)) = bAt s (n + 2) % 16 := by rcases s4 with e | e <;> (rw [e]; decide)
          have k0 : hexV 50 = 2 := by decide
          have hA : hexAll t (q + 2) 4 = true := (hexAll4 t (q + 2)).2 (by
            rw [show q + 2 + 1 = q + 3 from rfl, show q + 2 + 2 = q + 4 from rfl, show q + 2 + 3 = q + 5 from rfl, g3, g4, g5, g6, k0, k2, hx0]
            omega)
          have hP : hexPre t (q + 2) 4 = 8224 + bAt s (n + 2) % 16 := by
            rw [hexPre4, show q + 2 + 1 = q + 3 from rfl, show q + 2 + 2 = q + 4 from rfl, show q + 2 + 3 = q + 5 from rfl, g3, g4, g5, g6, k0, k2, hx0]
            omega
          have := SStp.uni (s := t) (n := q) g0 g1 g2 hA (by rw [hP]; unfold surB; simp; omega)
          rw [hP] at this
          have e : encU (8224 + bAt s (n + 2) % 16) = sub s n (n + uw s n) := by
            rw [hw, show n + 3 = n + 1 + 1 + 1 from rfl, sub_cons s (by omega), sub_cons s (by omega), sub_cons s (by omega), sub_self, s2, s3]
            rcases s4 with e | e <;> (rw [show n + 1 + 1 = n + 2 from rfl, e]; decide)
          rwa [e] at this
        · obtain ⟨b1, b2, b3⟩ := A.keep (by omega) h226 hsep
          have rest : ∀ k, k + 1 ≤ uw s n → Same s t n q (k + 1) ∧ Al s t (n + (k + 1)) (q + (k + 1)) := by
            intro k
            induction k with
            | zero => intro _; exact ⟨fun i hi => by obtain rfl : i = 0 := by omega
                                                     rw [Nat.add_zero, Nat.add_zero, b2, h226], b3⟩
            | succ k ihk =>
              intro hk
              obtain ⟨a1, a2⟩ := ihk (by omega)
              have l1 := hin (n + (k + 1)) (by omega) (by omega)
              have l2 := hcont (k + 1) (by omega) (by omega)
              obtain ⟨c1, c2, c3⟩ := a2.plain (by omega) (by unfold Htm; omega) (by omega)
              refine ⟨fun i hi => ?_, c3⟩
              by_cases e : i < k + 1
              · exact a1 i e
              · obtain rfl : i = k + 1 := by omega
                exact c2
          obtain ⟨a1, a2⟩ := rest (uw s n - 1) (by omega)
          rw [show uw s n - 1 + 1 = uw s n by omega] at a1 a2
          exact go _ ((SStp.run h1 h2).same a1 a2.2.1) a2
      · refine all fun i hi => ?_
        by_cases h0 : i = 0
        · subst h0; exact ⟨by rw [Nat.add_zero]; unfold Htm; omega, by rw [Nat.add_zero]; exact h226⟩
        · have l1 := hin (n + i) (by omega) (by omega)
          have l2 := hcont i (by omega) hi
          exact ⟨by unfold Htm; omega, by omega⟩
end
section
/- (Hm) What a strict reader of the escaped text comes to: the same tree, and no fault. Plain mathematics. -/
open Go.RowKit

/-- A fault is noted just where reading says that it did not go well. -/
def Ft (σ : St) (p : Bool × St) : Prop := (p.1 = false → p.2.fault ≠ 0) ∧ (p.1 = true → p.2.fault = σ.fault)
theorem failn (σ : St) : (σ.fail 4).fault ≠ 0 := by unfold St.fail; split; (show (4 : Int) ≠ 0; decide); assumption
theorem Ft.failed (σ : St) : Ft σ (false, σ.fail 4) := ⟨fun _ => failn σ, fun h => by cases h⟩
theorem Ft.same {σ : St} {n : Nat} : Ft σ (true, { σ with at_ := n }) := ⟨fun h => (by cases h), fun _ => rfl⟩
theorem Ft.then {σ : St} {p : Bool × St} {f : St → Bool × St} (h : Ft σ p) (hf : ∀ τ, Ft τ (f τ)) : Ft σ (St.andThen p f) := by
  unfold St.andThen
  split
  · rename_i hp
    exact ⟨(hf p.2).1, fun e => ((hf p.2).2 e).trans (h.2 hp)⟩
  · rename_i hp
    exact ⟨fun _ => h.1 (by simpa using hp), fun e => by cases e⟩
theorem Ft.at1 {σ : St} {n : Nat} {p : Bool × St} (h : Ft { σ with at_ := n } p) : Ft σ p := h
section
variable (s : ByteArray)
theorem need_ft (σ : St) (x y : Int) : Ft σ (St.need s σ x y) := by unfold St.need; split; exact Ft.same; exact Ft.failed σ
theorem hex_ft (σ : St) (x y : Int) : Ft σ (St.hex s σ x y) := by unfold St.hex; split; exact Ft.failed σ; exact Ft.same
theorem hex2_ft (σ : St) : Ft σ (St.hex2 s σ) := (hex_ft s σ 0 15).then fun τ => hex_ft s τ 0 15
theorem hex3_ft (σ : St) : Ft σ (St.hex3 s σ) := (hex_ft s σ 0 15).then fun τ => hex2_ft s τ
theorem hex4_ft (σ : St) : Ft σ (St.hex4 s σ) := (hex_ft s σ 0 15).then fun τ => hex3_ft s τ
theorem unit_ft (lo low : Bool) (σ : St) : Ft σ ((St.unit s lo low σ).1, (St.unit s lo low σ).2.2) := by
  unfold St.unit
  split
  · exact hex4_ft s σ
  · dsimp only
    split
    · rename_i hp
      have h1 := hex_ft s σ (St.unitX low) (St.unitY low)
      have h2 := (hex_ft s (St.hex s σ (St.unitX low) (St.unitY low)).2 (St.unitLo low) (St.unitHi low (hexV (bAt s σ.at_)))).then (f := fun σ => St.hex2 s σ) fun τ => hex2_ft s τ
      exact ⟨h2.1, fun e => (h2.2 e).trans (h1.2 hp)⟩
    · rename_i hp
      exact ⟨fun _ => (hex_ft s σ _ _).1 (by simpa using hp), fun e => by cases e⟩
theorem escape_ft (lo : Bool) (σ : St) : Ft σ (St.escape s lo σ) := by
  unfold St.escape
  dsimp only
  split
  · exact Ft.same
  · split
    · have hu := (unit_ft s lo false { σ with at_ := σ.at_ + 1 }).at1
      split
      · rename_i hh
        rw [Bool.and_eq_true] at hh
        have h2 := (need_ft s (St.unit s lo false { σ with at_ := σ.at_ + 1 }).2.2 92 92).then (f := fun σ => St.andThen (St.need s σ 117 117) fun σ => ((St.unit s lo true σ).1, (St.unit s lo true σ).2.2)) fun τ => (need_ft s τ 117 117).then fun τ => unit_ft s lo true τ
        exact ⟨h2.1, fun e => (h2.2 e).trans (hu.2 hh.1)⟩
      · exact hu
    · exact Ft.failed σ
theorem rune_ft (σ : St) : Ft σ (St.rune s σ) := by
  unfold St.rune
  dsimp only
  split
  · exact (need_ft s _ _ _).at1
  · split
    · exact ((need_ft s _ _ _).then fun τ => need_ft s τ 128 191).at1
    · split
      · exact ((need_ft s _ _ _).then fun τ => (need_ft s τ 128 191).then fun τ => need_ft s τ 128 191).at1
      · exact Ft.failed σ
theorem inner_ft (lo : Bool) (σ : St) : Ft σ (St.inner s lo σ) := by
  unfold St.inner
  dsimp only
  split
  · exact (escape_ft s lo _).at1
  · split
    · exact Ft.failed σ
    · split
      · exact Ft.same
      · exact rune_ft s σ
theorem loop_ft (lo : Bool) : ∀ (g : Nat) (σ : St), Ft σ (St.strLoop s lo g σ)
  | 0, σ => Ft.failed σ
  | g + 1, σ => by
    unfold St.strLoop
    split
    · split
      · exact ⟨fun h => (by cases h), fun _ => rfl⟩
      · exact (inner_ft s lo σ).then fun τ => loop_ft lo g τ
    · exact Ft.failed σ
theorem quoted_ft (lo : Bool) (σ : St) : Ft σ (St.quoted s lo σ) := (need_ft s σ 34 34).then fun τ => loop_ft s lo _ τ
end
/-- Two texts of one string. -/
def SmS (M : Nat) (t t' : ByteArray) : Prop := ∃ X, StrT t X ∧ StrT t' X ∧ t.size ≤ M ∧ t'.size ≤ M
def Fn (M : Nat) : List ByteArray → List ByteArray → Prop
  | [], l => l = []
  | x :: ns, l => ∃ x' r, l = x' :: r ∧ SmS M x x' ∧ Fn M ns r
def Pw (ns : List ByteArray) : Prop := ns.Pairwise fun a b => decF a ≠ decF b
mutual
/-- Two values mean the same. -/
def LkN (M : Nat) : Nd → Nd → Prop
  | .mk k t ns ks, .mk k' t' ns' ks' => k' = k ∧ (k = 48 → t' = t ∧ t.size ≤ M) ∧ (k = 34 → SmS M t t') ∧ (k = 123 → Fn M ns ns' ∧ ks.length = ns.length ∧ Pw ns) ∧ LkK M ks ks'
def LkK (M : Nat) : List Nd → List Nd → Prop
  | [], l => l = []
  | n :: ks, l => ∃ n' r, l = n' :: r ∧ LkN M n n' ∧ LkK M ks r
end
theorem SmS.dec {M : Nat} {t t' : ByteArray} (h : SmS M t t') : decF t' = decF t := by
  obtain ⟨X, h1, h2, _⟩ := h
  rw [decF_str h1, decF_str h2]
theorem Fn.snoc {M : Nat} {x x' : ByteArray} (hx : SmS M x x') : ∀ (ns ns' : List ByteArray), Fn M ns ns' → Fn M (ns ++ [x]) (ns' ++ [x'])
  | [], ns', h => by
    rw [Fn] at h
    subst h
    exact ⟨x', [], rfl, hx, rfl⟩
  | y :: ns, ns', h => by
    obtain ⟨y', r, rfl, h1, h2⟩ := h
    exact ⟨y', r ++ [x'], rfl, h1, Fn.snoc hx ns r h2⟩
theorem Fn.dup {M : Nat} {x x' : ByteArray} (hx : SmS M x x') : ∀ (ns ns' : List ByteArray), Fn M ns ns' → Dup ns' x' → Dup ns x
  | [], ns', h, ⟨y, hy, _⟩ => by
    rw [Fn] at h
    subst h
    cases hy
  | z :: ns, ns', h, ⟨y, hy, he⟩ => by
    obtain ⟨z', r, rfl, h1, h2⟩ := h
    rcases List.mem_cons.1 hy with rfl | hy
    · exact ⟨z, .head _, by rw [← h1.dec, he, hx.dec]⟩
    · obtain ⟨u, hu, hue⟩ := Fn.dup hx ns r h2 ⟨y, hy, he⟩
      exact ⟨u, .tail _ hu, hue⟩
theorem Pw.snoc {ns : List ByteArray} {x : ByteArray} (h : Pw ns) (hx : ¬ Dup ns x) : Pw (ns ++ [x]) := by
  unfold Pw at h ⊢
  rw [List.pairwise_append]
  refine ⟨h, List.pairwise_singleton _ _, fun a ha b hb => ?_⟩
  obtain rfl : b = x := by simpa using hb
  exact fun e => hx ⟨a, ha, e⟩
section
variable {s t : ByteArray} {M : Nat}
theorem SB.ok {R : St → St → Prop} {p q : Bool × St} (h : SB R p q) {σ' : St} (hp : p = (true, σ')) : ∃ τ', q = (true, τ') ∧ R σ' τ' := by
  subst hp
  exact ⟨q.2, Prod.ext h.1 rfl, h.2 rfl⟩
theorem quoted_al (hs : s.size ≤ M) (ht : t.size ≤ M) {σ σ1 τ : St} (h : St.quoted s false σ = (true, σ1)) (A : SA s t σ τ) :
    ∃ τ1, St.quoted t false τ = (true, τ1) ∧ SA s t σ1 τ1 ∧ SmS M (s.extract σ.at_ (σ1.at_ + 1)) (t.extract τ.at_ (τ1.at_ + 1)) ∧ bAt s σ1.at_ = 34 ∧ σ1.at_ < s.size := by
  obtain ⟨X, a1, a2, a3, a4, a5, a6⟩ := quoted_str h
  have p34 : Pn 34 := pn_of (by decide) (by decide)
  have hlt : σ.at_ < s.size := St.byte_in (by rw [a1]; decide)
  have b1 := (A.1.eq p34).2 a1
  have A1 := (A.1.plain hlt (by rw [a1]; unfold Htm; decide) (by rw [a1]; decide)).2.2
  obtain ⟨q', d1, d2⟩ := a2.al A1
  have b2 := (d2.eq p34).2 a4
  have b3 := d2.lt.1 a5
  obtain ⟨τa, τf, τo⟩ := τ
  dsimp only at *
  have hq := quoted_mk false τf τo b1 d1 b2 b3
  obtain ⟨Y, c1, c2, c3, c4, c5, c6⟩ := quoted_str hq
  dsimp only at c2 c6
  have hst : StrT (t.extract τa (q' + 1)) X := by
    have hle := d1.le
    obtain ⟨N, hN⟩ : ∃ N, t.extract τa (q' + 1) = N := ⟨_, rfl⟩
    obtain ⟨hz, hb⟩ := ext_byte hN (by omega) (by omega)
    rw [hN]
    refine ⟨by omega, ?_⟩
    have := d1.same (t := N) 1 (fun i hi => by rw [hb _ (by omega)]; congr 1; omega) (by omega)
    rw [show 1 + (q' - (τa + 1)) = N.size - 1 by omega] at this
    exact this
  refine ⟨_, hq, ⟨d2, ?_, ?_⟩, ⟨X, a6, hst, by rw [ByteArray.size_extract]; omega, by rw [ByteArray.size_extract]; omega⟩, a4, a5⟩
  · rw [a3]; exact A.2.1
  · rw [a3]; exact A.2.2
theorem scN_lk (hs : s.size ≤ M) {σ σ' τ τ' : St} {c : Int} (e1 : bAt s σ.at_ = c) (e2 : bAt t τ.at_ = c) (h48 : c = 45 ∨ (48 ≤ c ∧ c ≤ 57) → t.extract τ.at_ τ'.at_ = s.extract σ.at_ σ'.at_)
    (h34 : c = 34 → SmS M (s.extract σ.at_ σ'.at_) (t.extract τ.at_ τ'.at_)) (h123 : c ≠ 123) : LkN M (scN s σ σ') (scN t τ τ') := by
  unfold scN
  rw [e1, e2, LkN]
  refine ⟨rfl, fun h => ?_, fun h => ?_, fun h => ?_, by rw [LkK]⟩
  · have hc : c = 45 ∨ (48 ≤ c ∧ c ≤ 57) := by
      unfold kdS at h
      split at h
      · assumption
      · omega
    exact ⟨h48 hc, by rw [ByteArray.size_extract]; omega⟩
  · unfold kdS at h
    split at h
    · omega
    · exact h34 h
  · unfold kdS at h
    split at h
    · omega
    · exact absurd h h123
theorem scalar_al (hs : s.size ≤ M) (ht : t.size ≤ M) {σ σ' τ : St} (h : St.scalarF s false σ = (true, σ')) (A : SA s t σ τ) : ∃ τ', St.scalarF t false τ = (true, τ') ∧ SA s t σ' τ' ∧ LkN M (scN s σ σ') (scN t τ τ') := by
  have p34 : Pn 34 := pn_of (by decide) (by decide)
  have p110 : Pn 110 := by unfold Pn; decide
  have p116 : Pn 116 := by unfold Pn; decide
  have p102 : Pn 102 := by unfold Pn; decide
  have wd : ∀ (c : Int) (l : List Int), Pn c → c ≠ 123 → c ≠ 34 → ¬ (c = 45 ∨ (48 ≤ c ∧ c ≤ 57)) → (∀ d ∈ l, Pn d) → bAt s σ.at_ = c → St.word s l σ = (true, σ') → (∀ x, bAt t τ.at_ = c → St.word t l τ = x → St.scalarF t false τ = x) →
      ∃ τ', St.scalarF t false τ = (true, τ') ∧ SA s t σ' τ' ∧ LkN M (scN s σ σ') (scN t τ τ') := fun c l hc h123 h34 h48 hl e hw hk => by
    have e2 := (A.1.eq hc).2 e
    obtain ⟨τ', h1, h2⟩ := (word_sb (SA.clo s t) l hl A).ok hw
    exact ⟨τ', hk _ e2 h1, h2, scN_lk hs e e2 (fun h => absurd h h48) (fun h => absurd h h34) h123⟩
  unfold St.scalarF at h
  dsimp only at h
  split at h
  · rename_i e
    exact wd 110 _ p110 (by decide) (by decide) (by decide) (by unfold Pn; decide) e h fun x e2 hx => by unfold St.scalarF; dsimp only; rw [if_pos e2]; exact hx
  · split at h
    · rename_i e
      exact wd 116 _ p116 (by decide) (by decide) (by decide) (by unfold Pn; decide) e h fun x e2 hx => by unfold St.scalarF; dsimp only; rw [if_neg (by omega), if_pos e2]; exact hx
    · split at h
      · rename_i e
        exact wd 102 _ p102 (by decide) (by decide) (by decide) (by unfold Pn; decide) e h fun x e2 hx => by unfold St.scalarF; dsimp only; rw [if_neg (by omega), if_neg (by omega), if_pos e2]; exact hx
      · split at h
        · rename_i n1 n2 n3 e
          have e2 := (A.1.eq p34).2 e
          obtain ⟨σ1, g1, g2⟩ := then_ok h
          obtain ⟨τ1, k1, k2, k3, k4, k5⟩ := quoted_al hs ht g1 A
          obtain ⟨τ', m1, m2⟩ := (need_sb (SA.clo s t) (one_pn p34) k2).ok g2
          obtain ⟨_, _, _, hσ⟩ := need_ok g2
          obtain ⟨_, _, _, hτ⟩ := need_ok m1
          refine ⟨τ', ?_, m2, scN_lk hs e e2 (fun h => absurd h (by decide)) (fun _ => by rw [hσ, hτ]; exact k3) (by decide)⟩
          unfold St.scalarF
          dsimp only
          rw [if_neg (by omega), if_neg (by omega), if_neg (by omega), if_pos e2, k1]
          exact m1
        · split at h
          · rename_i n1 n2 n3 n4 e
            have hp : Pn (bAt s σ.at_) := pn_of (by omega) (by omega)
            have e2 := (A.1.eq hp).2 rfl
            have hN : SN s t σ.at_ τ.at_ σ τ := ⟨A, Nat.le_refl _, Nat.le_refl _, by omega, fun i hi => absurd hi (by omega)⟩
            obtain ⟨τ', m1, m2, m3, m4, m5, m6⟩ := (number_sb (SN.clo s t σ.at_ τ.at_) hN).ok h
            refine ⟨τ', ?_, m2, scN_lk hs rfl e2 (fun _ => ?_) (fun h => absurd h n4) (by omega)⟩
            · unfold St.scalarF
              dsimp only
              rw [e2, if_neg n1, if_neg n2, if_neg n3, if_neg n4, if_pos e]
              exact m1
            · apply bl_inj
              rw [bl_sub _ _ _ m2.1.2.1 m4, bl_sub _ _ _ m2.1.1 m3]
              unfold sub
              rw [m5]
              apply List.map_congr_left
              intro i hi
              exact m6 i (List.mem_range.1 hi)
          · cases h
end
def nsOf : Tn → List ByteArray
  | .objL n0 => n0
  | .name n0 => n0
  | _ => []
inductive TgR (M : Nat) : Tn → Tn → Prop
  | val : TgR M .val .val
  | obj : TgR M .obj .obj
  | arr : TgR M .arr .arr
  | arrL : TgR M .arrL .arrL
  | objL {n0 n0'} (h : Fn M n0 n0') : TgR M (.objL n0) (.objL n0')
  | name {n0 n0'} (h : Fn M n0 n0') : TgR M (.name n0) (.name n0')
/-- Members and names are as many. -/
def isO : Tn → Bool
  | .objL _ => true
  | .obj => true
  | _ => false
theorem CnN.lens {s : ByteArray} {tg : Tn} {σ σ' : St} {ns : List ByteArray} {ks : List Nd} (h : CnN s false false tg σ σ' ns ks) : isO tg = true → ks.length = ns.length := by
  induction h with
  | obj0 _ => intro _; rfl
  | objB _ _ ih => intro _; exact ih rfl
  | objE _ _ _ _ _ => intro _; rfl
  | objC _ _ _ _ _ _ _ ih => intro _; simp [ih rfl]
  | _ => intro h; cases h
theorem CnN.al {s t : ByteArray} {M : Nat} (hs : s.size ≤ M) (ht : t.size ≤ M) {tg : Tn} {σ σ' : St} {ns : List ByteArray} {ks : List Nd} (h : CnN s false false tg σ σ' ns ks) :
    ∀ tg' τ, TgR M tg tg' → SA s t σ τ → ∃ τ' ns' ks', CnN t false false tg' τ τ' ns' ks' ∧ SA s t σ' τ' ∧ Fn M ns ns' ∧ LkK M ks ks' ∧ (Pw (nsOf tg) → Pw (nsOf tg ++ ns)) := by
  have C := SA.clo s t
  have p123 : Pn 123 := by unfold Pn; decide
  have p91 : Pn 91 := by unfold Pn; decide
  have p93 : Pn 93 := by unfold Pn; decide
  have p125 : Pn 125 := by unfold Pn; decide
  have p44 : Pn 44 := by unfold Pn; decide
  have p58 : Pn 58 := by unfold Pn; decide
  have p34 : Pn 34 := by unfold Pn; decide
  have same : ∀ {σ τ : St} {c : Int}, SA s t σ τ → Pn c → (bAt t τ.at_ = c ↔ bAt s σ.at_ = c) := fun A hc => A.1.eq hc
  have one : ∀ (n n' : Nd), LkN M n n' → LkK M [n] [n'] := fun n n' h => by rw [LkK]; exact ⟨n', [], rfl, h, by rw [LkK]⟩
  have oneI : ∀ (n : Nd) (l : List Nd), LkK M [n] l → ∃ n', l = [n'] ∧ LkN M n n' := fun n l h => by
    rw [LkK] at h
    obtain ⟨n', r, rfl, h1, h2⟩ := h
    rw [LkK] at h2
    subst h2
    exact ⟨n', rfl, h1⟩
  have fnil : Fn M [] [] := rfl
  induction h with
  | @scal σ σ' h1 h2 h3 =>
    intro tg' τ ht' A
    cases ht'
    have A1 := sp_sb C A
    obtain ⟨τ', k1, k2, k3⟩ := scalar_al hs ht h3 A1
    exact ⟨τ', _, _, .scal (mt (same A1 p123).1 h1) (mt (same A1 p91).1 h2) k1, k2, fnil, one _ _ k3, fun h => by simpa using h⟩
  | @vobj σ σ' ns ks h1 hc ih =>
    intro tg' τ ht' A
    cases ht'
    have A1 := sp_sb C A
    have A2 := at1_sb C A1 p123 (by decide) h1
    obtain ⟨τ', ns', ks', k1, k2, k3, k4, k5⟩ := ih _ _ .obj A2
    refine ⟨τ', _, _, .vobj ((same A1 p123).2 h1) k1, k2, fnil, one _ _ ?_, fun h => by simpa using h⟩
    rw [LkN]
    refine ⟨rfl, fun h => absurd h (by decide), fun h => absurd h (by decide), fun _ => ⟨k3, hc.lens rfl, ?_⟩, k4⟩
    have := k5 List.Pairwise.nil
    simpa [nsOf] using this
  | @varr σ σ' ks h1 hc ih =>
    intro tg' τ ht' A
    cases ht'
    have A1 := sp_sb C A
    have A2 := at1_sb C A1 p91 (by decide) h1
    obtain ⟨τ', ns', ks', k1, k2, k3, k4, k5⟩ := ih _ _ .arr A2
    rw [Fn] at k3
    subst k3
    refine ⟨τ', _, _, .varr ((same A1 p91).2 h1) k1, k2, fnil, one _ _ ?_, fun h => by simpa using h⟩
    rw [LkN]
    exact ⟨rfl, fun h => absurd h (by decide), fun h => absurd h (by decide), fun h => absurd h (by decide), k4⟩
  | @arr0 σ h1 =>
    intro tg' τ ht' A
    cases ht'
    have A1 := sp_sb C A
    exact ⟨_, _, _, .arr0 ((same A1 p93).2 h1), at1_sb C A1 p93 (by decide) h1, fnil, by rw [LkK], fun h => by simpa using h⟩
  | @arrB σ σ' ks h1 hc ih =>
    intro tg' τ ht' A
    cases ht'
    have A1 := sp_sb C A
    obtain ⟨τ', ns', ks', k1, k2, k3, k4, k5⟩ := ih _ _ .arrL A1
    rw [Fn] at k3
    subst k3
    exact ⟨τ', _, _, .arrB (mt (same A1 p93).1 h1) k1, k2, fnil, k4, fun h => by simpa using h⟩
  | @arrE σ σ1 n hc h1 ih =>
    intro tg' τ ht' A
    cases ht'
    obtain ⟨τ1, ns', ks', k1, k2, k3, k4, k5⟩ := ih _ _ .val A
    rw [Fn] at k3
    subst k3
    obtain ⟨n', rfl, hn⟩ := oneI _ _ k4
    have A1 := sp_sb C k2
    exact ⟨_, _, _, .arrE k1 ((same A1 p93).2 h1), at1_sb C A1 p93 (by decide) h1, fnil, k4, fun h => by simpa using h⟩
  | @arrC σ σ1 σ2 σ' n ks hc h1 h2 hr ih1 ih2 =>
    intro tg' τ ht' A
    cases ht'
    obtain ⟨τ1, ns', ks', k1, k2, k3, k4, k5⟩ := ih1 _ _ .val A
    rw [Fn] at k3
    subst k3
    obtain ⟨n', rfl, hn⟩ := oneI _ _ k4
    have A1 := sp_sb C k2
    obtain ⟨τ2, m1, m2⟩ := (need_sb C (one_pn p44) A1).ok h2
    obtain ⟨τ', ns2, ks2, l1, l2, l3, l4, l5⟩ := ih2 _ _ .arrL m2
    rw [Fn] at l3
    subst l3
    exact ⟨τ', _, _, .arrC k1 (mt (same A1 p93).1 h1) m1 l1, l2, fnil, by rw [LkK]; exact ⟨n', ks2, rfl, hn, l4⟩, fun h => by simpa using h⟩
  | @obj0 σ h1 =>
    intro tg' τ ht' A
    cases ht'
    have A1 := sp_sb C A
    exact ⟨_, _, _, .obj0 ((same A1 p125).2 h1), at1_sb C A1 p125 (by decide) h1, fnil, by rw [LkK], fun h => by simpa using h⟩
  | @objB σ σ' ns ks h1 hc ih =>
    intro tg' τ ht' A
    cases ht'
    have A1 := sp_sb C A
    obtain ⟨τ', ns', ks', k1, k2, k3, k4, k5⟩ := ih _ _ (.objL fnil) A1
    exact ⟨τ', _, _, .objB (mt (same A1 p125).1 h1) k1, k2, k3, k4, k5⟩
  | @objE n0 σ σ1 σ2 x n hc hv h1 ih1 ih2 =>
    intro tg' τ ht' A
    cases ht' with
    | objL hf =>
    obtain ⟨τ1, ns', ks', k1, k2, k3, k4, k5⟩ := ih1 _ _ (.name hf) A
    rw [LkK] at k4
    subst k4
    obtain ⟨x', r, rfl, hx, hr⟩ := k3
    rw [Fn] at hr
    subst hr
    obtain ⟨τ2, ns2, ks2, l1, l2, l3, l4, l5⟩ := ih2 _ _ .val k2
    rw [Fn] at l3
    subst l3
    obtain ⟨n', rfl, hn⟩ := oneI _ _ l4
    have A1 := sp_sb C l2
    exact ⟨_, _, _, .objE k1 l1 ((same A1 p125).2 h1), at1_sb C A1 p125 (by decide) h1, ⟨x', [], rfl, hx, rfl⟩, l4, k5⟩
  | @objC n0 σ σ1 σ2 σ3 σ' x n ns ks hc hv h1 h2 hr ih1 ih2 ih3 =>
    intro tg' τ ht' A
    cases ht' with
    | objL hf =>
    obtain ⟨τ1, ns', ks', k1, k2, k3, k4, k5⟩ := ih1 _ _ (.name hf) A
    rw [LkK] at k4
    subst k4
    obtain ⟨x', r, rfl, hx, hr'⟩ := k3
    rw [Fn] at hr'
    subst hr'
    obtain ⟨τ2, ns2, ks2, l1, l2, l3, l4, l5⟩ := ih2 _ _ .val k2
    rw [Fn] at l3
    subst l3
    obtain ⟨n', rfl, hn⟩ := oneI _ _ l4
    have A1 := sp_sb C l2
    obtain ⟨τ3, m1, m2⟩ := (need_sb C (one_pn p44) A1).ok h2
    obtain ⟨τ', ns3, ks3, o1, o2, o3, o4, o5⟩ := ih3 _ _ (.objL (hf.snoc hx)) (sp_sb C m2)
    refine ⟨τ', _, _, .objC k1 l1 (mt (same A1 p125).1 h1) m1 o1, o2, ⟨x', ns3, rfl, hx, o3⟩, by rw [LkK]; exact ⟨n', ks3, rfl, hn, o4⟩, fun h => ?_⟩
    have := o5 (k5 h)
    rw [nsOf, List.append_assoc] at this
    exact this
  | @nameY n0 σ σ1 σ' hq hd hn =>
    intro tg' τ ht' A
    cases ht' with
    | name hf =>
    obtain ⟨τ1, k1, k2, k3, k4, k5⟩ := quoted_al hs ht hq A
    have A1 := sp_sb C (at1_sb C k2 p34 (by decide) k4)
    obtain ⟨τ', m1, m2⟩ := (need_sb C (one_pn p58) A1).ok hn
    exact ⟨τ', _, _, .nameY k1 (fun e hdup => hd e (Fn.dup k3 _ _ hf hdup)) m1, m2, ⟨_, [], rfl, k3, rfl⟩, by rw [LkK], fun h => h.snoc (hd rfl)⟩
theorem quoted_q {s : ByteArray} {lo : Bool} {σ σ1 : St} (h : St.quoted s lo σ = (true, σ1)) : bAt s σ.at_ = 34 := by
  obtain ⟨τ, g1, _⟩ := then_ok h
  obtain ⟨_, a, b, _⟩ := need_ok g1
  omega
/-- A name is read in one way. -/
theorem CnN.name_fun {s : ByteArray} {tw lo : Bool} {n0 : List ByteArray} {σ σ1 σ2 : St} {x y : ByteArray} (h : CnN s tw lo (.name n0) σ σ1 [x] []) (k : CnN s tw lo (.name n0) σ σ2 [y] []) : σ2 = σ1 ∧ y = x := by
  cases h with
  | nameY h1 h2 h3 =>
    cases k with
    | nameY k1 k2 k3 =>
      rw [h1] at k1
      injection k1 with _ k1
      subst k1
      rw [h3] at k3
      injection k3 with _ k3
      exact ⟨k3.symm, rfl⟩
theorem CnN.det {s : ByteArray} {tw lo : Bool} {tg : Tn} {σ σ' : St} {ns : List ByteArray} {ks : List Nd} (h : CnN s tw lo tg σ σ' ns ks) : ∀ r σ'', RdN s tw lo tg σ r σ'' → r = true ∧ σ'' = σ' := by
  have pr : ∀ {p : Bool × St} {σ' : St} {r : Bool} {σ'' : St}, p = (true, σ') → p = (r, σ'') → r = true ∧ σ'' = σ' := fun h k => by
    rw [h] at k
    injection k with k1 k2
    exact ⟨k1.symm, k2.symm⟩
  induction h with
  | scal h1 h2 h3 =>
    intro r σ'' k
    cases k with
    | scal k1 k2 k3 => exact pr h3 k3
    | vobj k1 _ => exact absurd k1 h1
    | varr k1 _ => exact absurd k1 h2
  | vobj h1 _ ih =>
    intro r σ'' k
    cases k with
    | scal k1 _ _ => exact absurd h1 k1
    | vobj _ k2 => exact ih _ _ k2
    | varr k1 _ => omega
  | varr h1 _ ih =>
    intro r σ'' k
    cases k with
    | scal _ k1 _ => exact absurd h1 k1
    | vobj k1 _ => omega
    | varr _ k2 => exact ih _ _ k2
  | arr0 h1 =>
    intro r σ'' k
    cases k with
    | arr0 _ => exact ⟨rfl, rfl⟩
    | arrB k1 _ => exact absurd h1 k1
  | arrB h1 _ ih =>
    intro r σ'' k
    cases k with
    | arr0 k1 => exact absurd k1 h1
    | arrB _ k2 => exact ih _ _ k2
  | arrE _ h1 ih =>
    intro r σ'' k
    cases k with
    | arrF k1 => have := (ih _ _ k1).1; cases this
    | arrE k1 k2 => obtain ⟨_, rfl⟩ := ih _ _ k1; exact ⟨rfl, rfl⟩
    | arrN k1 k2 _ => obtain ⟨_, rfl⟩ := ih _ _ k1; exact absurd h1 k2
    | arrC k1 k2 _ _ => obtain ⟨_, rfl⟩ := ih _ _ k1; exact absurd h1 k2
  | arrC _ h1 h2 _ ih1 ih2 =>
    intro r σ'' k
    cases k with
    | arrF k1 => have := (ih1 _ _ k1).1; cases this
    | arrE k1 k2 => obtain ⟨_, rfl⟩ := ih1 _ _ k1; exact absurd k2 h1
    | arrN k1 _ k3 => obtain ⟨_, rfl⟩ := ih1 _ _ k1; have := (pr h2 k3).1; cases this
    | arrC k1 _ k3 k4 =>
      obtain ⟨_, rfl⟩ := ih1 _ _ k1
      obtain ⟨_, rfl⟩ := pr h2 k3
      exact ih2 _ _ k4
  | obj0 h1 =>
    intro r σ'' k
    cases k with
    | obj0 _ => exact ⟨rfl, rfl⟩
    | objB k1 _ => exact absurd h1 k1
  | objB h1 _ ih =>
    intro r σ'' k
    cases k with
    | obj0 k1 => exact absurd k1 h1
    | objB _ k2 => exact ih _ _ k2
  | objE hc _ h1 ih1 ih2 =>
    intro r σ'' k
    cases k with
    | objF k1 => have := (ih1 _ _ k1).1; cases this
    | objV k1 k2 => obtain ⟨_, rfl⟩ := ih1 _ _ k1; have := (ih2 _ _ k2).1; cases this
    | objE k1 k2 _ => obtain ⟨_, rfl⟩ := ih1 _ _ k1; obtain ⟨_, rfl⟩ := ih2 _ _ k2; exact ⟨rfl, rfl⟩
    | objN k1 k2 k3 _ => obtain ⟨_, rfl⟩ := ih1 _ _ k1; obtain ⟨_, rfl⟩ := ih2 _ _ k2; exact absurd h1 k3
    | objC k1 k2 k3 _ _ => obtain ⟨rfl, rfl⟩ := hc.name_fun k1; obtain ⟨_, rfl⟩ := ih2 _ _ k2; exact absurd h1 k3
  | objC hc _ h1 h2 _ ih1 ih2 ih3 =>
    intro r σ'' k
    cases k with
    | objF k1 => have := (ih1 _ _ k1).1; cases this
    | objV k1 k2 => obtain ⟨_, rfl⟩ := ih1 _ _ k1; have := (ih2 _ _ k2).1; cases this
    | objE k1 k2 k3 => obtain ⟨_, rfl⟩ := ih1 _ _ k1; obtain ⟨_, rfl⟩ := ih2 _ _ k2; exact absurd k3 h1
    | objN k1 k2 _ k4 => obtain ⟨_, rfl⟩ := ih1 _ _ k1; obtain ⟨_, rfl⟩ := ih2 _ _ k2; have := (pr h2 k4).1; cases this
    | objC k1 k2 _ k4 k5 =>
      obtain ⟨rfl, rfl⟩ := hc.name_fun k1
      obtain ⟨_, rfl⟩ := ih2 _ _ k2
      obtain ⟨_, rfl⟩ := pr h2 k4
      exact ih3 _ _ k5
  | nameY h1 h2 h3 =>
    intro r σ'' k
    cases k with
    | nameK k1 _ => exact absurd (quoted_q h1) k1
    | nameQ k1 => have := (pr h1 k1).1; cases this
    | nameT k1 e k2 _ => obtain ⟨_, rfl⟩ := pr h1 k1; exact absurd k2 (h2 e)
    | nameY k1 _ k3 => obtain ⟨_, rfl⟩ := pr h1 k1; exact pr h3 k3
/-- What is read is read in one way. -/
theorem CnN.fun_ {s : ByteArray} {tw lo : Bool} {tg : Tn} {σ σ' : St} {ns : List ByteArray} {ks : List Nd} (h : CnN s tw lo tg σ σ' ns ks) : ∀ σ2 ns2 ks2, CnN s tw lo tg σ σ2 ns2 ks2 → σ2 = σ' ∧ ns2 = ns ∧ ks2 = ks := by
  have pr : ∀ {p : Bool × St} {σ' σ'' : St}, p = (true, σ') → p = (true, σ'') → σ'' = σ' := fun h k => by
    rw [h] at k
    injection k with _ k2
    exact k2.symm
  induction h with
  | scal h1 h2 h3 =>
    intro σ2 ns2 ks2 k
    cases k with
    | scal k1 k2 k3 => obtain rfl := pr h3 k3; exact ⟨rfl, rfl, rfl⟩
    | vobj k1 _ => exact absurd k1 h1
    | varr k1 _ => exact absurd k1 h2
  | vobj h1 _ ih =>
    intro σ2 ns2 ks2 k
    cases k with
    | scal k1 _ _ => exact absurd h1 k1
    | vobj _ k2 => obtain ⟨rfl, rfl, rfl⟩ := ih _ _ _ k2; exact ⟨rfl, rfl, rfl⟩
    | varr k1 _ => omega
  | varr h1 _ ih =>
    intro σ2 ns2 ks2 k
    cases k with
    | scal _ k1 _ => exact absurd h1 k1
    | vobj k1 _ => omega
    | varr _ k2 => obtain ⟨rfl, _, rfl⟩ := ih _ _ _ k2; exact ⟨rfl, rfl, rfl⟩
  | arr0 h1 =>
    intro σ2 ns2 ks2 k
    cases k with
    | arr0 _ => exact ⟨rfl, rfl, rfl⟩
    | arrB k1 _ => exact absurd h1 k1
  | arrB h1 _ ih =>
    intro σ2 ns2 ks2 k
    cases k with
    | arr0 k1 => exact absurd k1 h1
    | arrB _ k2 => exact ih _ _ _ k2
  | arrE _ h1 ih =>
    intro σ2 ns2 ks2 k
    cases k with
    | arrE k1 k2 => obtain ⟨rfl, _, e⟩ := ih _ _ _ k1; exact ⟨rfl, rfl, e⟩
    | arrC k1 k2 _ _ => obtain ⟨rfl, _, _⟩ := ih _ _ _ k1; exact absurd h1 k2
  | arrC _ h1 h2 _ ih1 ih2 =>
    intro σ2 ns2 ks2 k
    cases k with
    | arrE k1 k2 => obtain ⟨rfl, _, _⟩ := ih1 _ _ _ k1; exact absurd k2 h1
    | arrC k1 _ k3 k4 =>
      obtain ⟨rfl, _, e⟩ := ih1 _ _ _ k1
      obtain rfl := pr h2 k3
      obtain ⟨rfl, _, rfl⟩ := ih2 _ _ _ k4
      injection e with e _
      subst e
      exact ⟨rfl, rfl, rfl⟩
  | obj0 h1 =>
    intro σ2 ns2 ks2 k
    cases k with
    | obj0 _ => exact ⟨rfl, rfl, rfl⟩
    | objB k1 _ => exact absurd h1 k1
  | objB h1 _ ih =>
    intro σ2 ns2 ks2 k
    cases k with
    | obj0 k1 => exact absurd k1 h1
    | objB _ k2 => exact ih _ _ _ k2
  | objE _ _ h1 ih1 ih2 =>
    intro σ2 ns2 ks2 k
    cases k with
    | objE k1 k2 _ => obtain ⟨rfl, e1, _⟩ := ih1 _ _ _ k1; obtain ⟨rfl, _, e2⟩ := ih2 _ _ _ k2; exact ⟨rfl, e1, e2⟩
    | objC k1 k2 k3 _ _ => obtain ⟨rfl, _, _⟩ := ih1 _ _ _ k1; obtain ⟨rfl, _, _⟩ := ih2 _ _ _ k2; exact absurd h1 k3
  | objC _ _ h1 h2 _ ih1 ih2 ih3 =>
    intro σ2 ns2 ks2 k
    cases k with
    | objE k1 k2 k3 => obtain ⟨rfl, _, _⟩ := ih1 _ _ _ k1; obtain ⟨rfl, _, _⟩ := ih2 _ _ _ k2; exact absurd k3 h1
    | objC k1 k2 _ k4 k5 =>
      obtain ⟨rfl, e1, _⟩ := ih1 _ _ _ k1
      obtain ⟨rfl, _, e2⟩ := ih2 _ _ _ k2
      obtain rfl := pr h2 k4
      injection e1 with e1 _
      injection e2 with e2 _
      subst e1 e2
      obtain ⟨rfl, rfl, rfl⟩ := ih3 _ _ _ k5
      exact ⟨rfl, rfl, rfl⟩
  | nameY h1 h2 h3 =>
    intro σ2 ns2 ks2 k
    cases k with
    | nameY k1 _ k3 => obtain rfl := pr h1 k1; obtain rfl := pr h3 k3; exact ⟨rfl, rfl, rfl⟩
theorem CnN.val_fun {s : ByteArray} {tw lo : Bool} {σ σ' : St} {n n2 : Nd} (h : CnN s tw lo .val σ σ' [] [n]) (k : CnN s tw lo .val σ σ' [] [n2]) : n2 = n := by
  obtain ⟨_, _, e⟩ := h.fun_ _ _ _ k
  injection e
/-- A fault is noted where reading says that it did not go well. -/
def Ff (p : Bool × St) : Prop := p.1 = false → p.2.fault ≠ 0
theorem Ff.then {p : Bool × St} {f : St → Bool × St} (h : Ff p) (hf : ∀ τ, Ff (f τ)) : Ff (St.andThen p f) := by
  unfold St.andThen
  split
  · exact hf p.2
  · rename_i hp
    exact fun _ => h (by simpa using hp)
theorem Ff.ok {σ : St} : Ff (true, σ) := fun h => by cases h
section
variable (s : ByteArray)
theorem need_ff (σ : St) (x y : Int) : Ff (St.need s σ x y) := (need_ft s σ x y).1
theorem word_ff : ∀ (l : List Int) (σ : St), Ff (St.word s l σ)
  | [], σ => Ff.ok
  | c :: l, σ => by
    unfold St.word
    exact (need_ff s σ c c).then fun τ => word_ff l τ
theorem digits_ff (σ : St) : Ff (St.digits s σ) := by
  unfold St.digits
  exact (need_ff s σ 48 57).then fun τ => Ff.ok
theorem number_ff (σ : St) : Ff (St.number s σ) := by
  unfold St.number
  refine Ff.then ?_ fun τ => Ff.then ?_ fun τ => ?_
  · unfold St.numInt; split; exact Ff.ok; exact digits_ff s _
  · unfold St.numFrac; split; exact digits_ff s _; exact Ff.ok
  · unfold St.numExp; split; exact digits_ff s _; exact Ff.ok
theorem scalar_ff (lo : Bool) (σ : St) : Ff (St.scalarF s lo σ) := by
  unfold St.scalarF
  dsimp only
  split
  · exact word_ff s _ σ
  · split
    · exact word_ff s _ σ
    · split
      · exact word_ff s _ σ
      · split
        · exact Ff.then (quoted_ft s lo σ).1 fun τ => need_ff s τ 34 34
        · split
          · exact number_ff s σ
          · exact fun _ => failn σ
end
theorem RdN.ff {s : ByteArray} {tw lo : Bool} {tg : Tn} {σ : St} {r : Bool} {σ' : St} (h : RdN s tw lo tg σ r σ') : r = false → σ'.fault ≠ 0 := by
  have pf : ∀ {p : Bool × St} {r : Bool} {σ' : St}, Ff p → p = (r, σ') → r = false → σ'.fault ≠ 0 := fun h e => by subst e; exact h
  induction h with
  | scal _ _ h => exact pf (scalar_ff s lo _) h
  | vobj _ _ ih => exact ih
  | varr _ _ ih => exact ih
  | arr0 _ => intro h; cases h
  | arrB _ _ ih => exact ih
  | arrF _ ih => exact ih
  | arrE _ _ _ => intro h; cases h
  | arrN _ _ h _ => exact pf (need_ff s _ _ _) h
  | arrC _ _ _ _ _ ih => exact ih
  | obj0 _ => intro h; cases h
  | objB _ _ ih => exact ih
  | objF _ ih => exact ih
  | objV _ _ _ ih => exact ih
  | objE _ _ _ _ _ => intro h; cases h
  | objN _ _ _ h _ _ => exact pf (need_ff s _ _ _) h
  | objC _ _ _ _ _ _ ih => exact ih
  | nameK _ h => exact fun _ => h
  | nameQ h => exact pf (quoted_ft s lo _).1 h
  | nameT _ _ _ h => exact fun _ => h
  | nameY _ _ h => exact pf (need_ff s _ _ _) h
theorem quoted_loose {s : ByteArray} {σ σ' : St} (h : St.quoted s false σ = (true, σ')) : St.quoted s true σ = (true, σ') := by
  obtain ⟨X, a1, a2, a3, a4, a5, _⟩ := quoted_str h
  obtain ⟨n, f, p⟩ := σ
  have := quoted_mk true f p a1 a2 a4 a5
  rw [this]
  rw [a3]
theorem scalar_loose {s : ByteArray} {σ σ' : St} (h : St.scalarF s false σ = (true, σ')) : St.scalarF s true σ = (true, σ') := by
  unfold St.scalarF at h ⊢
  dsimp only at h ⊢
  repeat' split at h
  all_goals first
    | (rename_i n1 n2 n3 e; rw [if_neg n1, if_neg n2, if_neg n3, if_pos e]; obtain ⟨σ1, g1, g2⟩ := then_ok h; rw [quoted_loose g1]; exact g2)
    | (rename_i e; rw [if_pos e]; exact h)
    | (rename_i n1 e; rw [if_neg n1, if_pos e]; exact h)
    | (rename_i n1 n2 e; rw [if_neg n1, if_neg n2, if_pos e]; exact h)
    | (rename_i n1 n2 n3 n4 e; rw [if_neg n1, if_neg n2, if_neg n3, if_neg n4, if_pos e]; exact h)
    | cases h
def tgO : Tn → Tg
  | .val => .val
  | .obj => .obj
  | .objL _ => .objL
  | .name _ => .name
  | .arr => .arr
  | .arrL => .arrL
/-- A loose reader, with names twice, takes what a strict one takes. -/
theorem CnN.loose {s : ByteArray} {tg : Tn} {σ σ' : St} {ns : List ByteArray} {ks : List Nd} (h : CnN s false false tg σ σ' ns ks) : RdR s true true (tgO tg) σ true σ' := by
  induction h with
  | scal h1 h2 h3 => exact .scal h1 h2 (scalar_loose h3)
  | vobj h1 _ ih => exact .vobj h1 ih
  | varr h1 _ ih => exact .varr h1 ih
  | arr0 h1 => exact .arr0 h1
  | arrB h1 _ ih => exact .arrB h1 ih
  | arrE _ h1 ih => exact .arrE ih h1
  | arrC _ h1 h2 _ ih1 ih2 => exact .arrC ih1 h1 h2 ih2
  | obj0 h1 => exact .obj0 h1
  | objB h1 _ ih => exact .objB h1 ih
  | objE _ _ h1 ih1 ih2 => exact .objE ih1 ih2 h1
  | objC _ _ h1 h2 _ ih1 ih2 ih3 => exact .objC ih1 ih2 h1 h2 ih3
  | nameY h1 _ h3 => exact .nameY (quoted_loose h1) rfl rfl h3
/-- What reading a whole text comes to. -/
def FinS (s : ByteArray) (r : Bool) (σ1 : St) : St := if r = true then (if (St.sp s σ1).at_ < s.size then (St.sp s σ1).fail 4 else St.sp s σ1) else σ1
theorem fin_zero {s : ByteArray} {r : Bool} {σ1 : St} (h : RdN s false false .val ⟨0, 0, false⟩ r σ1) (h0 : (FinS s r σ1).fault = 0) : r = true ∧ ¬ (St.sp s σ1).at_ < s.size ∧ (St.sp s σ1).fault = 0 := by
  unfold FinS at h0
  cases r
  · rw [if_neg (by decide)] at h0
    exact absurd h0 (h.ff rfl)
  · rw [if_pos rfl] at h0
    split at h0
    · exact absurd h0 (failn _)
    · rename_i hn
      exact ⟨rfl, hn, h0⟩
/-- The escaped text of a text that a strict reader takes is taken, by a loose scanner as well, and is the like tree. -/
theorem along {s t : ByteArray} {M : Nat} (hs : s.size ≤ M) (ht : t.size ≤ M) (hb : bl t = heL (bl s)) {σ1 : St} {nd : Nd} (h : CnN s false false .val ⟨0, 0, false⟩ σ1 [] [nd]) (hz : ¬ (St.sp s σ1).at_ < s.size) (hf : (St.sp s σ1).fault = 0) :
    (∃ nd', LkN M nd nd' ∧ ∀ r τ nd2, RdN t false false .val ⟨0, 0, false⟩ r τ → (r = true → CnN t false false .val ⟨0, 0, false⟩ τ [] [nd2]) → (FinS t r τ).fault = 0 ∧ r = true ∧ nd2 = nd') ∧ validQ sc0 (bl t) = true := by
  have A : SA s t ⟨0, 0, false⟩ ⟨0, 0, false⟩ := ⟨⟨Nat.zero_le _, Nat.zero_le _, by rw [sub_all, sub_all, hb]⟩, rfl, rfl⟩
  obtain ⟨τ', ns', ks', k1, k2, k3, k4, k5⟩ := h.al hs ht .val _ .val A
  rw [Fn] at k3
  subst k3
  rw [LkK] at k4
  obtain ⟨n', r, rfl, hn, hr⟩ := k4
  rw [LkK] at hr
  subst hr
  have A1 := sp_sb (SA.clo s t) k2
  have hz' : ¬ (St.sp t τ').at_ < t.size := mt A1.1.lt.2 hz
  have hf' : (St.sp t τ').fault = 0 := A1.2.1.trans hf
  refine ⟨⟨n', hn, fun r τ nd2 hr hc => ?_⟩, ?_⟩
  · obtain ⟨rfl, rfl⟩ := k1.det _ _ hr
    refine ⟨?_, rfl, (k1.val_fun (hc rfl))⟩
    unfold FinS
    rw [if_pos rfl, if_neg hz']
    exact hf'
  · have hP : ParseR t (St.sp t τ') := ⟨true, τ', k1.loose, by rw [if_pos rfl, if_neg hz']⟩
    exact (parse_valid hP).1 hf'
end
end Go.Proofs.YtjbffgjclnjkoaaGreatDoor
