/- The plain mathematics of the reader of the reference: its state, and what each of its methods makes of it. No program in sight. -/
import Derived.Below
import Derived.OneCell
import Derived.Deep.Quiet
namespace Go.Proofs.YtjbffgjclnjkoaaGreatDoor
set_option linter.unusedVariables false
set_option linter.unusedSimpArgs false
open Go.RowKit

/-- What a reader holds beside its text and its rules. -/
structure St where
  at_ : Nat
  fault : Int
  opn : Bool

namespace St
def fail (σ : St) (k : Int) : St := if σ.fault = 0 then { σ with fault := k } else σ
def go (σ : St) (n : Nat) : St := { σ with at_ := σ.at_ + n }
end St

/-- The byte at a place, 0 behind the end. -/
def bAt (s : ByteArray) (i : Nat) : Int := if h : i < s.size then (s[i].toNat : Int) else 0

theorem bAt_lt {s : ByteArray} {i : Nat} (h : i < s.size) : bAt s i = (s[i].toNat : Int) := by simp [bAt, h]
theorem bAt_ge {s : ByteArray} {i : Nat} (h : ¬ i < s.size) : bAt s i = 0 := by simp [bAt, h]
theorem bAt_nonneg (s : ByteArray) (i : Nat) : 0 ≤ bAt s i := by unfold bAt; split <;> omega
theorem bAt_le (s : ByteArray) (i : Nat) : bAt s i ≤ 255 := by
  unfold bAt; split
  · rename_i h; have := s[i].toNat_lt; omega
  · omega

def isSp (c : Int) : Bool := c == 32 || c == 9 || c == 10 || c == 13

def hexV (c : Int) : Int := if 48 ≤ c ∧ c ≤ 57 then c - 48 else if 97 ≤ c ∧ c ≤ 102 then c - 97 + 10 else if 65 ≤ c ∧ c ≤ 70 then c - 65 + 10 else -1

/-- The reader's block. -/
def IsR (w : World) (b : Nat) (s : ByteArray) (tw lo : Bool) (σ : St) : Prop :=
  ∃ T, w.heap[b]? = some (.cells #[.string s, .int .i64 σ.at_, .bool tw, .bool lo, .int .i64 σ.fault, .bool σ.opn] T (0, 0))

theorem IsR.drewN {w : World} {b s tw lo σ} (h : IsR w b s tw lo σ) (n : Nat) : IsR (w.drewN n) b s tw lo σ := h
theorem IsR.lt {w : World} {b s tw lo σ} (h : IsR w b s tw lo σ) : b < w.heap.size := by obtain ⟨T, h⟩ := h; exact lt_of_block h

theorem heap_setCell {w : World} {b o : Nat} {c : Array Value} {T : TypeId} {fr : Nat × Nat} (h : w.heap[b]? = some (.cells c T fr)) (v : Value) :
    (w.setCell ⟨b, o, none⟩ v).heap[b]? = some (.cells (c.setIfInBounds o v) T fr) := by
  have hlt := lt_of_block h
  have h' : w.heap[b] = .cells c T fr := by simpa [Array.getElem?_eq_getElem hlt] using h
  show (w.heap.modify b _)[b]? = _
  rw [Array.getElem?_eq_getElem (by simpa using hlt), Array.getElem_modify_self, h']
  rfl

theorem IsR.setAt {w : World} {b s tw lo σ} (h : IsR w b s tw lo σ) (n : Nat) : IsR (w.setCell ⟨b, 1, none⟩ (.int .i64 n)) b s tw lo { σ with at_ := n } := by
  obtain ⟨T, h⟩ := h; exact ⟨T, by rw [heap_setCell h]; rfl⟩
theorem IsR.setFault {w : World} {b s tw lo σ} (h : IsR w b s tw lo σ) (k : Int) : IsR (w.setCell ⟨b, 4, none⟩ (.int .i64 k)) b s tw lo { σ with fault := k } := by
  obtain ⟨T, h⟩ := h; exact ⟨T, by rw [heap_setCell h]; rfl⟩
theorem IsR.setOpn {w : World} {b s tw lo σ} (h : IsR w b s tw lo σ) (k : Bool) : IsR (w.setCell ⟨b, 5, none⟩ (.bool k)) b s tw lo { σ with opn := k } := by
  obtain ⟨T, h⟩ := h; exact ⟨T, by rw [heap_setCell h]; rfl⟩

/-- All that a walk wants to know of the reader's cells. -/
theorem IsR.cells {w : World} {b s tw lo σ} (h : IsR w b s tw lo σ) :
    w.cell? ⟨b, 0, none⟩ = some (.string s) ∧ w.cell? ⟨b, 1, none⟩ = some (.int .i64 σ.at_) ∧ w.cell? ⟨b, 2, none⟩ = some (.bool tw) ∧ w.cell? ⟨b, 3, none⟩ = some (.bool lo) ∧
    w.cell? ⟨b, 4, none⟩ = some (.int .i64 σ.fault) ∧ w.cell? ⟨b, 5, none⟩ = some (.bool σ.opn) ∧
    w.frozen? ⟨b, 1, none⟩ = false ∧ w.frozen? ⟨b, 4, none⟩ = false ∧ w.frozen? ⟨b, 5, none⟩ = false := by
  obtain ⟨T, h⟩ := h
  simp [World.cell?, World.frozen?, h]

/-- 'w' is w but for block b, which may have been written, for draws, and for new blocks. -/
def Mv (b : Nat) (w w' : World) : Prop := w.grownBy w' (some b)

theorem Mv.refl (b : Nat) (w : World) : Mv b w w := ⟨rfl, rfl, rfl, Nat.le_refl _, fun _ _ _ => rfl⟩
theorem Mv.trans {b : Nat} {u v w : World} (h : Mv b u v) (k : Mv b v w) : Mv b u w :=
  ⟨k.os.trans h.os, k.tape.trans h.tape, k.output.trans h.output, Nat.le_trans h.size k.size, fun i hi hb => (k.block i (Nat.lt_of_lt_of_le hi h.size) hb).trans (h.block i hi hb)⟩
theorem Mv.drewN {b : Nat} {u v : World} (h : Mv b u v) (n : Nat) : Mv b u (v.drewN n) := ⟨h.os, h.tape, h.output, h.size, h.block⟩
theorem Mv.drew {b : Nat} {u v : World} (h : Mv b u v) : Mv b u v.drew := ⟨h.os, h.tape, h.output, h.size, h.block⟩
theorem Mv.setCell {b : Nat} {u v : World} (h : Mv b u v) (o : Nat) (x : Value) : Mv b u (v.setCell ⟨b, o, none⟩ x) :=
  h.trans ⟨rfl, rfl, rfl, by simp [World.setCell], fun k _ hb => Below.heap_setCell _ _ _ _ (by simpa using hb)⟩
theorem Mv.alloc {b : Nat} {u v : World} (h : Mv b u v) (o : Obj) : Mv b u (v.alloc o) :=
  h.trans ⟨rfl, rfl, rfl, by simp, fun k hk _ => Below.heap_alloc _ _ _ hk⟩
theorem Mv.below {b B : Nat} {u v : World} (h : Mv b u v) (hb : B ≤ b) (hB : B ≤ u.heap.size) : Below B u v :=
  ⟨h.os, h.tape, h.output, h.size, fun k hk => h.block k (by omega) (by simp; omega)⟩


namespace St
variable (s : ByteArray)

/-- One step, and another one if it went well. -/
def andThen (p : Bool × St) (f : St → Bool × St) : Bool × St := if p.1 then f p.2 else (false, p.2)

def need (σ : St) (lo hi : Int) : Bool × St :=
  if σ.at_ < s.size ∧ lo ≤ bAt s σ.at_ ∧ bAt s σ.at_ ≤ hi then (true, { σ with at_ := σ.at_ + 1 }) else (false, σ.fail 4)

def hex (σ : St) (least most : Int) : Bool × St :=
  if hexV (bAt s σ.at_) < least ∨ most < hexV (bAt s σ.at_) then (false, σ.fail 4) else (true, { σ with at_ := σ.at_ + 1 })

def hex2 (σ : St) : Bool × St := andThen (hex s σ 0 15) fun σ => hex s σ 0 15
def hex3 (σ : St) : Bool × St := andThen (hex s σ 0 15) fun σ => hex2 s σ
def hex4 (σ : St) : Bool × St := andThen (hex s σ 0 15) fun σ => hex3 s σ

/-- Four digits, strict: the least and the greatest second digit. -/
def unitX (low : Bool) : Int := if low then 13 else 0
def unitY (low : Bool) : Int := if low then 13 else 15
def unitLo (low : Bool) : Int := if low then 12 else 0
def unitHi (low : Bool) (first : Int) : Int := if low then 15 else if first = 13 then 11 else 15

def unit (lo low : Bool) (σ : St) : Bool × Bool × St :=
  if lo then ((hex4 s σ).1, false, (hex4 s σ).2)
  else
    let p := hex s σ (unitX low) (unitY low)
    if p.1 then
      let q := andThen (hex s p.2 (unitLo low) (unitHi low (hexV (bAt s σ.at_)))) fun σ => hex2 s σ
      (q.1, q.1 && !low && decide (hexV (bAt s σ.at_) = 13) && decide (8 ≤ hexV (bAt s p.2.at_)), q.2)
    else (false, false, p.2)

def escape (lo : Bool) (σ : St) : Bool × St :=
  let c := bAt s σ.at_
  if c = 34 ∨ c = 92 ∨ c = 47 ∨ c = 98 ∨ c = 102 ∨ c = 110 ∨ c = 114 ∨ c = 116 then (true, { σ with at_ := σ.at_ + 1 })
  else if c = 117 then
    let u := unit s lo false { σ with at_ := σ.at_ + 1 }
    if u.1 && u.2.1 then
      andThen (need s u.2.2 92 92) fun σ => andThen (need s σ 117 117) fun σ => ((unit s lo true σ).1, (unit s lo true σ).2.2)
    else (u.1, u.2.2)
  else (false, σ.fail 4)

def rune (σ : St) : Bool × St :=
  let c := bAt s σ.at_
  if 194 ≤ c ∧ c ≤ 223 then need s { σ with at_ := σ.at_ + 1 } 128 191
  else if 224 ≤ c ∧ c ≤ 239 then
    andThen (need s { σ with at_ := σ.at_ + 1 } (if c = 224 then 160 else 128) (if c = 237 then 159 else 191)) fun σ => need s σ 128 191
  else if 240 ≤ c ∧ c ≤ 244 then
    andThen (need s { σ with at_ := σ.at_ + 1 } (if c = 240 then 144 else 128) (if c = 244 then 143 else 191)) fun σ =>
      andThen (need s σ 128 191) fun σ => need s σ 128 191
  else (false, σ.fail 4)

/-- One round of the loop over a string: none where the string's end or the text's end is reached or a fault is met. -/
def inner (lo : Bool) (σ : St) : Bool × St :=
  let c := bAt s σ.at_
  if c = 92 then escape s lo { σ with at_ := σ.at_ + 1 }
  else if c < 32 then (false, σ.fail 4)
  else if c < 128 ∨ lo = true then (true, { σ with at_ := σ.at_ + 1 })
  else rune s σ

def strLoop (lo : Bool) : Nat → St → Bool × St
  | 0, σ => (false, σ.fail 4)
  | n + 1, σ =>
    if σ.at_ < s.size then
      if bAt s σ.at_ = 34 then (true, σ)
      else andThen (inner s lo σ) fun σ => strLoop lo n σ
    else (false, σ.fail 4)

def quoted (lo : Bool) (σ : St) : Bool × St := andThen (need s σ 34 34) fun σ => strLoop s lo (s.size - σ.at_) σ

def space : Nat → St → St
  | 0, σ => σ
  | n + 1, σ => if σ.at_ < s.size ∧ isSp (bAt s σ.at_) = true then space n { σ with at_ := σ.at_ + 1 } else σ

end St


namespace St
variable {s : ByteArray}

/-- Reading goes on within the text, and goes on indeed where it says that it went well. -/
def Adv (s : ByteArray) (σ : St) (p : Bool × St) : Prop := σ.at_ ≤ p.2.at_ ∧ p.2.at_ ≤ s.size ∧ (p.1 = true → σ.at_ < p.2.at_)

theorem fail_at (σ : St) (k : Int) : (σ.fail k).at_ = σ.at_ := by unfold fail; split <;> rfl

theorem Adv.failed {σ : St} (h : σ.at_ ≤ s.size) (k : Int) : Adv s σ (false, σ.fail k) := by
  refine ⟨?_, ?_, fun e => by cases e⟩
  · show σ.at_ ≤ (σ.fail k).at_; rw [fail_at]; exact Nat.le_refl _
  · show (σ.fail k).at_ ≤ _; rw [fail_at]; exact h

theorem need_adv {σ : St} (h : σ.at_ ≤ s.size) (x y : Int) : Adv s σ (need s σ x y) := by
  unfold need; split
  · rename_i h'; exact ⟨by simp, by simp; omega, fun _ => by simp⟩
  · exact Adv.failed h 4

theorem hexV_0 : hexV 0 = -1 := rfl

theorem hex_adv {σ : St} (h : σ.at_ ≤ s.size) (x y : Int) (hx : σ.at_ < s.size ∨ 0 ≤ x) : Adv s σ (hex s σ x y) := by
  unfold hex; split
  · exact Adv.failed h 4
  · rename_i h'
    have hlt : σ.at_ < s.size := by
      by_cases hl : σ.at_ < s.size
      · exact hl
      · rw [bAt_ge hl, hexV_0] at h'; omega
    exact ⟨by simp, by simp; omega, fun _ => by simp⟩

theorem Adv.andThen {σ : St} {p : Bool × St} {f : St → Bool × St} (h : Adv s σ p) (hf : p.1 = true → Adv s p.2 (f p.2)) : Adv s σ (St.andThen p f) := by
  unfold St.andThen; split
  · rename_i hp
    obtain ⟨a1, a2, a3⟩ := h
    obtain ⟨b1, b2, b3⟩ := hf hp
    exact ⟨Nat.le_trans a1 b1, b2, fun e => Nat.lt_of_le_of_lt a1 (b3 e)⟩
  · obtain ⟨a1, a2, a3⟩ := h
    exact ⟨a1, a2, fun e => by cases e⟩

theorem hex2_adv {σ : St} (h : σ.at_ ≤ s.size) : Adv s σ (hex2 s σ) :=
  (hex_adv h 0 15 (.inr (by omega))).andThen fun _ => hex_adv (hex_adv h 0 15 (.inr (by omega))).2.1 0 15 (.inr (by omega))
theorem hex3_adv {σ : St} (h : σ.at_ ≤ s.size) : Adv s σ (hex3 s σ) :=
  (hex_adv h 0 15 (.inr (by omega))).andThen fun _ => hex2_adv (hex_adv h 0 15 (.inr (by omega))).2.1
theorem hex4_adv {σ : St} (h : σ.at_ ≤ s.size) : Adv s σ (hex4 s σ) :=
  (hex_adv h 0 15 (.inr (by omega))).andThen fun _ => hex3_adv (hex_adv h 0 15 (.inr (by omega))).2.1

theorem unitLo_nonneg (low : Bool) : 0 ≤ unitLo low := by cases low <;> simp [unitLo]
theorem unitX_nonneg (low : Bool) : 0 ≤ unitX low := by cases low <;> simp [unitX]

theorem unit_adv {σ : St} (h : σ.at_ ≤ s.size) (lo low : Bool) : Adv s σ ((unit s lo low σ).1, (unit s lo low σ).2.2) := by
  unfold unit
  split
  · exact hex4_adv h
  · have h1 := hex_adv (s := s) h (unitX low) (unitY low) (.inr (unitX_nonneg low))
    dsimp only
    split
    · have h2 := hex_adv (s := s) h1.2.1 (unitLo low) (unitHi low (hexV (bAt s σ.at_))) (.inr (unitLo_nonneg low))
      have h3 := h2.andThen (f := fun σ => hex2 s σ) fun _ => hex2_adv h2.2.1
      exact ⟨Nat.le_trans h1.1 h3.1, h3.2.1, fun e => Nat.lt_of_le_of_lt h1.1 (h3.2.2 e)⟩
    · exact ⟨h1.1, h1.2.1, fun e => by cases e⟩

theorem escape_adv {σ : St} (h : σ.at_ ≤ s.size) (lo : Bool) : Adv s σ (escape s lo σ) := by
  unfold escape
  dsimp only
  split
  · rename_i hc
    have hlt : σ.at_ < s.size := by
      by_cases hl : σ.at_ < s.size
      · exact hl
      · rw [bAt_ge hl] at hc; omega
    exact ⟨by simp, by simp; omega, fun _ => by simp⟩
  · split
    · rename_i hc
      have hlt : σ.at_ < s.size := by
        by_cases hl : σ.at_ < s.size
        · exact hl
        · rw [bAt_ge hl] at hc; omega
      have h1 : ({ σ with at_ := σ.at_ + 1 } : St).at_ ≤ s.size := by simp; omega
      have hu := unit_adv (s := s) h1 lo false
      generalize unit s lo false { σ with at_ := σ.at_ + 1 } = u at hu ⊢
      obtain ⟨u1, u2, u3⟩ := u
      have hle : σ.at_ < u3.at_ := by have := hu.1; simp at this; omega
      have hu2 := hu.2.1
      dsimp only at hu2
      split
      · have hn := need_adv (s := s) hu2 92 92
        have h3 := hn.andThen (f := fun σ => St.andThen (need s σ 117 117) fun σ => ((unit s lo true σ).1, (unit s lo true σ).2.2)) fun _ =>
          (need_adv hn.2.1 117 117).andThen fun _ => unit_adv (need_adv hn.2.1 117 117).2.1 lo true
        exact ⟨by have := h3.1; dsimp only at this ⊢; omega, h3.2.1, fun e => by have := h3.1; dsimp only at this ⊢; omega⟩
      · exact ⟨by simp; omega, hu2, fun e => hle⟩
    · exact Adv.failed h 4

theorem rune_adv {σ : St} (h : σ.at_ ≤ s.size) : Adv s σ (rune s σ) := by
  unfold rune
  dsimp only
  have key : 194 ≤ bAt s σ.at_ → σ.at_ < s.size := by
    intro hc
    by_cases hl : σ.at_ < s.size
    · exact hl
    · rw [bAt_ge hl] at hc; omega
  have up : ∀ p, σ.at_ < s.size → Adv s { σ with at_ := σ.at_ + 1 } p → Adv s σ p := fun p hl hp => by
    obtain ⟨a, b, c⟩ := hp
    dsimp only at a
    exact ⟨by omega, b, fun _ => by omega⟩
  split
  · exact up _ (key (by omega)) (need_adv (by have := key (by omega); simp; omega) _ _)
  · split
    · have h1 : ({ σ with at_ := σ.at_ + 1 } : St).at_ ≤ s.size := by have := key (by omega); simp; omega
      exact up _ (key (by omega)) ((need_adv h1 _ _).andThen fun _ => need_adv (need_adv h1 _ _).2.1 _ _)
    · split
      · have h1 : ({ σ with at_ := σ.at_ + 1 } : St).at_ ≤ s.size := by have := key (by omega); simp; omega
        exact up _ (key (by omega)) ((need_adv h1 _ _).andThen fun _ => (need_adv (need_adv h1 _ _).2.1 _ _).andThen fun _ => need_adv (need_adv (need_adv h1 _ _).2.1 _ _).2.1 _ _)
      · exact Adv.failed h 4

theorem inner_adv {σ : St} (h : σ.at_ < s.size) (lo : Bool) : Adv s σ (inner s lo σ) := by
  unfold inner
  dsimp only
  split
  · have h1 : ({ σ with at_ := σ.at_ + 1 } : St).at_ ≤ s.size := by simp; omega
    have := escape_adv (s := s) h1 lo
    obtain ⟨a, b, c⟩ := this
    dsimp only at a
    exact ⟨by omega, b, fun _ => by omega⟩
  · split
    · exact Adv.failed (by omega) 4
    · split
      · exact ⟨by simp, by simp; omega, fun _ => by simp⟩
      · exact rune_adv (by omega)

theorem strLoop_adv (lo : Bool) : ∀ (n : Nat) (σ : St), σ.at_ ≤ s.size → σ.at_ ≤ (strLoop s lo n σ).2.at_ ∧ (strLoop s lo n σ).2.at_ ≤ s.size
  | 0, σ, h => ⟨by unfold strLoop; rw [fail_at]; exact Nat.le_refl _, by unfold strLoop; rw [fail_at]; exact h⟩
  | n + 1, σ, h => by
    unfold strLoop
    split
    · split
      · exact ⟨Nat.le_refl _, h⟩
      · rename_i hl _
        have hi := inner_adv (s := s) hl lo
        unfold St.andThen
        split
        · have := strLoop_adv lo n _ hi.2.1
          exact ⟨Nat.le_trans hi.1 this.1, this.2⟩
        · exact ⟨hi.1, hi.2.1⟩
    · exact ⟨by rw [fail_at]; exact Nat.le_refl _, by rw [fail_at]; exact h⟩

theorem quoted_le (lo : Bool) {σ : St} (h : σ.at_ ≤ s.size) : σ.at_ ≤ (quoted s lo σ).2.at_ ∧ (quoted s lo σ).2.at_ ≤ s.size := by
  unfold quoted St.andThen
  have hn := need_adv (s := s) h 34 34
  split
  · have := strLoop_adv lo (s.size - (need s σ 34 34).2.at_) _ hn.2.1
    exact ⟨Nat.le_trans hn.1 this.1, this.2⟩
  · exact ⟨hn.1, hn.2.1⟩

end St

end Go.Proofs.YtjbffgjclnjkoaaGreatDoor
