/- The reader of the reference as a relation: what reading a value, an object, an array from a state comes to. Plain mathematics. -/
import Derived.Test.YtjbffgjclnjkoaaGreatDoorNu
namespace Go.Proofs.YtjbffgjclnjkoaaGreatDoor
set_option linter.unusedVariables false
set_option linter.unusedSimpArgs false
open Go.RowKit
namespace St
variable (s : ByteArray)
def word : List Int → St → Bool × St
  | [], σ => (true, σ)
  | c :: l, σ => andThen (need s σ c c) fun σ => word l σ
def scalarF (lo : Bool) (σ : St) : Bool × St :=
  let c := bAt s σ.at_
  if c = 110 then word s [110, 117, 108, 108] σ
  else if c = 116 then word s [116, 114, 117, 101] σ
  else if c = 102 then word s [102, 97, 108, 115, 101] σ
  else if c = 34 then andThen (quoted s lo σ) fun σ => need s σ 34 34
  else if c = 45 ∨ (48 ≤ c ∧ c ≤ 57) then number s σ
  else (false, σ.fail 4)
/-- Behind the white space. -/
def sp (σ : St) : St := space s (s.size - σ.at_) σ
def badName (c : Int) : Bool := c == 123 || c == 91 || c == 45 || (decide (48 ≤ c) && decide (c ≤ 57)) || c == 110 || c == 116 || c == 102
end St
/-- What is read: a value, what stands behind a brace, a name and what follows, a name alone, what stands behind a bracket, a further value. -/
inductive Tg | val | obj | objL | name | arr | arrL
/-- Reading comes to (r, σ'). -/
inductive RdR (s : ByteArray) (tw lo : Bool) : Tg → St → Bool → St → Prop
  | scal {σ r σ'} : bAt s (St.sp s σ).at_ ≠ 123 → bAt s (St.sp s σ).at_ ≠ 91 → St.scalarF s lo (St.sp s σ) = (r, σ') → RdR s tw lo .val σ r σ'
  | vobj {σ r σ'} : bAt s (St.sp s σ).at_ = 123 → RdR s tw lo .obj (St.sp s σ).at1 r σ' → RdR s tw lo .val σ r σ'
  | varr {σ r σ'} : bAt s (St.sp s σ).at_ = 91 → RdR s tw lo .arr (St.sp s σ).at1 r σ' → RdR s tw lo .val σ r σ'
  | arr0 {σ} : bAt s (St.sp s σ).at_ = 93 → RdR s tw lo .arr σ true (St.sp s σ).at1
  | arrB {σ r σ'} : bAt s (St.sp s σ).at_ ≠ 93 → RdR s tw lo .arrL (St.sp s σ) r σ' → RdR s tw lo .arr σ r σ'
  | arrF {σ σ'} : RdR s tw lo .val σ false σ' → RdR s tw lo .arrL σ false σ'
  | arrE {σ σ1} : RdR s tw lo .val σ true σ1 → bAt s (St.sp s σ1).at_ = 93 → RdR s tw lo .arrL σ true (St.sp s σ1).at1
  | arrN {σ σ1 σ' : St} : RdR s tw lo .val σ true σ1 → bAt s (St.sp s σ1).at_ ≠ 93 → St.need s (St.sp s σ1) 44 44 = (false, σ') → RdR s tw lo .arrL σ false σ'
  | arrC {σ σ1 σ2 : St} {r : Bool} {σ' : St} : RdR s tw lo .val σ true σ1 → bAt s (St.sp s σ1).at_ ≠ 93 → St.need s (St.sp s σ1) 44 44 = (true, σ2) → RdR s tw lo .arrL σ2 r σ' → RdR s tw lo .arrL σ r σ'
  | obj0 {σ} : bAt s (St.sp s σ).at_ = 125 → RdR s tw lo .obj σ true (St.sp s σ).at1
  | objB {σ r σ'} : bAt s (St.sp s σ).at_ ≠ 125 → RdR s tw lo .objL (St.sp s σ) r σ' → RdR s tw lo .obj σ r σ'
  | objF {σ σ'} : RdR s tw lo .name σ false σ' → RdR s tw lo .objL σ false σ'
  | objV {σ σ1 σ' : St} : RdR s tw lo .name σ true σ1 → RdR s tw lo .val σ1 false σ' → RdR s tw lo .objL σ false σ'
  | objE {σ σ1 σ2} : RdR s tw lo .name σ true σ1 → RdR s tw lo .val σ1 true σ2 → bAt s (St.sp s σ2).at_ = 125 → RdR s tw lo .objL σ true (St.sp s σ2).at1
  | objN {σ σ1 σ2 σ'} : RdR s tw lo .name σ true σ1 → RdR s tw lo .val σ1 true σ2 → bAt s (St.sp s σ2).at_ ≠ 125 → St.need s (St.sp s σ2) 44 44 = (false, σ') → RdR s tw lo .objL σ false σ'
  | objC {σ σ1 σ2 σ3 r σ'} : RdR s tw lo .name σ true σ1 → RdR s tw lo .val σ1 true σ2 → bAt s (St.sp s σ2).at_ ≠ 125 → St.need s (St.sp s σ2) 44 44 = (true, σ3) → RdR s tw lo .objL (St.sp s σ3) r σ' → RdR s tw lo .objL σ r σ'
  | nameK {σ σ' : St} : bAt s σ.at_ ≠ 34 → St.badName (bAt s σ.at_) = true → σ'.at_ = σ.at_ → σ'.fault ≠ 0 → RdR s tw lo .name σ false σ'
  | nameQ {σ σ'} : (bAt s σ.at_ = 34 ∨ St.badName (bAt s σ.at_) = false) → St.quoted s lo σ = (false, σ') → RdR s tw lo .name σ false σ'
  | nameT {σ σ1 σ' : St} : St.quoted s lo σ = (true, σ1) → tw = false → σ'.at_ = σ1.at_ → σ'.fault ≠ 0 → RdR s tw lo .name σ false σ'
  | nameY {σ σ1 σ2 : St} {r : Bool} {σ' : St} : St.quoted s lo σ = (true, σ1) → σ2.at_ = σ1.at_ → σ2.fault = σ1.fault → St.need s (St.sp s σ2.at1) 58 58 = (r, σ') → RdR s tw lo .name σ r σ'
namespace St
variable {s : ByteArray}
theorem sc110 {lo : Bool} {σ σ1 : St} {X : Int} {r : Bool} (h : Hid (bAt s σ.at_ = X)) (e : (X == 110) = true) (H : Hid (word s [110, 117, 108, 108] σ = (r, σ1))) : scalarF s lo σ = (r, σ1) := by
  have e' : bAt s σ.at_ = 110 := by rw [h.out]; simpa using e
  simp only [scalarF, e', if_true]; exact H.out
theorem sc116 {lo : Bool} {σ σ1 : St} {X : Int} {r : Bool} (h : Hid (bAt s σ.at_ = X)) (e : (X == 116) = true) (H : Hid (word s [116, 114, 117, 101] σ = (r, σ1))) : scalarF s lo σ = (r, σ1) := by
  have e' : bAt s σ.at_ = 116 := by rw [h.out]; simpa using e
  simp only [scalarF, e']; exact H.out
theorem sc102 {lo : Bool} {σ σ1 : St} {X : Int} {r : Bool} (h : Hid (bAt s σ.at_ = X)) (e : (X == 102) = true) (H : Hid (word s [102, 97, 108, 115, 101] σ = (r, σ1))) : scalarF s lo σ = (r, σ1) := by
  have e' : bAt s σ.at_ = 102 := by rw [h.out]; simpa using e
  simp only [scalarF, e']; exact H.out
theorem sc34 {lo : Bool} {σ : St} {X : Int} {p : Bool × St} (h : Hid (bAt s σ.at_ = X)) (e : (X == 34) = true) (H : (andThen (quoted s lo σ) fun σ => need s σ 34 34) = p) : scalarF s lo σ = p := by
  have e' : bAt s σ.at_ = 34 := by rw [h.out]; simpa using e
  simp only [scalarF, e']; exact H
theorem scNum {lo : Bool} {σ σ1 : St} {X : Int} {r : Bool} (h : Hid (bAt s σ.at_ = X)) (e : X = 45 ∨ (48 ≤ X ∧ X ≤ 57)) (H : Hid (number s σ = (r, σ1))) : scalarF s lo σ = (r, σ1) := by
  have h' := h.out
  rw [← h'] at e
  simp only [scalarF]
  rw [if_neg (by omega), if_neg (by omega), if_neg (by omega), if_neg (by omega), if_pos e]
  exact H.out
theorem scNo {lo : Bool} {σ : St} {X : Int} (h : Hid (bAt s σ.at_ = X)) (e0 : (X == 110) = false) (e1 : (X == 116) = false) (e2 : (X == 102) = false) (e3 : (X == 34) = false) (e4 : ¬ (X = 45 ∨ (48 ≤ X ∧ X ≤ 57))) : scalarF s lo σ = (false, σ.fail 4) := by
  have h' := h.out
  rw [← h'] at e0 e1 e2 e3 e4
  simp at e0 e1 e2 e3
  simp only [scalarF]
  rw [if_neg e0, if_neg e1, if_neg e2, if_neg e3, if_neg e4]
end St
end Go.Proofs.YtjbffgjclnjkoaaGreatDoor
