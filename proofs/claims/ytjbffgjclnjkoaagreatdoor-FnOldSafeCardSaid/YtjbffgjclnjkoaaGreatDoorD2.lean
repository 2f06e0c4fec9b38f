/- The reader of the reference with content, by strict names (mkd.py): relations, scalars, arrays. -/
import Derived.Test.YtjbffgjclnjkoaaGreatDoorJr
import Derived.Test.YtjbffgjclnjkoaaGreatDoorDw
import Derived.Test.YtjbffgjclnjkoaaGreatDoorNd
import Derived.Test.YtjbffgjclnjkoaaGreatDoorWk
import Derived.Test.YtjbffgjclnjkoaaGreatDoorBw
import Derived.Test.YtjbffgjclnjkoaaGreatDoorWn
namespace Go.Proofs.YtjbffgjclnjkoaaGreatDoor
set_option linter.unusedVariables false
set_option linter.unusedSimpArgs false
section
/- (Cr) What the reader of the reference takes, with its content: its successes as a relation. Plain mathematics. -/
open Go.RowKit

/-- What is read; names and members with the names so far. -/
inductive Tn | val | obj | objL (ns : List ByteArray) | name (ns : List ByteArray) | arr | arrL
/-- The string of a name, as Decode has it. -/
def decF (x : ByteArray) : List UInt8 := (txt (dO (x.extract 1 (x.size - 1)) (x.extract 1 (x.size - 1)).size 0).1).toList
/-- The name has come already. -/
def Dup (ns : List ByteArray) (x : ByteArray) : Prop := ∃ y ∈ ns, decF y = decF x
/-- The kind of a scalar that begins with X. -/
def kdS (X k : Int) : Int := if X = 45 ∨ (48 ≤ X ∧ X ≤ 57) then 48 else k
theorem kd_no {X c k : Int} (e : (X == c) = true) (hc : ¬ (c = 45 ∨ (48 ≤ c ∧ c ≤ 57))) : k = kdS X k := by
  have : X = c := by simpa using e
  subst this
  unfold kdS
  rw [if_neg hc]
theorem kd_yes {X c k : Int} (e : (X == c) = true) (hc : c = 45 ∨ (48 ≤ c ∧ c ≤ 57)) : 48 = kdS X k := by
  have : X = c := by simpa using e
  subst this
  unfold kdS
  rw [if_pos hc]
/-- The node of a scalar. -/
def scN (s : ByteArray) (σ σ' : St) : Nd := .mk (kdS (bAt s σ.at_) (bAt s σ.at_)) (s.extract σ.at_ σ'.at_) [] []
/-- Reading succeeds, comes to σ', and gives names and kids (a value: itself as the one kid). -/
inductive CnN (s : ByteArray) (tw lo : Bool) : Tn → St → St → List ByteArray → List Nd → Prop
  | scal {σ σ'} : bAt s (St.sp s σ).at_ ≠ 123 → bAt s (St.sp s σ).at_ ≠ 91 → St.scalarF s lo (St.sp s σ) = (true, σ') → CnN s tw lo .val σ σ' [] [scN s (St.sp s σ) σ']
  | vobj {σ σ' ns ks} : bAt s (St.sp s σ).at_ = 123 → CnN s tw lo .obj (St.sp s σ).at1 σ' ns ks → CnN s tw lo .val σ σ' [] [.mk 123 ⟨#[]⟩ ns ks]
  | varr {σ σ' ks} : bAt s (St.sp s σ).at_ = 91 → CnN s tw lo .arr (St.sp s σ).at1 σ' [] ks → CnN s tw lo .val σ σ' [] [.mk 91 ⟨#[]⟩ [] ks]
  | arr0 {σ} : bAt s (St.sp s σ).at_ = 93 → CnN s tw lo .arr σ (St.sp s σ).at1 [] []
  | arrB {σ σ' ks} : bAt s (St.sp s σ).at_ ≠ 93 → CnN s tw lo .arrL (St.sp s σ) σ' [] ks → CnN s tw lo .arr σ σ' [] ks
  | arrE {σ σ1 n} : CnN s tw lo .val σ σ1 [] [n] → bAt s (St.sp s σ1).at_ = 93 → CnN s tw lo .arrL σ (St.sp s σ1).at1 [] [n]
  | arrC {σ σ1 σ2 σ' : St} {n ks} : CnN s tw lo .val σ σ1 [] [n] → bAt s (St.sp s σ1).at_ ≠ 93 → St.need s (St.sp s σ1) 44 44 = (true, σ2) → CnN s tw lo .arrL σ2 σ' [] ks → CnN s tw lo .arrL σ σ' [] (n :: ks)
  | obj0 {σ} : bAt s (St.sp s σ).at_ = 125 → CnN s tw lo .obj σ (St.sp s σ).at1 [] []
  | objB {σ σ' ns ks} : bAt s (St.sp s σ).at_ ≠ 125 → CnN s tw lo (.objL []) (St.sp s σ) σ' ns ks → CnN s tw lo .obj σ σ' ns ks
  | objE {n0 σ σ1 σ2 t n} : CnN s tw lo (.name n0) σ σ1 [t] [] → CnN s tw lo .val σ1 σ2 [] [n] → bAt s (St.sp s σ2).at_ = 125 → CnN s tw lo (.objL n0) σ (St.sp s σ2).at1 [t] [n]
  | objC {n0} {σ σ1 σ2 σ3 σ' : St} {t n ns ks} : CnN s tw lo (.name n0) σ σ1 [t] [] → CnN s tw lo .val σ1 σ2 [] [n] → bAt s (St.sp s σ2).at_ ≠ 125 → St.need s (St.sp s σ2) 44 44 = (true, σ3) → CnN s tw lo (.objL (n0 ++ [t])) (St.sp s σ3) σ' ns ks → CnN s tw lo (.objL n0) σ σ' (t :: ns) (n :: ks)
  | nameY {n0} {σ σ1 σ' : St} : St.quoted s lo σ = (true, σ1) → (tw = false → ¬ Dup n0 (s.extract σ.at_ (σ1.at_ + 1))) → St.need s (St.sp s σ1.at1) 58 58 = (true, σ') → CnN s tw lo (.name n0) σ σ' [s.extract σ.at_ (σ1.at_ + 1)] []
/-- Reading comes to (r, σ'). -/
inductive RdN (s : ByteArray) (tw lo : Bool) : Tn → St → Bool → St → Prop
  | scal {σ r σ'} : bAt s (St.sp s σ).at_ ≠ 123 → bAt s (St.sp s σ).at_ ≠ 91 → St.scalarF s lo (St.sp s σ) = (r, σ') → RdN s tw lo .val σ r σ'
  | vobj {σ r σ'} : bAt s (St.sp s σ).at_ = 123 → RdN s tw lo .obj (St.sp s σ).at1 r σ' → RdN s tw lo .val σ r σ'
  | varr {σ r σ'} : bAt s (St.sp s σ).at_ = 91 → RdN s tw lo .arr (St.sp s σ).at1 r σ' → RdN s tw lo .val σ r σ'
  | arr0 {σ} : bAt s (St.sp s σ).at_ = 93 → RdN s tw lo .arr σ true (St.sp s σ).at1
  | arrB {σ r σ'} : bAt s (St.sp s σ).at_ ≠ 93 → RdN s tw lo .arrL (St.sp s σ) r σ' → RdN s tw lo .arr σ r σ'
  | arrF {σ σ'} : RdN s tw lo .val σ false σ' → RdN s tw lo .arrL σ false σ'
  | arrE {σ σ1} : RdN s tw lo .val σ true σ1 → bAt s (St.sp s σ1).at_ = 93 → RdN s tw lo .arrL σ true (St.sp s σ1).at1
  | arrN {σ σ1 σ' : St} : RdN s tw lo .val σ true σ1 → bAt s (St.sp s σ1).at_ ≠ 93 → St.need s (St.sp s σ1) 44 44 = (false, σ') → RdN s tw lo .arrL σ false σ'
  | arrC {σ σ1 σ2 : St} {r : Bool} {σ' : St} : RdN s tw lo .val σ true σ1 → bAt s (St.sp s σ1).at_ ≠ 93 → St.need s (St.sp s σ1) 44 44 = (true, σ2) → RdN s tw lo .arrL σ2 r σ' → RdN s tw lo .arrL σ r σ'
  | obj0 {σ} : bAt s (St.sp s σ).at_ = 125 → RdN s tw lo .obj σ true (St.sp s σ).at1
  | objB {σ r σ'} : bAt s (St.sp s σ).at_ ≠ 125 → RdN s tw lo (.objL []) (St.sp s σ) r σ' → RdN s tw lo .obj σ r σ'
  | objF {n0 σ σ'} : RdN s tw lo (.name n0) σ false σ' → RdN s tw lo (.objL n0) σ false σ'
  | objV {n0} {σ σ1 σ' : St} : RdN s tw lo (.name n0) σ true σ1 → RdN s tw lo .val σ1 false σ' → RdN s tw lo (.objL n0) σ false σ'
  | objE {n0 σ σ1 σ2} : RdN s tw lo (.name n0) σ true σ1 → RdN s tw lo .val σ1 true σ2 → bAt s (St.sp s σ2).at_ = 125 → RdN s tw lo (.objL n0) σ true (St.sp s σ2).at1
  | objN {n0 σ σ1 σ2 σ'} : RdN s tw lo (.name n0) σ true σ1 → RdN s tw lo .val σ1 true σ2 → bAt s (St.sp s σ2).at_ ≠ 125 → St.need s (St.sp s σ2) 44 44 = (false, σ') → RdN s tw lo (.objL n0) σ false σ'
  | objC {n0 σ σ1 σ2 σ3 r σ' t} : CnN s tw lo (.name n0) σ σ1 [t] [] → RdN s tw lo .val σ1 true σ2 → bAt s (St.sp s σ2).at_ ≠ 125 → St.need s (St.sp s σ2) 44 44 = (true, σ3) → RdN s tw lo (.objL (n0 ++ [t])) (St.sp s σ3) r σ' → RdN s tw lo (.objL n0) σ r σ'
  | nameK {n0} {σ σ' : St} : bAt s σ.at_ ≠ 34 → σ'.fault ≠ 0 → RdN s tw lo (.name n0) σ false σ'
  | nameQ {n0 σ σ'} : St.quoted s lo σ = (false, σ') → RdN s tw lo (.name n0) σ false σ'
  | nameT {n0} {σ σ1 σ' : St} : St.quoted s lo σ = (true, σ1) → tw = false → Dup n0 (s.extract σ.at_ (σ1.at_ + 1)) → σ'.fault ≠ 0 → RdN s tw lo (.name n0) σ false σ'
  | nameY {n0} {σ σ1 : St} {r : Bool} {σ' : St} : St.quoted s lo σ = (true, σ1) → (tw = false → ¬ Dup n0 (s.extract σ.at_ (σ1.at_ + 1))) → St.need s (St.sp s σ1.at1) 58 58 = (r, σ') → RdN s tw lo (.name n0) σ r σ'
/-- A node that holds its own rows, of at most M entries each, with its content; the rows' blocks lie below L. -/
structure RC (Nq : Value → Prop) (b n B M : Nat) (s : ByteArray) (tw lo : Bool) (σ : St) (w0 : World) (k0 : Int) (t0 : ByteArray) (ns : List ByteArray) (ks : List Nd) (L : Nat) (w : World) : Prop where
  out : ∃ nm kd m1 m2 xs ys, KB b n B s tw lo σ w0 k0 t0 nm kd nm kd m1 m2 xs ys w ∧ m1 ≤ M ∧ m2 ≤ M ∧ (∀ x ∈ xs, Nq x) ∧ Cont w B nm kd xs ys ns ks ∧ (∀ g, kd.ownBlock = some g → g < L) ∧ (∀ g, nm.ownBlock = some g → g < L)
section
variable {Nq : Value → Prop} {b n B M M' : Nat} {s : ByteArray} {tw lo : Bool} {σ σ' : St} {w0 w w' : World} {k0 : Int} {t0 : ByteArray} {ns : List ByteArray} {ks : List Nd} {L : Nat}
theorem RC.mv (h : RC Nq b n B M s tw lo σ w0 k0 t0 ns ks L w) (hR : IsR w' b s tw lo σ') (hM : Mv b w w') (hm : M ≤ M') : RC Nq b n B M' s tw lo σ' w0 k0 t0 ns ks L w' := by
  obtain ⟨nm, kd, m1, m2, xs, ys, h, l1, l2, l3, l4, l5⟩ := h
  exact ⟨nm, kd, m1, m2, xs, ys, h.mv hR hM, by omega, by omega, l3, l4.mv hM h.hb, l5⟩
theorem RC.r (h : RC Nq b n B M s tw lo σ w0 k0 t0 ns ks L w) : IsR w b s tw lo σ := by
  obtain ⟨nm, kd, m1, m2, xs, ys, h, _⟩ := h; exact h.r
theorem RC.hB (h : RC Nq b n B M s tw lo σ w0 k0 t0 ns ks L w) : B ≤ w.heap.size := by
  obtain ⟨nm, kd, m1, m2, xs, ys, h, _⟩ := h; exact h.hB
theorem RC.alloc (h : RC Nq b n B M s tw lo σ w0 k0 t0 ns ks L w) (o : Obj) : RC Nq b n B M s tw lo σ w0 k0 t0 ns ks L (w.alloc o) := by
  obtain ⟨nm, kd, m1, m2, xs, ys, h, l1, l2, l3, l4, l5⟩ := h
  exact ⟨nm, kd, m1, m2, xs, ys, h.alloc o, l1, l2, l3, l4.alloc o, l5⟩
theorem RC.low (h : RC Nq b n B M s tw lo σ w0 k0 t0 ns ks L w) : RC Nq b n B M s tw lo σ w0 k0 t0 ns ks w.heap.size w := by
  obtain ⟨nm, kd, m1, m2, xs, ys, h, l1, l2, l3, l4, l5⟩ := h
  exact ⟨nm, kd, m1, m2, xs, ys, h, l1, l2, l3, l4, fun g e => (h.o2.lt g e).2, fun g e => (h.o1.lt g e).2⟩
end
/-- What an append to a row leaves, seen from the world ahead of the laid element. -/
theorem kid_grown {w5 w7 : World} {o : Obj} {v : Value} {g : Nat} (hg : (w5.alloc o).grownBy w7 v.ownBlock) (hat : v.ownBlock = some g ∨ g = (w5.alloc o).heap.size) :
    (∀ g', g' < w5.heap.size → v.ownBlock ≠ some g' → w7.heap[g']? = w5.heap[g']?) ∧ w5.heap.size ≤ w7.heap.size ∧ (v.ownBlock = some g ∨ w5.heap.size ≤ g) := by
  refine ⟨fun g' h1 h2 => (hg.block g' (by simp; omega) (fun e => h2 e.symm)).trans (Below.heap_alloc _ _ _ h1), ?_, ?_⟩
  · have := hg.size
    simp at this
    omega
  · rcases hat with h | h
    · exact .inl h
    · right
      rw [h]
      simp
end
section
/- (Ck2) word and scalar of the reader of the reference, with the node's content. Lines by program (mkc.py). -/
open Go.RowKit

/-- A state further on, the one that P tells. -/
def WkX (b : Nat) (s : ByteArray) (tw lo : Bool) (σ : St) (w : World) (P : Bool × St) (e : Ending) (w' : World) : Prop :=
  ∃ r σ', e = .returned (.bool r) ∧ IsR w' b s tw lo σ' ∧ Mv b w w' ∧ σ.at_ ≤ σ'.at_ ∧ σ'.at_ ≤ s.size ∧ Hid (P = (r, σ'))
theorem wdrop {t : ByteArray} {k : Nat} (h : k < t.size) : (bl t).drop k = bAt t k :: (bl t).drop (k + 1) := by
  have hl : k < (bl t).length := by rw [bl_len]; exact h
  rw [List.drop_eq_getElem_cons hl, bAt_lt h]
  congr 1
  simp [bl]
  rfl
set_option maxRecDepth 100000 in
theorem word_ex (b : Nat) (s : ByteArray) (tw lo : Bool) (σ : St) (t : ByteArray) (w : World) (h : IsR w b s tw lo σ) (hs : s.size ≤ maxLen) (ha : σ.at_ ≤ s.size) (ht : t.size ≤ 100) :
    Calls Tryz.prog 55 #[.pointer (some ⟨b, 0, none⟩), .string t] w (WkX b s tw lo σ w (St.word s (bl t) σ)) := by
  obtain ⟨R, HR⟩ : ∃ R, Hid (St.word s (bl t) σ = R) := ⟨_, Lib.hid rfl⟩
  rw [HR.out]
  have A0 : Aside (St.word s ((bl t).drop 0) σ = R) := HR.out
  have hs' := hs
  unfold maxLen at hs'
  go_enter Tryz.func55, Tryz.ntmps55
  go_wp2_with fail
  go_loopg [5, 8] t.size (fun g i c wx => ∃ (k : Nat) (σ' : St), c = .int .i64 k ∧ k ≤ t.size ∧ t.size - k ≤ g ∧ IsR wx b s tw lo σ' ∧ Mv b w wx ∧ σ.at_ ≤ σ'.at_ ∧ σ'.at_ ≤ s.size ∧ Aside (St.word s ((bl t).drop k) σ' = R))
  case atStart => exact ⟨0, σ, rfl, by omega, by omega, h, Mv.refl _ _, Nat.le_refl _, ha, A0⟩
  case round =>
    clear A0
    obtain ⟨k, σ', rfl, hk, hg, hR, hM, h1, h2, A⟩ := hrel
    by_cases hkt : k < t.size
    · have hn := need_any b s tw lo σ' (bAt t k) (bAt t k)
      have hadv := St.need_adv (s := s) h2 (bAt t k) (bAt t k)
      obtain ⟨r, σ1, H⟩ := named (St.need s σ' (bAt t k) (bAt t k))
      have A1 := A
      unfold Aside at A1
      rw [wdrop hkt, St.word, H.out] at A1
      rw [H.out] at hn hadv
      dsimp only at hn hadv
      have hb := bAt_lt hkt
      rw [hb] at hn
      clear hb H
      have hR' : IsR wr.drew b s tw lo σ' := hR
      have hM' : Mv b w wr.drew := hM.drew
      go_upto_region 4 with fail
      go_still_tail 7, (by kernel_rfl)
      change wpList _ _ _ _ _ wr.drew
      generalize wr.drew = wy at hR' hM' ⊢
      clear hR hM
      cases r
      · have HA := Lib.hid (show R = (false, σ1) from A1.symm)
        clear A1 A
        go_wp2_with (go_at_call 54; refine (hn wy hR' hs h2).mono ?_; rintro e w2 ⟨rfl, hR2, hM2⟩)
        all_goals go_ret
        exact ⟨_, σ1, rfl, hR2, hM'.trans hM2, by have := hadv.1; dsimp only at this; omega, hadv.2.1, HA⟩
      · have A2 : Aside (St.word s ((bl t).drop (k + 1)) σ1 = R) := A1
        clear A1 A
        go_wp2_with (go_at_call 54; refine (hn wy hR' hs h2).mono ?_; rintro e w2 ⟨rfl, hR2, hM2⟩)
        go_roundg (gk - 1)
        case measure => omega
        case rel => exact ⟨k + 1, σ1, by go_num, by omega, by omega, hR2, hM'.trans hM2, by have := hadv.1; dsimp only at this; omega, hadv.2.1, A2⟩
    · obtain rfl : k = t.size := by omega
      have HA : Hid (R = (true, σ')) := Lib.hid (by have A1 := A; unfold Aside at A1; rw [List.drop_of_length_le (by rw [bl_len]; exact Nat.le_refl _)] at A1; exact A1.symm)
      clear A
      go_wp2_with fail
      all_goals go_ret
      exact ⟨_, σ', rfl, hR, hM, h1, h2, HA⟩

set_option maxRecDepth 100000 in
set_option maxHeartbeats 4000000 in
theorem scalar_cn (b n : Nat) (s : ByteArray) (tw lo : Bool) (σ : St) (k : Int) (t : ByteArray) (names kids : Value) (w : World)
    (h : IsR w b s tw lo σ) (hn : NodeB w n k t names kids) (hne : n ≠ b) (hs : s.size ≤ maxLen) (ha : σ.at_ ≤ s.size) :
    Calls Tryz.prog 32 #[.pointer (some ⟨b, 0, none⟩), .pointer (some ⟨n, 0, none⟩)] w fun e w' => ∃ r σ', e = .returned (.bool r) ∧ IsR w' b s tw lo σ' ∧ (∃ k' t', NodeB w' n k' t' names kids ∧ (r = true → k' = kdS (bAt s σ.at_) k ∧ t' = s.extract σ.at_ σ'.at_)) ∧ Fr2 b n w w' ∧ σ.at_ ≤ σ'.at_ ∧ σ'.at_ ≤ s.size ∧ (s.size = 0 → σ'.fault ≠ 0) ∧ St.scalarF s lo σ = (r, σ') := by
  obtain ⟨c0, c1, c2, c3, c4, c5, f1, f4, f5⟩ := h.cells
  have hs' := hs
  unfold maxLen at hs'
  obtain ⟨X, hX⟩ : ∃ X, bAt s σ.at_ = X := ⟨_, rfl⟩
  have hsee := see_any b s tw lo σ w h hs ha
  rw [hX] at hsee
  have HX0 : Hid (s.size = 0 → X = 0) := Lib.hid fun hz => by rw [← hX, bAt_ge (by omega)]
  have HXX := Lib.hid hX
  clear hX
  have hdw : ∀ n1, IsR (w.drewN n1) b s tw lo σ ∧ NodeB (w.drewN n1) n k t names kids ∧ Fr2 b n w (w.drewN n1) := fun n1 => ⟨h.drewN n1, hn, (Fr2.of_mv (Mv.refl _ _)).drewN _⟩
  go_enter Tryz.func32, Tryz.ntmps32
  go_upto_region 5 with (go_at_call 29; refine hsee.mono ?_; rintro e w1 ⟨rfl, n1, hw1⟩; obtain ⟨hR1, hN1, hF1⟩ := hw1 ▸ hdw n1; clear hw1)
  clear hsee hdw c0 c1 c2 c3 c4 c5 f1 f4 f5
  have fin : ∀ (σ1 : St) (w2 : World), IsR w2 b s tw lo σ1 → Mv b w1 w2 → σ.at_ ≤ σ1.at_ → σ1.at_ ≤ s.size → IsR w2 b s tw lo σ1 ∧ NodeB w2 n k t names kids ∧ Fr2 b n w w2 ∧ σ.at_ ≤ σ1.at_ ∧ σ1.at_ ≤ s.size := fun σ1 w2 hR hM h1 h2 =>
    ⟨hR, hN1.mv hM hne, hF1.trans (Fr2.of_mv hM), h1, h2⟩
  have hw : ∀ l, l.size ≤ 100 → Calls Tryz.prog 55 #[.pointer (some ⟨b, 0, none⟩), .string l] w1 (WkX b s tw lo σ w1 (St.word s (bl l) σ)) := fun l hl => word_ex b s tw lo σ l w1 hR1 hs ha hl
  cases e110 : (X == 110)
  case true =>
    have hw1 := hw ⟨#[110, 117, 108, 108]⟩ (by decide)
    clear hw
    go_upto_region 26 with (go_at_call 55; refine hw1.mono ?_; rintro e w2 ⟨r, σ1, rfl, hR2, hM2, l1, l2, HP⟩)
    have hfin := fin σ1 w2 hR2 hM2 l1 l2
    clear hw1 fin
    obtain ⟨hR, hN, hF, l1, l2⟩ := hfin
    clear hR1 hN1 hF1
    have hfr : (σ.at_ : Int) ≤ (σ1.at_ : Int) := by omega
    have hto : (σ1.at_ : Int) ≤ (s.size : Int) := by omega
    obtain ⟨e0, e1, e2, e3, e4, e5, j1, j4, j5⟩ := hR.cells
    go_still_tail 13, (by kernel_rfl)
    clear e0 e1 e2 e3 e4 e5 j1 j4 j5
    change wpList _ _ _ _ _ w2.drew
    have hR3 : IsR w2.drew b s tw lo σ1 := hR
    have hn3 : NodeB w2.drew n k t names kids := hN
    have hF3 : Fr2 b n w w2.drew := hF.drewN 1
    generalize w2.drew = w3 at hR3 hn3 hF3 ⊢
    obtain ⟨d0, d1, d2, d3, d4, d5, g1, g4, g5⟩ := hR3.cells
    obtain ⟨m0, m1, m2, m3, fm0, fm1, fm2, fm3⟩ := hn3.cells
    go_wp2
    all_goals go_ret
    exact ⟨_, σ1, rfl, (hR3.other (Below.heap_setCell _ _ _ _ (by simpa using fun e => hne e.symm))), ⟨_, _, hn3.setText _, fun _ => ⟨by rw [HXX.out]; exact kd_no e110 (by decide), rfl⟩⟩, hF3.setCell _ _, l1, l2, fun hz => absurd (HX0.out hz) (by intro h0; rw [h0] at e110; cases e110), St.sc110 HXX e110 HP⟩
  cases e116 : (X == 116)
  case true =>
    have hw1 := hw ⟨#[116, 114, 117, 101]⟩ (by decide)
    clear hw
    go_upto_region 26 with (go_at_call 55; refine hw1.mono ?_; rintro e w2 ⟨r, σ1, rfl, hR2, hM2, l1, l2, HP⟩)
    have hfin := fin σ1 w2 hR2 hM2 l1 l2
    clear hw1 fin
    obtain ⟨hR, hN, hF, l1, l2⟩ := hfin
    clear hR1 hN1 hF1
    have hfr : (σ.at_ : Int) ≤ (σ1.at_ : Int) := by omega
    have hto : (σ1.at_ : Int) ≤ (s.size : Int) := by omega
    obtain ⟨e0, e1, e2, e3, e4, e5, j1, j4, j5⟩ := hR.cells
    go_still_tail 13, (by kernel_rfl)
    clear e0 e1 e2 e3 e4 e5 j1 j4 j5
    change wpList _ _ _ _ _ w2.drew
    have hR3 : IsR w2.drew b s tw lo σ1 := hR
    have hn3 : NodeB w2.drew n k t names kids := hN
    have hF3 : Fr2 b n w w2.drew := hF.drewN 1
    generalize w2.drew = w3 at hR3 hn3 hF3 ⊢
    obtain ⟨d0, d1, d2, d3, d4, d5, g1, g4, g5⟩ := hR3.cells
    obtain ⟨m0, m1, m2, m3, fm0, fm1, fm2, fm3⟩ := hn3.cells
    go_wp2
    all_goals go_ret
    exact ⟨_, σ1, rfl, (hR3.other (Below.heap_setCell _ _ _ _ (by simpa using fun e => hne e.symm))), ⟨_, _, hn3.setText _, fun _ => ⟨by rw [HXX.out]; exact kd_no e116 (by decide), rfl⟩⟩, hF3.setCell _ _, l1, l2, fun hz => absurd (HX0.out hz) (by intro h0; rw [h0] at e116; cases e116), St.sc116 HXX e116 HP⟩
  cases e102 : (X == 102)
  case true =>
    have hw1 := hw ⟨#[102, 97, 108, 115, 101]⟩ (by decide)
    clear hw
    go_upto_region 26 with (go_at_call 55; refine hw1.mono ?_; rintro e w2 ⟨r, σ1, rfl, hR2, hM2, l1, l2, HP⟩)
    have hfin := fin σ1 w2 hR2 hM2 l1 l2
    clear hw1 fin
    obtain ⟨hR, hN, hF, l1, l2⟩ := hfin
    clear hR1 hN1 hF1
    have hfr : (σ.at_ : Int) ≤ (σ1.at_ : Int) := by omega
    have hto : (σ1.at_ : Int) ≤ (s.size : Int) := by omega
    obtain ⟨e0, e1, e2, e3, e4, e5, j1, j4, j5⟩ := hR.cells
    go_still_tail 13, (by kernel_rfl)
    clear e0 e1 e2 e3 e4 e5 j1 j4 j5
    change wpList _ _ _ _ _ w2.drew
    have hR3 : IsR w2.drew b s tw lo σ1 := hR
    have hn3 : NodeB w2.drew n k t names kids := hN
    have hF3 : Fr2 b n w w2.drew := hF.drewN 1
    generalize w2.drew = w3 at hR3 hn3 hF3 ⊢
    obtain ⟨d0, d1, d2, d3, d4, d5, g1, g4, g5⟩ := hR3.cells
    obtain ⟨m0, m1, m2, m3, fm0, fm1, fm2, fm3⟩ := hn3.cells
    go_wp2
    all_goals go_ret
    exact ⟨_, σ1, rfl, (hR3.other (Below.heap_setCell _ _ _ _ (by simpa using fun e => hne e.symm))), ⟨_, _, hn3.setText _, fun _ => ⟨by rw [HXX.out]; exact kd_no e102 (by decide), rfl⟩⟩, hF3.setCell _ _, l1, l2, fun hz => absurd (HX0.out hz) (by intro h0; rw [h0] at e102; cases e102), St.sc102 HXX e102 HP⟩
  cases e34 : (X == 34)
  case true =>
    obtain ⟨r1, σq, H1⟩ := named (St.quoted s lo σ)
    have hle := St.quoted_le (s := s) lo ha
    have hq := quoted_any b s tw lo σ w1 hR1 hs ha
    rw [H1.out] at hle hq
    dsimp only at hle hq
    have HQ := H1
    clear H1 hw
    cases r1
    · go_upto_region 26 with (go_at_call 56; refine hq.mono ?_; rintro e w2 ⟨rfl, hR2, hM2⟩)
      obtain ⟨σ1, rfl⟩ : ∃ σ1, σ1 = σq := ⟨_, rfl⟩
      have HP := Lib.hid (show (St.andThen (St.quoted s lo σ) fun σ => St.need s σ 34 34) = (false, σ1) by rw [HQ.out]; rfl)
      have hfin := fin σ1 w2 hR2 hM2 hle.1 hle.2
      clear hq fin
      obtain ⟨hR, hN, hF, l1, l2⟩ := hfin
      clear hR1 hN1 hF1
      have hfr : (σ.at_ : Int) ≤ (σ1.at_ : Int) := by omega
      have hto : (σ1.at_ : Int) ≤ (s.size : Int) := by omega
      obtain ⟨e0, e1, e2, e3, e4, e5, j1, j4, j5⟩ := hR.cells
      go_still_tail 13, (by kernel_rfl)
      clear e0 e1 e2 e3 e4 e5 j1 j4 j5
      change wpList _ _ _ _ _ w2.drew
      have hR3 : IsR w2.drew b s tw lo σ1 := hR
      have hn3 : NodeB w2.drew n k t names kids := hN
      have hF3 : Fr2 b n w w2.drew := hF.drewN 1
      generalize w2.drew = w3 at hR3 hn3 hF3 ⊢
      obtain ⟨d0, d1, d2, d3, d4, d5, g1, g4, g5⟩ := hR3.cells
      obtain ⟨m0, m1, m2, m3, fm0, fm1, fm2, fm3⟩ := hn3.cells
      go_wp2
      all_goals go_ret
      exact ⟨_, σ1, rfl, (hR3.other (Below.heap_setCell _ _ _ _ (by simpa using fun e => hne e.symm))), ⟨_, _, hn3.setText _, fun _ => ⟨by rw [HXX.out]; exact kd_no e34 (by decide), rfl⟩⟩, hF3.setCell _ _, l1, l2, fun hz => absurd (HX0.out hz) (by intro h0; rw [h0] at e34; cases e34), St.sc34 HXX e34 HP.out⟩
    · obtain ⟨r2, σ1, H2⟩ := named (St.need s σq 34 34)
      have hle2 := St.need_adv (s := s) hle.2 34 34
      have HP := Lib.hid (show (St.andThen (St.quoted s lo σ) fun σ => St.need s σ 34 34) = (r2, σ1) by rw [HQ.out]; exact H2.out)
      rw [H2.out] at hle2
      have hl1 := hle2.1
      have hl2 := hle2.2.1
      dsimp only at hl1 hl2
      clear hle2
      have hl0 := hle.1
      go_upto_region 26 with (first
        | (go_at_call 56; refine hq.mono ?_; rintro e w2 ⟨rfl, hR2, hM2⟩)
        | (go_at_call 54; refine (need_is b s tw lo σq _ _ _ _ _ H2 hR2 hs hle.2).mono ?_; rintro e w4 ⟨rfl, hR4, hM4⟩))
      have hfin := fin σ1 w4 hR4 (hM2.trans hM4) (by omega) hl2
      clear hq fin
      obtain ⟨hR, hN, hF, l1, l2⟩ := hfin
      clear hR1 hN1 hF1
      have hfr : (σ.at_ : Int) ≤ (σ1.at_ : Int) := by omega
      have hto : (σ1.at_ : Int) ≤ (s.size : Int) := by omega
      obtain ⟨e0, e1, e2, e3, e4, e5, j1, j4, j5⟩ := hR.cells
      go_still_tail 13, (by kernel_rfl)
      clear e0 e1 e2 e3 e4 e5 j1 j4 j5
      change wpList _ _ _ _ _ w4.drew
      have hR3 : IsR w4.drew b s tw lo σ1 := hR
      have hn3 : NodeB w4.drew n k t names kids := hN
      have hF3 : Fr2 b n w w4.drew := hF.drewN 1
      generalize w4.drew = w3 at hR3 hn3 hF3 ⊢
      obtain ⟨d0, d1, d2, d3, d4, d5, g1, g4, g5⟩ := hR3.cells
      obtain ⟨m0, m1, m2, m3, fm0, fm1, fm2, fm3⟩ := hn3.cells
      go_wp2
      all_goals go_ret
      exact ⟨_, σ1, rfl, (hR3.other (Below.heap_setCell _ _ _ _ (by simpa using fun e => hne e.symm))), ⟨_, _, hn3.setText _, fun _ => ⟨by rw [HXX.out]; exact kd_no e34 (by decide), rfl⟩⟩, hF3.setCell _ _, l1, l2, fun hz => absurd (HX0.out hz) (by intro h0; rw [h0] at e34; cases e34), St.sc34 HXX e34 HP.out⟩
  clear hw
  have hnum : ∀ w' : World, IsR w' b s tw lo σ → Calls Tryz.prog 57 #[.pointer (some ⟨b, 0, none⟩)] w' (WkX b s tw lo σ w' (St.number s σ)) := fun w' hR => (number_any b s tw lo σ w' hR hs ha).mono fun e w2 ⟨h1, h2, h3⟩ => ⟨_, _, h1, h2, h3, St.number_ge ha, St.number_le ha, Lib.hid rfl⟩
  obtain ⟨m0, m1, m2, m3, fm0, fm1, fm2, fm3⟩ := hN1.cells
  have hR1s : ∀ v, IsR (w1.setCell ⟨n, 0, none⟩ v) b s tw lo σ := fun v => hR1.other (Below.heap_setCell _ _ _ _ (by simpa using fun e => hne e.symm))
  have hN1s : NodeB (w1.setCell ⟨n, 0, none⟩ (.int .u8 48)) n 48 t names kids := by obtain ⟨T, h⟩ := hN1; exact ⟨T, by rw [heap_setCell h]; rfl⟩
  have hF1s := hF1.setCell 0 (.int .u8 48)
  have fin2 : ∀ (σ1 : St) (w2 : World), IsR w2 b s tw lo σ1 → Mv b (w1.setCell ⟨n, 0, none⟩ (.int .u8 48)) w2 → σ.at_ ≤ σ1.at_ → σ1.at_ ≤ s.size → IsR w2 b s tw lo σ1 ∧ NodeB w2 n 48 t names kids ∧ Fr2 b n w w2 ∧ σ.at_ ≤ σ1.at_ ∧ σ1.at_ ≤ s.size := fun σ1 w2 hR hM h1 h2 =>
    ⟨hR, hN1s.mv hM hne, hF1s.trans (Fr2.of_mv hM), h1, h2⟩
  clear fin
  cases e45 : (X == 45)
  case true =>
    go_upto_region 26 with (go_at_call 57; refine (hnum _ (hR1s _)).mono ?_; rintro e w2 ⟨r, σ1, rfl, hR2, hM2, l1, l2, HP⟩)
    have hfin := fin2 σ1 w2 hR2 hM2 l1 l2
    clear hnum fin2 m0 m1 m2 m3 fm0 fm1 fm2 fm3 hR1s hN1s hF1s
    obtain ⟨hR, hN, hF, l1, l2⟩ := hfin
    clear hR1 hN1 hF1
    have hfr : (σ.at_ : Int) ≤ (σ1.at_ : Int) := by omega
    have hto : (σ1.at_ : Int) ≤ (s.size : Int) := by omega
    obtain ⟨e0, e1, e2, e3, e4, e5, j1, j4, j5⟩ := hR.cells
    go_still_tail 13, (by kernel_rfl)
    clear e0 e1 e2 e3 e4 e5 j1 j4 j5
    change wpList _ _ _ _ _ w2.drew
    have hR3 : IsR w2.drew b s tw lo σ1 := hR
    have hn3 : NodeB w2.drew n 48 t names kids := hN
    have hF3 : Fr2 b n w w2.drew := hF.drewN 1
    generalize w2.drew = w3 at hR3 hn3 hF3 ⊢
    obtain ⟨d0, d1, d2, d3, d4, d5, g1, g4, g5⟩ := hR3.cells
    obtain ⟨m0, m1, m2, m3, fm0, fm1, fm2, fm3⟩ := hn3.cells
    go_wp2
    all_goals go_ret
    exact ⟨_, σ1, rfl, (hR3.other (Below.heap_setCell _ _ _ _ (by simpa using fun e => hne e.symm))), ⟨_, _, hn3.setText _, fun _ => ⟨by rw [HXX.out]; exact kd_yes e45 (by decide), rfl⟩⟩, hF3.setCell _ _, l1, l2, fun hz => absurd (HX0.out hz) (by intro h0; rw [h0] at e45; cases e45), St.scNum HXX (by have := of_decide_eq_true e45; omega) HP⟩
  cases e48 : (X == 48)
  case true =>
    go_upto_region 26 with (go_at_call 57; refine (hnum _ (hR1s _)).mono ?_; rintro e w2 ⟨r, σ1, rfl, hR2, hM2, l1, l2, HP⟩)
    have hfin := fin2 σ1 w2 hR2 hM2 l1 l2
    clear hnum fin2 m0 m1 m2 m3 fm0 fm1 fm2 fm3 hR1s hN1s hF1s
    obtain ⟨hR, hN, hF, l1, l2⟩ := hfin
    clear hR1 hN1 hF1
    have hfr : (σ.at_ : Int) ≤ (σ1.at_ : Int) := by omega
    have hto : (σ1.at_ : Int) ≤ (s.size : Int) := by omega
    obtain ⟨e0, e1, e2, e3, e4, e5, j1, j4, j5⟩ := hR.cells
    go_still_tail 13, (by kernel_rfl)
    clear e0 e1 e2 e3 e4 e5 j1 j4 j5
    change wpList _ _ _ _ _ w2.drew
    have hR3 : IsR w2.drew b s tw lo σ1 := hR
    have hn3 : NodeB w2.drew n 48 t names kids := hN
    have hF3 : Fr2 b n w w2.drew := hF.drewN 1
    generalize w2.drew = w3 at hR3 hn3 hF3 ⊢
    obtain ⟨d0, d1, d2, d3, d4, d5, g1, g4, g5⟩ := hR3.cells
    obtain ⟨m0, m1, m2, m3, fm0, fm1, fm2, fm3⟩ := hn3.cells
    go_wp2
    all_goals go_ret
    exact ⟨_, σ1, rfl, (hR3.other (Below.heap_setCell _ _ _ _ (by simpa using fun e => hne e.symm))), ⟨_, _, hn3.setText _, fun _ => ⟨by rw [HXX.out]; exact kd_yes e48 (by decide), rfl⟩⟩, hF3.setCell _ _, l1, l2, fun hz => absurd (HX0.out hz) (by intro h0; rw [h0] at e48; cases e48), St.scNum HXX (by have := of_decide_eq_true e48; omega) HP⟩
  cases e49 : (X == 49)
  case true =>
    go_upto_region 26 with (go_at_call 57; refine (hnum _ (hR1s _)).mono ?_; rintro e w2 ⟨r, σ1, rfl, hR2, hM2, l1, l2, HP⟩)
    have hfin := fin2 σ1 w2 hR2 hM2 l1 l2
    clear hnum fin2 m0 m1 m2 m3 fm0 fm1 fm2 fm3 hR1s hN1s hF1s
    obtain ⟨hR, hN, hF, l1, l2⟩ := hfin
    clear hR1 hN1 hF1
    have hfr : (σ.at_ : Int) ≤ (σ1.at_ : Int) := by omega
    have hto : (σ1.at_ : Int) ≤ (s.size : Int) := by omega
    obtain ⟨e0, e1, e2, e3, e4, e5, j1, j4, j5⟩ := hR.cells
    go_still_tail 13, (by kernel_rfl)
    clear e0 e1 e2 e3 e4 e5 j1 j4 j5
    change wpList _ _ _ _ _ w2.drew
    have hR3 : IsR w2.drew b s tw lo σ1 := hR
    have hn3 : NodeB w2.drew n 48 t names kids := hN
    have hF3 : Fr2 b n w w2.drew := hF.drewN 1
    generalize w2.drew = w3 at hR3 hn3 hF3 ⊢
    obtain ⟨d0, d1, d2, d3, d4, d5, g1, g4, g5⟩ := hR3.cells
    obtain ⟨m0, m1, m2, m3, fm0, fm1, fm2, fm3⟩ := hn3.cells
    go_wp2
    all_goals go_ret
    exact ⟨_, σ1, rfl, (hR3.other (Below.heap_setCell _ _ _ _ (by simpa using fun e => hne e.symm))), ⟨_, _, hn3.setText _, fun _ => ⟨by rw [HXX.out]; exact kd_yes e49 (by decide), rfl⟩⟩, hF3.setCell _ _, l1, l2, fun hz => absurd (HX0.out hz) (by intro h0; rw [h0] at e49; cases e49), St.scNum HXX (by have := of_decide_eq_true e49; omega) HP⟩
  cases e50 : (X == 50)
  case true =>
    go_upto_region 26 with (go_at_call 57; refine (hnum _ (hR1s _)).mono ?_; rintro e w2 ⟨r, σ1, rfl, hR2, hM2, l1, l2, HP⟩)
    have hfin := fin2 σ1 w2 hR2 hM2 l1 l2
    clear hnum fin2 m0 m1 m2 m3 fm0 fm1 fm2 fm3 hR1s hN1s hF1s
    obtain ⟨hR, hN, hF, l1, l2⟩ := hfin
    clear hR1 hN1 hF1
    have hfr : (σ.at_ : Int) ≤ (σ1.at_ : Int) := by omega
    have hto : (σ1.at_ : Int) ≤ (s.size : Int) := by omega
    obtain ⟨e0, e1, e2, e3, e4, e5, j1, j4, j5⟩ := hR.cells
    go_still_tail 13, (by kernel_rfl)
    clear e0 e1 e2 e3 e4 e5 j1 j4 j5
    change wpList _ _ _ _ _ w2.drew
    have hR3 : IsR w2.drew b s tw lo σ1 := hR
    have hn3 : NodeB w2.drew n 48 t names kids := hN
    have hF3 : Fr2 b n w w2.drew := hF.drewN 1
    generalize w2.drew = w3 at hR3 hn3 hF3 ⊢
    obtain ⟨d0, d1, d2, d3, d4, d5, g1, g4, g5⟩ := hR3.cells
    obtain ⟨m0, m1, m2, m3, fm0, fm1, fm2, fm3⟩ := hn3.cells
    go_wp2
    all_goals go_ret
    exact ⟨_, σ1, rfl, (hR3.other (Below.heap_setCell _ _ _ _ (by simpa using fun e => hne e.symm))), ⟨_, _, hn3.setText _, fun _ => ⟨by rw [HXX.out]; exact kd_yes e50 (by decide), rfl⟩⟩, hF3.setCell _ _, l1, l2, fun hz => absurd (HX0.out hz) (by intro h0; rw [h0] at e50; cases e50), St.scNum HXX (by have := of_decide_eq_true e50; omega) HP⟩
  cases e51 : (X == 51)
  case true =>
    go_upto_region 26 with (go_at_call 57; refine (hnum _ (hR1s _)).mono ?_; rintro e w2 ⟨r, σ1, rfl, hR2, hM2, l1, l2, HP⟩)
    have hfin := fin2 σ1 w2 hR2 hM2 l1 l2
    clear hnum fin2 m0 m1 m2 m3 fm0 fm1 fm2 fm3 hR1s hN1s hF1s
    obtain ⟨hR, hN, hF, l1, l2⟩ := hfin
    clear hR1 hN1 hF1
    have hfr : (σ.at_ : Int) ≤ (σ1.at_ : Int) := by omega
    have hto : (σ1.at_ : Int) ≤ (s.size : Int) := by omega
    obtain ⟨e0, e1, e2, e3, e4, e5, j1, j4, j5⟩ := hR.cells
    go_still_tail 13, (by kernel_rfl)
    clear e0 e1 e2 e3 e4 e5 j1 j4 j5
    change wpList _ _ _ _ _ w2.drew
    have hR3 : IsR w2.drew b s tw lo σ1 := hR
    have hn3 : NodeB w2.drew n 48 t names kids := hN
    have hF3 : Fr2 b n w w2.drew := hF.drewN 1
    generalize w2.drew = w3 at hR3 hn3 hF3 ⊢
    obtain ⟨d0, d1, d2, d3, d4, d5, g1, g4, g5⟩ := hR3.cells
    obtain ⟨m0, m1, m2, m3, fm0, fm1, fm2, fm3⟩ := hn3.cells
    go_wp2
    all_goals go_ret
    exact ⟨_, σ1, rfl, (hR3.other (Below.heap_setCell _ _ _ _ (by simpa using fun e => hne e.symm))), ⟨_, _, hn3.setText _, fun _ => ⟨by rw [HXX.out]; exact kd_yes e51 (by decide), rfl⟩⟩, hF3.setCell _ _, l1, l2, fun hz => absurd (HX0.out hz) (by intro h0; rw [h0] at e51; cases e51), St.scNum HXX (by have := of_decide_eq_true e51; omega) HP⟩
  cases e52 : (X == 52)
  case true =>
    go_upto_region 26 with (go_at_call 57; refine (hnum _ (hR1s _)).mono ?_; rintro e w2 ⟨r, σ1, rfl, hR2, hM2, l1, l2, HP⟩)
    have hfin := fin2 σ1 w2 hR2 hM2 l1 l2
    clear hnum fin2 m0 m1 m2 m3 fm0 fm1 fm2 fm3 hR1s hN1s hF1s
    obtain ⟨hR, hN, hF, l1, l2⟩ := hfin
    clear hR1 hN1 hF1
    have hfr : (σ.at_ : Int) ≤ (σ1.at_ : Int) := by omega
    have hto : (σ1.at_ : Int) ≤ (s.size : Int) := by omega
    obtain ⟨e0, e1, e2, e3, e4, e5, j1, j4, j5⟩ := hR.cells
    go_still_tail 13, (by kernel_rfl)
    clear e0 e1 e2 e3 e4 e5 j1 j4 j5
    change wpList _ _ _ _ _ w2.drew
    have hR3 : IsR w2.drew b s tw lo σ1 := hR
    have hn3 : NodeB w2.drew n 48 t names kids := hN
    have hF3 : Fr2 b n w w2.drew := hF.drewN 1
    generalize w2.drew = w3 at hR3 hn3 hF3 ⊢
    obtain ⟨d0, d1, d2, d3, d4, d5, g1, g4, g5⟩ := hR3.cells
    obtain ⟨m0, m1, m2, m3, fm0, fm1, fm2, fm3⟩ := hn3.cells
    go_wp2
    all_goals go_ret
    exact ⟨_, σ1, rfl, (hR3.other (Below.heap_setCell _ _ _ _ (by simpa using fun e => hne e.symm))), ⟨_, _, hn3.setText _, fun _ => ⟨by rw [HXX.out]; exact kd_yes e52 (by decide), rfl⟩⟩, hF3.setCell _ _, l1, l2, fun hz => absurd (HX0.out hz) (by intro h0; rw [h0] at e52; cases e52), St.scNum HXX (by have := of_decide_eq_true e52; omega) HP⟩
  cases e53 : (X == 53)
  case true =>
    go_upto_region 26 with (go_at_call 57; refine (hnum _ (hR1s _)).mono ?_; rintro e w2 ⟨r, σ1, rfl, hR2, hM2, l1, l2, HP⟩)
    have hfin := fin2 σ1 w2 hR2 hM2 l1 l2
    clear hnum fin2 m0 m1 m2 m3 fm0 fm1 fm2 fm3 hR1s hN1s hF1s
    obtain ⟨hR, hN, hF, l1, l2⟩ := hfin
    clear hR1 hN1 hF1
    have hfr : (σ.at_ : Int) ≤ (σ1.at_ : Int) := by omega
    have hto : (σ1.at_ : Int) ≤ (s.size : Int) := by omega
    obtain ⟨e0, e1, e2, e3, e4, e5, j1, j4, j5⟩ := hR.cells
    go_still_tail 13, (by kernel_rfl)
    clear e0 e1 e2 e3 e4 e5 j1 j4 j5
    change wpList _ _ _ _ _ w2.drew
    have hR3 : IsR w2.drew b s tw lo σ1 := hR
    have hn3 : NodeB w2.drew n 48 t names kids := hN
    have hF3 : Fr2 b n w w2.drew := hF.drewN 1
    generalize w2.drew = w3 at hR3 hn3 hF3 ⊢
    obtain ⟨d0, d1, d2, d3, d4, d5, g1, g4, g5⟩ := hR3.cells
    obtain ⟨m0, m1, m2, m3, fm0, fm1, fm2, fm3⟩ := hn3.cells
    go_wp2
    all_goals go_ret
    exact ⟨_, σ1, rfl, (hR3.other (Below.heap_setCell _ _ _ _ (by simpa using fun e => hne e.symm))), ⟨_, _, hn3.setText _, fun _ => ⟨by rw [HXX.out]; exact kd_yes e53 (by decide), rfl⟩⟩, hF3.setCell _ _, l1, l2, fun hz => absurd (HX0.out hz) (by intro h0; rw [h0] at e53; cases e53), St.scNum HXX (by have := of_decide_eq_true e53; omega) HP⟩
  cases e54 : (X == 54)
  case true =>
    go_upto_region 26 with (go_at_call 57; refine (hnum _ (hR1s _)).mono ?_; rintro e w2 ⟨r, σ1, rfl, hR2, hM2, l1, l2, HP⟩)
    have hfin := fin2 σ1 w2 hR2 hM2 l1 l2
    clear hnum fin2 m0 m1 m2 m3 fm0 fm1 fm2 fm3 hR1s hN1s hF1s
    obtain ⟨hR, hN, hF, l1, l2⟩ := hfin
    clear hR1 hN1 hF1
    have hfr : (σ.at_ : Int) ≤ (σ1.at_ : Int) := by omega
    have hto : (σ1.at_ : Int) ≤ (s.size : Int) := by omega
    obtain ⟨e0, e1, e2, e3, e4, e5, j1, j4, j5⟩ := hR.cells
    go_still_tail 13, (by kernel_rfl)
    clear e0 e1 e2 e3 e4 e5 j1 j4 j5
    change wpList _ _ _ _ _ w2.drew
    have hR3 : IsR w2.drew b s tw lo σ1 := hR
    have hn3 : NodeB w2.drew n 48 t names kids := hN
    have hF3 : Fr2 b n w w2.drew := hF.drewN 1
    generalize w2.drew = w3 at hR3 hn3 hF3 ⊢
    obtain ⟨d0, d1, d2, d3, d4, d5, g1, g4, g5⟩ := hR3.cells
    obtain ⟨m0, m1, m2, m3, fm0, fm1, fm2, fm3⟩ := hn3.cells
    go_wp2
    all_goals go_ret
    exact ⟨_, σ1, rfl, (hR3.other (Below.heap_setCell _ _ _ _ (by simpa using fun e => hne e.symm))), ⟨_, _, hn3.setText _, fun _ => ⟨by rw [HXX.out]; exact kd_yes e54 (by decide), rfl⟩⟩, hF3.setCell _ _, l1, l2, fun hz => absurd (HX0.out hz) (by intro h0; rw [h0] at e54; cases e54), St.scNum HXX (by have := of_decide_eq_true e54; omega) HP⟩
  cases e55 : (X == 55)
  case true =>
    go_upto_region 26 with (go_at_call 57; refine (hnum _ (hR1s _)).mono ?_; rintro e w2 ⟨r, σ1, rfl, hR2, hM2, l1, l2, HP⟩)
    have hfin := fin2 σ1 w2 hR2 hM2 l1 l2
    clear hnum fin2 m0 m1 m2 m3 fm0 fm1 fm2 fm3 hR1s hN1s hF1s
    obtain ⟨hR, hN, hF, l1, l2⟩ := hfin
    clear hR1 hN1 hF1
    have hfr : (σ.at_ : Int) ≤ (σ1.at_ : Int) := by omega
    have hto : (σ1.at_ : Int) ≤ (s.size : Int) := by omega
    obtain ⟨e0, e1, e2, e3, e4, e5, j1, j4, j5⟩ := hR.cells
    go_still_tail 13, (by kernel_rfl)
    clear e0 e1 e2 e3 e4 e5 j1 j4 j5
    change wpList _ _ _ _ _ w2.drew
    have hR3 : IsR w2.drew b s tw lo σ1 := hR
    have hn3 : NodeB w2.drew n 48 t names kids := hN
    have hF3 : Fr2 b n w w2.drew := hF.drewN 1
    generalize w2.drew = w3 at hR3 hn3 hF3 ⊢
    obtain ⟨d0, d1, d2, d3, d4, d5, g1, g4, g5⟩ := hR3.cells
    obtain ⟨m0, m1, m2, m3, fm0, fm1, fm2, fm3⟩ := hn3.cells
    go_wp2
    all_goals go_ret
    exact ⟨_, σ1, rfl, (hR3.other (Below.heap_setCell _ _ _ _ (by simpa using fun e => hne e.symm))), ⟨_, _, hn3.setText _, fun _ => ⟨by rw [HXX.out]; exact kd_yes e55 (by decide), rfl⟩⟩, hF3.setCell _ _, l1, l2, fun hz => absurd (HX0.out hz) (by intro h0; rw [h0] at e55; cases e55), St.scNum HXX (by have := of_decide_eq_true e55; omega) HP⟩
  cases e56 : (X == 56)
  case true =>
    go_upto_region 26 with (go_at_call 57; refine (hnum _ (hR1s _)).mono ?_; rintro e w2 ⟨r, σ1, rfl, hR2, hM2, l1, l2, HP⟩)
    have hfin := fin2 σ1 w2 hR2 hM2 l1 l2
    clear hnum fin2 m0 m1 m2 m3 fm0 fm1 fm2 fm3 hR1s hN1s hF1s
    obtain ⟨hR, hN, hF, l1, l2⟩ := hfin
    clear hR1 hN1 hF1
    have hfr : (σ.at_ : Int) ≤ (σ1.at_ : Int) := by omega
    have hto : (σ1.at_ : Int) ≤ (s.size : Int) := by omega
    obtain ⟨e0, e1, e2, e3, e4, e5, j1, j4, j5⟩ := hR.cells
    go_still_tail 13, (by kernel_rfl)
    clear e0 e1 e2 e3 e4 e5 j1 j4 j5
    change wpList _ _ _ _ _ w2.drew
    have hR3 : IsR w2.drew b s tw lo σ1 := hR
    have hn3 : NodeB w2.drew n 48 t names kids := hN
    have hF3 : Fr2 b n w w2.drew := hF.drewN 1
    generalize w2.drew = w3 at hR3 hn3 hF3 ⊢
    obtain ⟨d0, d1, d2, d3, d4, d5, g1, g4, g5⟩ := hR3.cells
    obtain ⟨m0, m1, m2, m3, fm0, fm1, fm2, fm3⟩ := hn3.cells
    go_wp2
    all_goals go_ret
    exact ⟨_, σ1, rfl, (hR3.other (Below.heap_setCell _ _ _ _ (by simpa using fun e => hne e.symm))), ⟨_, _, hn3.setText _, fun _ => ⟨by rw [HXX.out]; exact kd_yes e56 (by decide), rfl⟩⟩, hF3.setCell _ _, l1, l2, fun hz => absurd (HX0.out hz) (by intro h0; rw [h0] at e56; cases e56), St.scNum HXX (by have := of_decide_eq_true e56; omega) HP⟩
  cases e57 : (X == 57)
  case true =>
    go_upto_region 26 with (go_at_call 57; refine (hnum _ (hR1s _)).mono ?_; rintro e w2 ⟨r, σ1, rfl, hR2, hM2, l1, l2, HP⟩)
    have hfin := fin2 σ1 w2 hR2 hM2 l1 l2
    clear hnum fin2 m0 m1 m2 m3 fm0 fm1 fm2 fm3 hR1s hN1s hF1s
    obtain ⟨hR, hN, hF, l1, l2⟩ := hfin
    clear hR1 hN1 hF1
    have hfr : (σ.at_ : Int) ≤ (σ1.at_ : Int) := by omega
    have hto : (σ1.at_ : Int) ≤ (s.size : Int) := by omega
    obtain ⟨e0, e1, e2, e3, e4, e5, j1, j4, j5⟩ := hR.cells
    go_still_tail 13, (by kernel_rfl)
    clear e0 e1 e2 e3 e4 e5 j1 j4 j5
    change wpList _ _ _ _ _ w2.drew
    have hR3 : IsR w2.drew b s tw lo σ1 := hR
    have hn3 : NodeB w2.drew n 48 t names kids := hN
    have hF3 : Fr2 b n w w2.drew := hF.drewN 1
    generalize w2.drew = w3 at hR3 hn3 hF3 ⊢
    obtain ⟨d0, d1, d2, d3, d4, d5, g1, g4, g5⟩ := hR3.cells
    obtain ⟨m0, m1, m2, m3, fm0, fm1, fm2, fm3⟩ := hn3.cells
    go_wp2
    all_goals go_ret
    exact ⟨_, σ1, rfl, (hR3.other (Below.heap_setCell _ _ _ _ (by simpa using fun e => hne e.symm))), ⟨_, _, hn3.setText _, fun _ => ⟨by rw [HXX.out]; exact kd_yes e57 (by decide), rfl⟩⟩, hF3.setCell _ _, l1, l2, fun hz => absurd (HX0.out hz) (by intro h0; rw [h0] at e57; cases e57), St.scNum HXX (by have := of_decide_eq_true e57; omega) HP⟩
  have HNo := Lib.hid (St.scNo (lo := lo) HXX e110 e116 e102 e34 (by
    simp at e45 e48 e49 e50 e51 e52 e53 e54 e55 e56 e57
    omega))
  go_wp2_with (go_at_call 16; refine (fail_any b s tw lo σ _ _ hR1).mono ?_; rintro e w2 ⟨rfl, hR2, hM2⟩)
  all_goals go_ret
  exact ⟨_, _, rfl, hR2, ⟨_, _, hN1.mv hM2 hne, fun h => (by cases h)⟩, hF1.trans (Fr2.of_mv hM2), by rw [St.fail_at]; exact Nat.le_refl _, by rw [St.fail_at]; exact ha, fun _ => by unfold St.fail; split <;> simp_all, HNo.out⟩
end
section
/- (Cn) The reader of the reference, with content: array. Lines by program (mkc.py). -/
open Go.RowKit

/-- A value is read from a state on, with its content. -/
def ValC (b : Nat) (s : ByteArray) (tw lo : Bool) (σ : St) : Prop := ∀ w, IsR w b s tw lo σ →
  Calls Tryz.prog 14 #[.pointer (some ⟨b, 0, none⟩)] w fun e w' => ∃ (k : Int) (t : ByteArray) (na : Option Addr) (nl nc : Nat) (ka : Option Addr) (kl kc : Nat) (r : Bool) (σ' : St),
    e = .returned (.tuple #[.agg #[.int .u8 k, .string t, .slice na nl nc, .slice ka kl kc], .bool r]) ∧ IsR w' b s tw lo σ' ∧ Mv b w w' ∧ σ.at_ ≤ σ'.at_ ∧ σ'.at_ ≤ s.size ∧ (s.size = 0 → σ'.fault ≠ 0) ∧ RdN s tw lo .val σ r σ' ∧
      (r = true → ∃ nd, CnN s tw lo .val σ σ' [] [nd] ∧ NdM w' (fun g => w.heap.size ≤ g ∧ g < w'.heap.size) nd [.int .u8 k, .string t, .slice na nl nc, .slice ka kl kc])
/-- What a method that fills a node leaves. -/
def FillC (tg : Tn) (Nq : Value → Prop) (b n B : Nat) (s : ByteArray) (tw lo : Bool) (σ : St) (w0 : World) (k0 : Int) (t0 : ByteArray) (e : Ending) (w' : World) : Prop :=
  ∃ (r : Bool) (σ' : St) (M : Nat) (ns : List ByteArray) (ks : List Nd) (L : Nat), e = .returned (.bool r) ∧ RC Nq b n B M s tw lo σ' w0 k0 t0 ns ks L w' ∧ σ.at_ ≤ σ'.at_ ∧ σ'.at_ ≤ s.size ∧ RdN s tw lo tg σ r σ' ∧ (r = true → CnN s tw lo tg σ σ' ns ks)
/-- Names are asked for again: the answer. -/
def AgX (Nq : Value → Prop) (b B : Nat) (s : ByteArray) (lo : Bool) : Prop := b < B → ∀ (σ : St) (w : World) (nm : Value) (m : Nat) (xs : List Value) (ns : List ByteArray) (t : ByteArray), IsR w b s false lo σ → w.ownsRow B 9 1 nm m xs → xs = nmv (ns ++ [t]) → 0 < m → (∀ x ∈ xs, Nq x) →
  Calls Tryz.prog 76 #[.pointer (some ⟨b, 0, none⟩), nm] w fun e w' => ∃ r, e = .returned (.bool r) ∧ IsR w' b s false lo σ ∧ Mv b w w' ∧ Hid (r = true → Dup ns t) ∧ Hid (r = false → ¬ Dup ns t)
theorem space_ex (b : Nat) (s : ByteArray) (tw lo : Bool) (σ : St) (w : World) (h : IsR w b s tw lo σ) (hs : s.size ≤ maxLen) (ha : σ.at_ ≤ s.size) :
    Calls Tryz.prog 15 #[.pointer (some ⟨b, 0, none⟩)] w fun e w' => ∃ σ', e = .returned (.tuple #[]) ∧ IsR w' b s tw lo σ' ∧ Mv b w w' ∧ σ.at_ ≤ σ'.at_ ∧ σ'.at_ ≤ s.size ∧ Hid (St.sp s σ = σ') :=
  (rspace_any b s tw lo σ w h hs ha).mono fun e w' ⟨h1, h2, h3⟩ => ⟨_, h1, h2, h3, by rw [space_eq]; exact (spEnd_le s _ _ ha).1, by rw [space_eq]; exact (spEnd_le s _ _ ha).2, Lib.hid rfl⟩
theorem need_ex (b : Nat) (s : ByteArray) (tw lo : Bool) (σ : St) (x y : Int) (w : World) (h : IsR w b s tw lo σ) (hs : s.size ≤ maxLen) (ha : σ.at_ ≤ s.size) :
    Calls Tryz.prog 54 #[.pointer (some ⟨b, 0, none⟩), .int .u8 x, .int .u8 y] w fun e w' => ∃ r σ', e = .returned (.bool r) ∧ IsR w' b s tw lo σ' ∧ Mv b w w' ∧ σ.at_ ≤ σ'.at_ ∧ σ'.at_ ≤ s.size ∧ (r = true → σ.at_ < σ'.at_) ∧ Hid (St.need s σ x y = (r, σ')) :=
  (need_any b s tw lo σ x y w h hs ha).mono fun e w' ⟨h1, h2, h3⟩ => ⟨_, _, h1, h2, h3, (St.need_adv ha x y).1, (St.need_adv ha x y).2.1, (St.need_adv ha x y).2.2, Lib.hid rfl⟩
theorem see_ex (b : Nat) (s : ByteArray) (tw lo : Bool) (σ : St) (w : World) (h : IsR w b s tw lo σ) (hs : s.size ≤ maxLen) (ha : σ.at_ ≤ s.size) :
    Calls Tryz.prog 29 #[.pointer (some ⟨b, 0, none⟩)] w fun e w' => ∃ X, e = .returned (.int .u8 X) ∧ IsR w' b s tw lo σ ∧ Mv b w w' ∧ (X ≠ 0 → σ.at_ < s.size) ∧ Hid (bAt s σ.at_ = X) :=
  (see_any b s tw lo σ w h hs ha).mono fun e w' ⟨h1, n, h2⟩ => ⟨_, h1, h2 ▸ h.drewN n, h2 ▸ (Mv.refl _ _).drewN n, fun hx => St.byte_in hx, Lib.hid rfl⟩

section
variable {Nq : Value → Prop} {b n B M : Nat} {s : ByteArray} {tw lo : Bool} {σ : St} {w0 w5 w7 : World} {k0 : Int} {t0 : ByteArray} {ns : List ByteArray} {ks : List Nd} {nm kd nm0 kd0 : Value} {m1 m2 g cp : Nat} {xs ys : List Value} {z0 z1 z2 z3 a0 a1 a2 a3 : Value} {nd : Nd} {lw : Nat}
theorem RC.fin (hK : KB b n B s tw lo σ w0 k0 t0 nm (.slice (some ⟨g, 0, none⟩) (m2 + 1) cp) nm (.slice (some ⟨g, 0, none⟩) (m2 + 1) cp) m1 (m2 + 1) xs (ys ++ [a0, a1, a2, a3]) w7) (hm1 : m1 ≤ M) (hm2 : m2 + 1 ≤ M) (e3 : ∀ x ∈ xs, Nq x) (C5 : Cont w5 B nm kd xs ys ns ks)
    (hs : w5.heap.size ≤ w7.heap.size) (hk : ∀ g', B ≤ g' → g' < w5.heap.size → g' ≠ g → kd.ownBlock ≠ some g' → w7.heap[g']? = w5.heap[g']?) (hat : kd.ownBlock = some g ∨ w5.heap.size ≤ g) (hlo : B ≤ lw) (hL1 : ∀ g, kd.ownBlock = some g → g < lw) (hL2 : ∀ g, nm.ownBlock = some g → g < lw)
    (D5 : NdM w5 (fun g => lw ≤ g ∧ g < w5.heap.size) nd [a0, a1, a2, a3]) : RC Nq b n B M s tw lo σ w0 k0 t0 ns (ks ++ [nd]) w7.heap.size w7 :=
  ⟨nm, _, m1, m2 + 1, xs, _, hK, hm1, hm2, e3, C5.addK hs hat hk rfl hlo hL1 hL2 D5, fun g e => (hK.o2.lt g e).2, fun g e => (hK.o1.lt g e).2⟩
theorem RC.fin1 (K7 : KB b n B s tw lo σ w0 k0 t0 nm kd0 nm (.slice (some ⟨g, 0, none⟩) (m2 + 1) cp) m1 (m2 + 1) xs (ys ++ [z0, z1, z2, z3]) w7) (hm1 : m1 ≤ M) (hm2 : m2 + 1 ≤ M) (e3 : ∀ x ∈ xs, Nq x) (C5 : Cont w5 B nm kd xs ys ns ks) (hyl : ys.length = m2 * 4)
    (H7 : (∀ g', g' < w5.heap.size → kd.ownBlock ≠ some g' → w7.heap[g']? = w5.heap[g']?) ∧ w5.heap.size ≤ w7.heap.size ∧ (kd.ownBlock = some g ∨ w5.heap.size ≤ g)) (hlo : B ≤ lw) (hL1 : ∀ g, kd.ownBlock = some g → g < lw) (hL2 : ∀ g, nm.ownBlock = some g → g < lw)
    (D5 : NdM w5 (fun g => lw ≤ g ∧ g < w5.heap.size) nd [a0, a1, a2, a3]) :
    RC Nq b n B M s tw lo σ w0 k0 t0 ns (ks ++ [nd]) (((((w7.setCell ⟨g, m2 * 4, none⟩ a0).setCell ⟨g, m2 * 4 + 1, none⟩ a1).setCell ⟨g, m2 * 4 + 2, none⟩ a2).setCell ⟨g, m2 * 4 + 3, none⟩ a3).setCell ⟨n, 3, none⟩ (.slice (some ⟨g, 0, none⟩) (m2 + 1) cp)).heap.size (((((w7.setCell ⟨g, m2 * 4, none⟩ a0).setCell ⟨g, m2 * 4 + 1, none⟩ a1).setCell ⟨g, m2 * 4 + 2, none⟩ a2).setCell ⟨g, m2 * 4 + 3, none⟩ a3).setCell ⟨n, 3, none⟩ (.slice (some ⟨g, 0, none⟩) (m2 + 1) cp)) := by
  obtain ⟨h1, h2, h3⟩ := H7
  have hn := K7.hn
  have K8 := ((((K7.row (m2 * 4) a0).row (m2 * 4 + 1) a1).row (m2 * 4 + 2) a2).row (m2 * 4 + 3) a3).kids (.slice (some ⟨g, 0, none⟩) (m2 + 1) cp)
  rw [set4 ys m2 hyl] at K8
  refine RC.fin K8 hm1 hm2 e3 C5 (by simpa [World.setCell] using h2) (fun g' q1 q2 q3 q4 => ?_) h3 hlo hL1 hL2 D5
  exact (Below.heap_setCell _ _ _ _ (by simp; omega)).trans ((Below.heap_setCell _ _ _ _ (by simpa using q3)).trans ((Below.heap_setCell _ _ _ _ (by simpa using q3)).trans ((Below.heap_setCell _ _ _ _ (by simpa using q3)).trans ((Below.heap_setCell _ _ _ _ (by simpa using q3)).trans (h1 g' q2 q4)))))
theorem RC.fin2 (K7 : KB b n B s tw lo σ w0 k0 t0 nm kd0 nm (.slice (some ⟨g, 0, none⟩) (m2 + 1) cp) m1 (m2 + 1) xs (ys ++ [z0, z1, z2, z3]) w7) (hm1 : m1 ≤ M) (hm2 : m2 + 1 ≤ M) (e3 : ∀ x ∈ xs, Nq x) (C5 : Cont w5 B nm kd xs ys ns ks) (hyl : ys.length = m2 * 4)
    (H7 : (∀ g', g' < w5.heap.size → kd.ownBlock ≠ some g' → w7.heap[g']? = w5.heap[g']?) ∧ w5.heap.size ≤ w7.heap.size ∧ (kd.ownBlock = some g ∨ w5.heap.size ≤ g)) (hlo : B ≤ lw) (hL1 : ∀ g, kd.ownBlock = some g → g < lw) (hL2 : ∀ g, nm.ownBlock = some g → g < lw)
    (D5 : NdM w5 (fun g => lw ≤ g ∧ g < w5.heap.size) nd [a0, a1, a2, a3]) :
    RC Nq b n B M s tw lo σ w0 k0 t0 ns (ks ++ [nd]) (((((w7.setCell ⟨n, 3, none⟩ (.slice (some ⟨g, 0, none⟩) (m2 + 1) cp)).setCell ⟨g, m2 * 4, none⟩ a0).setCell ⟨g, m2 * 4 + 1, none⟩ a1).setCell ⟨g, m2 * 4 + 2, none⟩ a2).setCell ⟨g, m2 * 4 + 3, none⟩ a3).heap.size (((((w7.setCell ⟨n, 3, none⟩ (.slice (some ⟨g, 0, none⟩) (m2 + 1) cp)).setCell ⟨g, m2 * 4, none⟩ a0).setCell ⟨g, m2 * 4 + 1, none⟩ a1).setCell ⟨g, m2 * 4 + 2, none⟩ a2).setCell ⟨g, m2 * 4 + 3, none⟩ a3) := by
  obtain ⟨h1, h2, h3⟩ := H7
  have hn := K7.hn
  have K8 := ((((K7.kids (.slice (some ⟨g, 0, none⟩) (m2 + 1) cp)).row (m2 * 4) a0).row (m2 * 4 + 1) a1).row (m2 * 4 + 2) a2).row (m2 * 4 + 3) a3
  rw [set4 ys m2 hyl] at K8
  refine RC.fin K8 hm1 hm2 e3 C5 (by simpa [World.setCell] using h2) (fun g' q1 q2 q3 q4 => ?_) h3 hlo hL1 hL2 D5
  exact (Below.heap_setCell _ _ _ _ (by simpa using q3)).trans ((Below.heap_setCell _ _ _ _ (by simpa using q3)).trans ((Below.heap_setCell _ _ _ _ (by simpa using q3)).trans ((Below.heap_setCell _ _ _ _ (by simpa using q3)).trans ((Below.heap_setCell _ _ _ _ (by simp; omega)).trans (h1 g' q2 q4)))))
end
set_option maxRecDepth 100000 in
set_option maxHeartbeats 4000000 in
theorem array_cn (Nq : Value → Prop) (b n B : Nat) (s : ByteArray) (tw lo : Bool) (σ : St) (w0 w : World) (k0 : Int) (t0 : ByteArray) (L : Nat) (h : RC Nq b n B σ.at_ s tw lo σ w0 k0 t0 [] [] L w) (hs : s.size ≤ 2147483647) (ha : σ.at_ ≤ s.size)
    (ih : ∀ σ', σ.at_ ≤ σ'.at_ → σ'.at_ ≤ s.size → ValC b s tw lo σ') :
    Calls Tryz.prog 31 #[.pointer (some ⟨b, 0, none⟩), .pointer (some ⟨n, 0, none⟩)] w (FillC .arr Nq b n B s tw lo σ w0 k0 t0) := by
  have hsm : s.size ≤ maxLen := by unfold maxLen; omega
  go_enter Tryz.func31, Tryz.ntmps31
  go_upto_if 11 with (first
    | (go_at_call 15; refine (space_ex b s tw lo σ _ h.r hsm ha).mono ?_; rintro e w1 ⟨σ1, rfl, hR1, hM1, l1, l1', hsp1⟩; have h1 := h.mv hR1 hM1 l1)
    | (go_at_call 29; refine (see_ex b s tw lo σ1 _ hR1 hsm l1').mono ?_; rintro e w2 ⟨X, rfl, hR2, hM2, hX, hb1⟩; have h2 := h1.mv hR2 hM2 (Nat.le_refl _)))
  cases hx : (X == 93)
  case true =>
    have hlt := hX (by have := of_decide_eq_true hx; omega)
    have HA := Lib.hid (show RdN s tw lo .arr σ true { σ1 with at_ := σ1.at_ + 1 } by rw [← hsp1.out]; exact .arr0 (by rw [hsp1.out, hb1.out]; simpa using hx))
    have HA2 := Lib.hid (show CnN s tw lo .arr σ { σ1 with at_ := σ1.at_ + 1 } [] [] by rw [← hsp1.out]; exact .arr0 (by rw [hsp1.out, hb1.out]; simpa using hx))
    obtain ⟨c0, c1, c2, c3, c4, c5, f1, f4, f5⟩ := hR2.cells
    have hl63 : (σ1.at_ : Int) < 9223372036854775807 := by omega
    go_wp2_with fail
    all_goals go_ret
    exact ⟨_, _, σ1.at_, [], [], L, rfl, h2.mv (hR2.setAt (σ1.at_ + 1)) ((Mv.refl _ _).setCell _ _) (Nat.le_refl _), by simp; omega, by simp; omega, HA.out, fun _ => HA2.out⟩
  have HLC := Lib.hid (show ∀ σ2 ks2, CnN s tw lo .arrL σ1 σ2 [] ks2 → CnN s tw lo .arr σ σ2 [] ([] ++ ks2) from fun σ2 ks2 h => .arrB (by rw [hsp1.out, hb1.out]; simpa using hx) (by rw [hsp1.out]; exact h))
  have HL := Lib.hid (show ∀ r σ2, RdN s tw lo .arrL σ1 r σ2 → RdN s tw lo .arr σ r σ2 from fun r σ2 h => .arrB (by rw [hsp1.out, hb1.out]; simpa using hx) (by rw [hsp1.out]; exact h))
  clear hX hx h h1 hsp1 hb1 hR1 hM1 hM2 hR2
  go_wp2_with fail
  go_loopg [] s.size (fun g wx => ∃ σ' ks L, RC Nq b n B σ'.at_ s tw lo σ' w0 k0 t0 [] ks L wx ∧ s.size - σ'.at_ ≤ g ∧ σ.at_ ≤ σ'.at_ ∧ σ'.at_ ≤ s.size ∧ Hid (∀ r σ2, RdN s tw lo .arrL σ' r σ2 → RdN s tw lo .arr σ r σ2) ∧ Hid (∀ σ2 ks2, CnN s tw lo .arrL σ' σ2 [] ks2 → CnN s tw lo .arr σ σ2 [] (ks ++ ks2)))
  case atStart => exact ⟨σ1, [], L, h2, by omega, l1, l1', HL, HLC⟩
  case round =>
    clear h2 l1 l1' HL HLC
    obtain ⟨σ', ks, L1, hB0, hg, l0, l0', HL, HLC⟩ := hrel
    have hB := hB0.low
    clear hB0
    obtain ⟨ns, hns⟩ : ∃ ns : List ByteArray, ns = [] := ⟨_, rfl⟩
    rw [← hns] at hB
    go_upto_if 25 with (go_at_call 14; refine (ih σ' l0 l0' wr hB.r).mono ?_; rintro e w3 ⟨k, t, na, nl, nc, ka, kl, kc, r, σ2, rfl, hR3, hM3, l2, l2', _, hv, hcn⟩; have HV := Lib.hid hv; have HCN := Lib.hid hcn; clear hv hcn; have h3 := hB.mv hR3 hM3 l2)
    cases r
    case false =>
      go_wp2_with fail
      all_goals go_ret
      exact ⟨_, σ2, σ2.at_, _, _, _, rfl, h3.alloc _, by omega, l2', HL.out _ _ (.arrF HV.out), fun h => (by cases h)⟩
    obtain ⟨nd, hcv, hnd⟩ := HCN.out rfl
    have HCV := Lib.hid hcv
    clear hcv HCN
    go_upto_region 8 with fail
    have h4 := h3.alloc (.cells #[.int .u8 k, .string t, .slice na nl nc, .slice ka kl kc] 25)
    have hk4 : NodeB (w3.alloc (.cells #[.int .u8 k, .string t, .slice na nl nc, .slice ka kl kc] 25)) w3.heap.size k t (.slice na nl nc) (.slice ka kl kc) := ⟨_, heap_alloc_new _ _⟩
    have hp5 := h3.hB
    have hd4 := NdM.keep (w := w3) (P := fun g => wr.heap.size ≤ g ∧ g < w3.heap.size) (w' := w3.alloc (.cells #[.int .u8 k, .string t, .slice na nl nc, .slice ka kl kc] 25)) (Q := fun g => wr.heap.size ≤ g ∧ g < (w3.alloc (.cells #[.int .u8 k, .string t, .slice na nl nc, .slice ka kl kc] 25)).heap.size) (fun g ⟨h1, h2⟩ => ⟨⟨h1, by simp; omega⟩, Below.heap_alloc _ _ _ h2⟩) _ _ hnd
    clear h3 hR3 hM3
    revert h4 hk4 hp5 hd4
    generalize w3.alloc (.cells #[.int .u8 k, .string t, .slice na nl nc, .slice ka kl kc] 25) = w4
    generalize w3.heap.size = p5
    intro h4 hk4 hp5 hd4
    have hlo := hB.hB
    revert h4 hd4 hlo
    generalize wr.heap.size = lw
    intro h4 hd4 hlo
    go_cut [] from 26 to 36 (fun wx => RC Nq b n B (σ2.at_ + 1) s tw lo σ2 w0 k0 t0 ns (ks ++ [nd]) wx.heap.size wx)
    case first =>
      obtain ⟨nm, kd, m1, m2, xs, ys, hK, e1, e2, e3, C4, hL1, hL2⟩ := h4
      obtain ⟨ao, cp, rfl⟩ := own_slice hK.o2
      have K5 := hK.drew
      have C5 := C4.keep (w' := w4.drew) (Nat.le_refl _) (fun _ _ _ _ _ => rfl)
      have D5 := NdM.keep (w := w4) (w' := w4.drew) (P := fun g => lw ≤ g ∧ g < w4.heap.size) (Q := fun g => lw ≤ g ∧ g < w4.drew.heap.size) (fun g hg => ⟨hg, rfl⟩) _ _ hd4
      have N5 : NodeB w4.drew p5 k t (.slice na nl nc) (.slice ka kl kc) := hk4
      clear hK hk4 C4 hd4
      refine wp_region_any (by kernel_rfl) ?_
      try (change wpAny _ _ _ _ _ _ _ (World.drew _))
      generalize w4.drew = w5 at K5 N5 C5 D5 ⊢
      have K6 := K5.alloc (.cells #[.int .u8 0, .string ⟨#[]⟩, .slice none 0 0, .slice none 0 0] 25)
      have N6 := N5.other (Below.heap_alloc w5 (.cells #[.int .u8 0, .string ⟨#[]⟩, .slice none 0 0, .slice none 0 0] 25) p5 N5.lt)
      have HN : ∀ (j : Nat) (u : Value), ([.int .u8 0, .string ⟨#[]⟩, .slice none 0 0, .slice none 0 0] : List Value)[j]? = some u → (w5.alloc (.cells #[.int .u8 0, .string ⟨#[]⟩, .slice none 0 0, .slice none 0 0] 25)).cell? ((⟨w5.heap.size, 0, none⟩ : Addr).add j) = some u := by
        intro j u hu
        have := heap_alloc_new w5 (.cells #[.int .u8 0, .string ⟨#[]⟩, .slice none 0 0, .slice none 0 0] 25)
        rw [show ((⟨w5.heap.size, 0, none⟩ : Addr).add j) = ⟨w5.heap.size, j, none⟩ from by unfold Addr.add; split <;> simp_all]
        simp only [World.cell?, this]
        simpa using hu
      obtain ⟨i0, hi0, hz⟩ := Option.map_eq_some_iff.1 infoN
      obtain ⟨hz0, hz1, hz2⟩ : i0.zero = some (.agg #[.int .u8 0, .string ⟨#[]⟩, .slice none 0 0, .slice none 0 0]) ∧ i0.size = 4 ∧ i0.bytes = 72 := by injection hz with x y; injection y with y z; exact ⟨x, y, z⟩
      clear hz
      obtain ⟨a0, a1, a2, a3, fa0, fa1, fa2, fa3⟩ := K5.node.cells
      obtain ⟨b0, b1, b2, b3, fb0, fb1, fb2, fb3⟩ := N5.cells
      obtain ⟨c0, c1, c2, c3, fc0, fc1, fc2, fc3⟩ := K6.node.cells
      obtain ⟨d0, d1, d2, d3, fd0, fd1, fd2, fd3⟩ := N6.cells
      refine wpAny_take (i := 0) (v := ?_) rfl (by kernel_rfl) (by kernel_rfl) (by kernel_rfl) (fun _ _ _ h => h) (Or.inl ⟨by rfl, ?_⟩) ?_
      rotate_left
      · intro wx; go_simp; try with_reducible rfl
      rotate_left
      refine wpAny_take (i := 1) (v := ?_) rfl (by kernel_rfl) (by kernel_rfl) (by kernel_rfl) (fun _ _ _ h => h) (Or.inl ⟨by rfl, ?_⟩) ?_
      rotate_left
      · intro wx; go_simp; try with_reducible rfl
      rotate_left
      refine wpAny_take (i := 2) (v := ?_) rfl (by kernel_rfl) (by kernel_rfl) (by kernel_rfl) (fun _ _ _ h => h) (Or.inl ⟨by rfl, ?_⟩) ?_
      rotate_left
      · intro wx; go_simp; try with_reducible rfl
      rotate_left
      simp only [List.getElem_toArray, List.getElem_cons_succ, List.getElem_cons_zero, Act.put, List.setIfInBounds_toArray, List.set_cons_succ, List.set_cons_zero]
      refine wpAny_all (rs := [3, 4, 6]) (by kernel_rfl) (by decide) ?_
      intro i hi
      simp only [List.mem_cons, List.not_mem_nil, or_false] at hi
      rcases hi with rfl | rfl | rfl
      · refine wpOp_val (v := .slice ao m2 cp) (w' := w5) rfl (by rfl) (by go_simp) ?_
        refine wpAny_take (i := 5) (v := ?_) rfl (by kernel_rfl) (by kernel_rfl) (by kernel_rfl) (fun _ _ _ h => h) (Or.inl ⟨by rfl, ?_⟩) ?_
        rotate_left
        · intro wx; go_simp; try with_reducible rfl
        rotate_left
        refine wpAny_all (rs := [4, 6]) (by kernel_rfl) (by decide) ?_
        intro i hi
        simp only [List.mem_cons, List.not_mem_nil, or_false] at hi
        rcases hi with rfl | rfl
        · refine wpOp_val (v := .agg #[.int .u8 k, .string t, .slice na nl nc, .slice ka kl kc]) (w' := w5) rfl (by rfl) (by go_simp) ?_
          refine wpAny_all (rs := [6]) (by kernel_rfl) (by decide) ?_
          intro i hi
          simp only [List.mem_cons, List.not_mem_nil, or_false] at hi
          subst hi
          refine wpOp_val (v := .slice (some ⟨w5.heap.size, 0, none⟩) 1 1) (w' := w5.alloc (.cells #[.int .u8 0, .string ⟨#[]⟩, .slice none 0 0, .slice none 0 0] 25)) rfl (by rfl) (by go_simp) ?_
          refine wpAny_all (rs := [7]) (by kernel_rfl) (by decide) ?_
          intro i hi
          simp only [List.mem_cons, List.not_mem_nil, or_false] at hi
          subst hi
          refine wpOp_of (i := 7) rfl (by rfl) ?_
          refine wp_append_lies _ (.tmp 29) (.tmp 32) 23 rfl B 25 i0 _ 4 72 Tryz.underlying23 hi0 hz0 hz1 hz2 rfl (by decide) (.slice ao m2 cp) m2 ys rfl K6.o2 ⟨w5.heap.size, 0, none⟩ 1 1 [.int .u8 0, .string ⟨#[]⟩, .slice none 0 0, .slice none 0 0] rfl rfl HN (by simp [Value.oneCell']) (by decide) (by unfold maxLen; omega) (by omega) K6.hB _ rfl ?_
          intro g cp' w7 ho hg hat hlt7
          have H7 := Lib.hid (kid_grown hg hat)
          have K7 := K6.appK ho hg
          obtain ⟨m0, m1', m2', m3, fm0, fm1, fm2, fm3⟩ := K7.node.cells
          have hfz := World.ownsRow.frozenAt ho
          have hlz := own_len ho
          have hyl := K6.o2.1
          have z0 : w7.cell? ⟨g, m2 * 4, none⟩ = some (.int .u8 0) := by rw [World.ownsRow.cellAt ho _ (by omega), List.getElem?_append_right (by omega), hyl, Nat.sub_self]; rfl
          have z1 : w7.cell? ⟨g, m2 * 4 + 1, none⟩ = some (.string ⟨#[]⟩) := by rw [World.ownsRow.cellAt ho _ (by omega), List.getElem?_append_right (by omega), hyl, Nat.add_sub_cancel_left]; rfl
          have z2 : w7.cell? ⟨g, m2 * 4 + 2, none⟩ = some (.slice none 0 0) := by rw [World.ownsRow.cellAt ho _ (by omega), List.getElem?_append_right (by omega), hyl, Nat.add_sub_cancel_left]; rfl
          have z3 : w7.cell? ⟨g, m2 * 4 + 3, none⟩ = some (.slice none 0 0) := by rw [World.ownsRow.cellAt ho _ (by omega), List.getElem?_append_right (by omega), hyl, Nat.add_sub_cancel_left]; rfl
          have hgB : B ≤ g := (ho.lt g rfl).1
          have hgn : g ≠ n := by have := K7.hn; omega
          simp only [List.getElem_toArray, List.getElem_cons_succ, List.getElem_cons_zero, Act.put, List.setIfInBounds_toArray, List.set_cons_succ, List.set_cons_zero]
          refine wpAny_take (i := 8) (v := ?_) rfl (by kernel_rfl) (by kernel_rfl) (by kernel_rfl) (fun _ _ _ h => h) (Or.inl ⟨by rfl, ?_⟩) ?_
          rotate_left
          · intro wx; go_simp; rw [if_pos (by omega)]; try with_reducible rfl
          rotate_left
          refine wpAny_take (i := 10) (v := ?_) rfl (by kernel_rfl) (by kernel_rfl) (by kernel_rfl) (fun _ _ _ h => h) (Or.inl ⟨by rfl, ?_⟩) ?_
          rotate_left
          · intro wx; go_simp; try with_reducible rfl
          rotate_left
          refine wpAny_take (i := 11) (v := ?_) rfl (by kernel_rfl) (by kernel_rfl) (by kernel_rfl) (fun _ _ _ h => h) (Or.inl ⟨by rfl, ?_⟩) ?_
          rotate_left
          · intro wx; go_simp; try with_reducible rfl
          rotate_left
          simp only [List.getElem_toArray, List.getElem_cons_succ, List.getElem_cons_zero, Act.put, List.setIfInBounds_toArray, List.set_cons_succ, List.set_cons_zero]
          refine wpAny_two (i := 9) (j := 12) rfl rfl (by kernel_rfl) (by kernel_rfl) (by kernel_rfl) ?_ ?_
          · go_wp2_with fail
            go_meet
            exact RC.fin1 K7 (by omega) (by omega) e3 C5 (by omega) H7.out hlo hL1 hL2 D5
          · go_wp2_with fail
            go_meet
            exact RC.fin2 K7 (by omega) (by omega) e3 C5 (by omega) H7.out hlo hL1 hL2 D5
        · refine wpOp_val (v := .slice (some ⟨w5.heap.size, 0, none⟩) 1 1) (w' := w5.alloc (.cells #[.int .u8 0, .string ⟨#[]⟩, .slice none 0 0, .slice none 0 0] 25)) rfl (by rfl) (by go_simp) ?_
          refine wpAny_all (rs := [4]) (by kernel_rfl) (by decide) ?_
          intro i hi
          simp only [List.mem_cons, List.not_mem_nil, or_false] at hi
          subst hi
          refine wpOp_val (v := .agg #[.int .u8 k, .string t, .slice na nl nc, .slice ka kl kc]) (w' := (w5.alloc (.cells #[.int .u8 0, .string ⟨#[]⟩, .slice none 0 0, .slice none 0 0] 25))) rfl (by rfl) (by go_simp) ?_
          refine wpAny_all (rs := [7]) (by kernel_rfl) (by decide) ?_
          intro i hi
          simp only [List.mem_cons, List.not_mem_nil, or_false] at hi
          subst hi
          refine wpOp_of (i := 7) rfl (by rfl) ?_
          refine wp_append_lies _ (.tmp 29) (.tmp 32) 23 rfl B 25 i0 _ 4 72 Tryz.underlying23 hi0 hz0 hz1 hz2 rfl (by decide) (.slice ao m2 cp) m2 ys rfl K6.o2 ⟨w5.heap.size, 0, none⟩ 1 1 [.int .u8 0, .string ⟨#[]⟩, .slice none 0 0, .slice none 0 0] rfl rfl HN (by simp [Value.oneCell']) (by decide) (by unfold maxLen; omega) (by omega) K6.hB _ rfl ?_
          intro g cp' w7 ho hg hat hlt7
          have H7 := Lib.hid (kid_grown hg hat)
          have K7 := K6.appK ho hg
          obtain ⟨m0, m1', m2', m3, fm0, fm1, fm2, fm3⟩ := K7.node.cells
          have hfz := World.ownsRow.frozenAt ho
          have hlz := own_len ho
          have hyl := K6.o2.1
          have z0 : w7.cell? ⟨g, m2 * 4, none⟩ = some (.int .u8 0) := by rw [World.ownsRow.cellAt ho _ (by omega), List.getElem?_append_right (by omega), hyl, Nat.sub_self]; rfl
          have z1 : w7.cell? ⟨g, m2 * 4 + 1, none⟩ = some (.string ⟨#[]⟩) := by rw [World.ownsRow.cellAt ho _ (by omega), List.getElem?_append_right (by omega), hyl, Nat.add_sub_cancel_left]; rfl
          have z2 : w7.cell? ⟨g, m2 * 4 + 2, none⟩ = some (.slice none 0 0) := by rw [World.ownsRow.cellAt ho _ (by omega), List.getElem?_append_right (by omega), hyl, Nat.add_sub_cancel_left]; rfl
          have z3 : w7.cell? ⟨g, m2 * 4 + 3, none⟩ = some (.slice none 0 0) := by rw [World.ownsRow.cellAt ho _ (by omega), List.getElem?_append_right (by omega), hyl, Nat.add_sub_cancel_left]; rfl
          have hgB : B ≤ g := (ho.lt g rfl).1
          have hgn : g ≠ n := by have := K7.hn; omega
          simp only [List.getElem_toArray, List.getElem_cons_succ, List.getElem_cons_zero, Act.put, List.setIfInBounds_toArray, List.set_cons_succ, List.set_cons_zero]
          refine wpAny_take (i := 8) (v := ?_) rfl (by kernel_rfl) (by kernel_rfl) (by kernel_rfl) (fun _ _ _ h => h) (Or.inl ⟨by rfl, ?_⟩) ?_
          rotate_left
          · intro wx; go_simp; rw [if_pos (by omega)]; try with_reducible rfl
          rotate_left
          refine wpAny_take (i := 10) (v := ?_) rfl (by kernel_rfl) (by kernel_rfl) (by kernel_rfl) (fun _ _ _ h => h) (Or.inl ⟨by rfl, ?_⟩) ?_
          rotate_left
          · intro wx; go_simp; try with_reducible rfl
          rotate_left
          refine wpAny_take (i := 11) (v := ?_) rfl (by kernel_rfl) (by kernel_rfl) (by kernel_rfl) (fun _ _ _ h => h) (Or.inl ⟨by rfl, ?_⟩) ?_
          rotate_left
          · intro wx; go_simp; try with_reducible rfl
          rotate_left
          simp only [List.getElem_toArray, List.getElem_cons_succ, List.getElem_cons_zero, Act.put, List.setIfInBounds_toArray, List.set_cons_succ, List.set_cons_zero]
          refine wpAny_two (i := 9) (j := 12) rfl rfl (by kernel_rfl) (by kernel_rfl) (by kernel_rfl) ?_ ?_
          · go_wp2_with fail
            go_meet
            exact RC.fin1 K7 (by omega) (by omega) e3 C5 (by omega) H7.out hlo hL1 hL2 D5
          · go_wp2_with fail
            go_meet
            exact RC.fin2 K7 (by omega) (by omega) e3 C5 (by omega) H7.out hlo hL1 hL2 D5
      · refine wpOp_val (v := .agg #[.int .u8 k, .string t, .slice na nl nc, .slice ka kl kc]) (w' := w5) rfl (by rfl) (by go_simp) ?_
        refine wpAny_all (rs := [3, 6]) (by kernel_rfl) (by decide) ?_
        intro i hi
        simp only [List.mem_cons, List.not_mem_nil, or_false] at hi
        rcases hi with rfl | rfl
        · refine wpOp_val (v := .slice ao m2 cp) (w' := w5) rfl (by rfl) (by go_simp) ?_
          refine wpAny_take (i := 5) (v := ?_) rfl (by kernel_rfl) (by kernel_rfl) (by kernel_rfl) (fun _ _ _ h => h) (Or.inl ⟨by rfl, ?_⟩) ?_
          rotate_left
          · intro wx; go_simp; try with_reducible rfl
          rotate_left
          refine wpAny_all (rs := [6]) (by kernel_rfl) (by decide) ?_
          intro i hi
          simp only [List.mem_cons, List.not_mem_nil, or_false] at hi
          subst hi
          refine wpOp_val (v := .slice (some ⟨w5.heap.size, 0, none⟩) 1 1) (w' := w5.alloc (.cells #[.int .u8 0, .string ⟨#[]⟩, .slice none 0 0, .slice none 0 0] 25)) rfl (by rfl) (by go_simp) ?_
          refine wpAny_all (rs := [7]) (by kernel_rfl) (by decide) ?_
          intro i hi
          simp only [List.mem_cons, List.not_mem_nil, or_false] at hi
          subst hi
          refine wpOp_of (i := 7) rfl (by rfl) ?_
          refine wp_append_lies _ (.tmp 29) (.tmp 32) 23 rfl B 25 i0 _ 4 72 Tryz.underlying23 hi0 hz0 hz1 hz2 rfl (by decide) (.slice ao m2 cp) m2 ys rfl K6.o2 ⟨w5.heap.size, 0, none⟩ 1 1 [.int .u8 0, .string ⟨#[]⟩, .slice none 0 0, .slice none 0 0] rfl rfl HN (by simp [Value.oneCell']) (by decide) (by unfold maxLen; omega) (by omega) K6.hB _ rfl ?_
          intro g cp' w7 ho hg hat hlt7
          have H7 := Lib.hid (kid_grown hg hat)
          have K7 := K6.appK ho hg
          obtain ⟨m0, m1', m2', m3, fm0, fm1, fm2, fm3⟩ := K7.node.cells
          have hfz := World.ownsRow.frozenAt ho
          have hlz := own_len ho
          have hyl := K6.o2.1
          have z0 : w7.cell? ⟨g, m2 * 4, none⟩ = some (.int .u8 0) := by rw [World.ownsRow.cellAt ho _ (by omega), List.getElem?_append_right (by omega), hyl, Nat.sub_self]; rfl
          have z1 : w7.cell? ⟨g, m2 * 4 + 1, none⟩ = some (.string ⟨#[]⟩) := by rw [World.ownsRow.cellAt ho _ (by omega), List.getElem?_append_right (by omega), hyl, Nat.add_sub_cancel_left]; rfl
          have z2 : w7.cell? ⟨g, m2 * 4 + 2, none⟩ = some (.slice none 0 0) := by rw [World.ownsRow.cellAt ho _ (by omega), List.getElem?_append_right (by omega), hyl, Nat.add_sub_cancel_left]; rfl
          have z3 : w7.cell? ⟨g, m2 * 4 + 3, none⟩ = some (.slice none 0 0) := by rw [World.ownsRow.cellAt ho _ (by omega), List.getElem?_append_right (by omega), hyl, Nat.add_sub_cancel_left]; rfl
          have hgB : B ≤ g := (ho.lt g rfl).1
          have hgn : g ≠ n := by have := K7.hn; omega
          simp only [List.getElem_toArray, List.getElem_cons_succ, List.getElem_cons_zero, Act.put, List.setIfInBounds_toArray, List.set_cons_succ, List.set_cons_zero]
          refine wpAny_take (i := 8) (v := ?_) rfl (by kernel_rfl) (by kernel_rfl) (by kernel_rfl) (fun _ _ _ h => h) (Or.inl ⟨by rfl, ?_⟩) ?_
          rotate_left
          · intro wx; go_simp; rw [if_pos (by omega)]; try with_reducible rfl
          rotate_left
          refine wpAny_take (i := 10) (v := ?_) rfl (by kernel_rfl) (by kernel_rfl) (by kernel_rfl) (fun _ _ _ h => h) (Or.inl ⟨by rfl, ?_⟩) ?_
          rotate_left
          · intro wx; go_simp; try with_reducible rfl
          rotate_left
          refine wpAny_take (i := 11) (v := ?_) rfl (by kernel_rfl) (by kernel_rfl) (by kernel_rfl) (fun _ _ _ h => h) (Or.inl ⟨by rfl, ?_⟩) ?_
          rotate_left
          · intro wx; go_simp; try with_reducible rfl
          rotate_left
          simp only [List.getElem_toArray, List.getElem_cons_succ, List.getElem_cons_zero, Act.put, List.setIfInBounds_toArray, List.set_cons_succ, List.set_cons_zero]
          refine wpAny_two (i := 9) (j := 12) rfl rfl (by kernel_rfl) (by kernel_rfl) (by kernel_rfl) ?_ ?_
          · go_wp2_with fail
            go_meet
            exact RC.fin1 K7 (by omega) (by omega) e3 C5 (by omega) H7.out hlo hL1 hL2 D5
          · go_wp2_with fail
            go_meet
            exact RC.fin2 K7 (by omega) (by omega) e3 C5 (by omega) H7.out hlo hL1 hL2 D5
        · refine wpOp_val (v := .slice (some ⟨w5.heap.size, 0, none⟩) 1 1) (w' := w5.alloc (.cells #[.int .u8 0, .string ⟨#[]⟩, .slice none 0 0, .slice none 0 0] 25)) rfl (by rfl) (by go_simp) ?_
          refine wpAny_all (rs := [3]) (by kernel_rfl) (by decide) ?_
          intro i hi
          simp only [List.mem_cons, List.not_mem_nil, or_false] at hi
          subst hi
          refine wpOp_val (v := .slice ao m2 cp) (w' := (w5.alloc (.cells #[.int .u8 0, .string ⟨#[]⟩, .slice none 0 0, .slice none 0 0] 25))) rfl (by rfl) (by go_simp) ?_
          refine wpAny_take (i := 5) (v := ?_) rfl (by kernel_rfl) (by kernel_rfl) (by kernel_rfl) (fun _ _ _ h => h) (Or.inl ⟨by rfl, ?_⟩) ?_
          rotate_left
          · intro wx; go_simp; try with_reducible rfl
          rotate_left
          refine wpAny_all (rs := [7]) (by kernel_rfl) (by decide) ?_
          intro i hi
          simp only [List.mem_cons, List.not_mem_nil, or_false] at hi
          subst hi
          refine wpOp_of (i := 7) rfl (by rfl) ?_
          refine wp_append_lies _ (.tmp 29) (.tmp 32) 23 rfl B 25 i0 _ 4 72 Tryz.underlying23 hi0 hz0 hz1 hz2 rfl (by decide) (.slice ao m2 cp) m2 ys rfl K6.o2 ⟨w5.heap.size, 0, none⟩ 1 1 [.int .u8 0, .string ⟨#[]⟩, .slice none 0 0, .slice none 0 0] rfl rfl HN (by simp [Value.oneCell']) (by decide) (by unfold maxLen; omega) (by omega) K6.hB _ rfl ?_
          intro g cp' w7 ho hg hat hlt7
          have H7 := Lib.hid (kid_grown hg hat)
          have K7 := K6.appK ho hg
          obtain ⟨m0, m1', m2', m3, fm0, fm1, fm2, fm3⟩ := K7.node.cells
          have hfz := World.ownsRow.frozenAt ho
          have hlz := own_len ho
          have hyl := K6.o2.1
          have z0 : w7.cell? ⟨g, m2 * 4, none⟩ = some (.int .u8 0) := by rw [World.ownsRow.cellAt ho _ (by omega), List.getElem?_append_right (by omega), hyl, Nat.sub_self]; rfl
          have z1 : w7.cell? ⟨g, m2 * 4 + 1, none⟩ = some (.string ⟨#[]⟩) := by rw [World.ownsRow.cellAt ho _ (by omega), List.getElem?_append_right (by omega), hyl, Nat.add_sub_cancel_left]; rfl
          have z2 : w7.cell? ⟨g, m2 * 4 + 2, none⟩ = some (.slice none 0 0) := by rw [World.ownsRow.cellAt ho _ (by omega), List.getElem?_append_right (by omega), hyl, Nat.add_sub_cancel_left]; rfl
          have z3 : w7.cell? ⟨g, m2 * 4 + 3, none⟩ = some (.slice none 0 0) := by rw [World.ownsRow.cellAt ho _ (by omega), List.getElem?_append_right (by omega), hyl, Nat.add_sub_cancel_left]; rfl
          have hgB : B ≤ g := (ho.lt g rfl).1
          have hgn : g ≠ n := by have := K7.hn; omega
          simp only [List.getElem_toArray, List.getElem_cons_succ, List.getElem_cons_zero, Act.put, List.setIfInBounds_toArray, List.set_cons_succ, List.set_cons_zero]
          refine wpAny_take (i := 8) (v := ?_) rfl (by kernel_rfl) (by kernel_rfl) (by kernel_rfl) (fun _ _ _ h => h) (Or.inl ⟨by rfl, ?_⟩) ?_
          rotate_left
          · intro wx; go_simp; rw [if_pos (by omega)]; try with_reducible rfl
          rotate_left
          refine wpAny_take (i := 10) (v := ?_) rfl (by kernel_rfl) (by kernel_rfl) (by kernel_rfl) (fun _ _ _ h => h) (Or.inl ⟨by rfl, ?_⟩) ?_
          rotate_left
          · intro wx; go_simp; try with_reducible rfl
          rotate_left
          refine wpAny_take (i := 11) (v := ?_) rfl (by kernel_rfl) (by kernel_rfl) (by kernel_rfl) (fun _ _ _ h => h) (Or.inl ⟨by rfl, ?_⟩) ?_
          rotate_left
          · intro wx; go_simp; try with_reducible rfl
          rotate_left
          simp only [List.getElem_toArray, List.getElem_cons_succ, List.getElem_cons_zero, Act.put, List.setIfInBounds_toArray, List.set_cons_succ, List.set_cons_zero]
          refine wpAny_two (i := 9) (j := 12) rfl rfl (by kernel_rfl) (by kernel_rfl) (by kernel_rfl) ?_ ?_
          · go_wp2_with fail
            go_meet
            exact RC.fin1 K7 (by omega) (by omega) e3 C5 (by omega) H7.out hlo hL1 hL2 D5
          · go_wp2_with fail
            go_meet
            exact RC.fin2 K7 (by omega) (by omega) e3 C5 (by omega) H7.out hlo hL1 hL2 D5
      · refine wpOp_val (v := .slice (some ⟨w5.heap.size, 0, none⟩) 1 1) (w' := w5.alloc (.cells #[.int .u8 0, .string ⟨#[]⟩, .slice none 0 0, .slice none 0 0] 25)) rfl (by rfl) (by go_simp) ?_
        refine wpAny_all (rs := [3, 4]) (by kernel_rfl) (by decide) ?_
        intro i hi
        simp only [List.mem_cons, List.not_mem_nil, or_false] at hi
        rcases hi with rfl | rfl
        · refine wpOp_val (v := .slice ao m2 cp) (w' := (w5.alloc (.cells #[.int .u8 0, .string ⟨#[]⟩, .slice none 0 0, .slice none 0 0] 25))) rfl (by rfl) (by go_simp) ?_
          refine wpAny_take (i := 5) (v := ?_) rfl (by kernel_rfl) (by kernel_rfl) (by kernel_rfl) (fun _ _ _ h => h) (Or.inl ⟨by rfl, ?_⟩) ?_
          rotate_left
          · intro wx; go_simp; try with_reducible rfl
          rotate_left
          refine wpAny_all (rs := [4]) (by kernel_rfl) (by decide) ?_
          intro i hi
          simp only [List.mem_cons, List.not_mem_nil, or_false] at hi
          subst hi
          refine wpOp_val (v := .agg #[.int .u8 k, .string t, .slice na nl nc, .slice ka kl kc]) (w' := (w5.alloc (.cells #[.int .u8 0, .string ⟨#[]⟩, .slice none 0 0, .slice none 0 0] 25))) rfl (by rfl) (by go_simp) ?_
          refine wpAny_all (rs := [7]) (by kernel_rfl) (by decide) ?_
          intro i hi
          simp only [List.mem_cons, List.not_mem_nil, or_false] at hi
          subst hi
          refine wpOp_of (i := 7) rfl (by rfl) ?_
          refine wp_append_lies _ (.tmp 29) (.tmp 32) 23 rfl B 25 i0 _ 4 72 Tryz.underlying23 hi0 hz0 hz1 hz2 rfl (by decide) (.slice ao m2 cp) m2 ys rfl K6.o2 ⟨w5.heap.size, 0, none⟩ 1 1 [.int .u8 0, .string ⟨#[]⟩, .slice none 0 0, .slice none 0 0] rfl rfl HN (by simp [Value.oneCell']) (by decide) (by unfold maxLen; omega) (by omega) K6.hB _ rfl ?_
          intro g cp' w7 ho hg hat hlt7
          have H7 := Lib.hid (kid_grown hg hat)
          have K7 := K6.appK ho hg
          obtain ⟨m0, m1', m2', m3, fm0, fm1, fm2, fm3⟩ := K7.node.cells
          have hfz := World.ownsRow.frozenAt ho
          have hlz := own_len ho
          have hyl := K6.o2.1
          have z0 : w7.cell? ⟨g, m2 * 4, none⟩ = some (.int .u8 0) := by rw [World.ownsRow.cellAt ho _ (by omega), List.getElem?_append_right (by omega), hyl, Nat.sub_self]; rfl
          have z1 : w7.cell? ⟨g, m2 * 4 + 1, none⟩ = some (.string ⟨#[]⟩) := by rw [World.ownsRow.cellAt ho _ (by omega), List.getElem?_append_right (by omega), hyl, Nat.add_sub_cancel_left]; rfl
          have z2 : w7.cell? ⟨g, m2 * 4 + 2, none⟩ = some (.slice none 0 0) := by rw [World.ownsRow.cellAt ho _ (by omega), List.getElem?_append_right (by omega), hyl, Nat.add_sub_cancel_left]; rfl
          have z3 : w7.cell? ⟨g, m2 * 4 + 3, none⟩ = some (.slice none 0 0) := by rw [World.ownsRow.cellAt ho _ (by omega), List.getElem?_append_right (by omega), hyl, Nat.add_sub_cancel_left]; rfl
          have hgB : B ≤ g := (ho.lt g rfl).1
          have hgn : g ≠ n := by have := K7.hn; omega
          simp only [List.getElem_toArray, List.getElem_cons_succ, List.getElem_cons_zero, Act.put, List.setIfInBounds_toArray, List.set_cons_succ, List.set_cons_zero]
          refine wpAny_take (i := 8) (v := ?_) rfl (by kernel_rfl) (by kernel_rfl) (by kernel_rfl) (fun _ _ _ h => h) (Or.inl ⟨by rfl, ?_⟩) ?_
          rotate_left
          · intro wx; go_simp; rw [if_pos (by omega)]; try with_reducible rfl
          rotate_left
          refine wpAny_take (i := 10) (v := ?_) rfl (by kernel_rfl) (by kernel_rfl) (by kernel_rfl) (fun _ _ _ h => h) (Or.inl ⟨by rfl, ?_⟩) ?_
          rotate_left
          · intro wx; go_simp; try with_reducible rfl
          rotate_left
          refine wpAny_take (i := 11) (v := ?_) rfl (by kernel_rfl) (by kernel_rfl) (by kernel_rfl) (fun _ _ _ h => h) (Or.inl ⟨by rfl, ?_⟩) ?_
          rotate_left
          · intro wx; go_simp; try with_reducible rfl
          rotate_left
          simp only [List.getElem_toArray, List.getElem_cons_succ, List.getElem_cons_zero, Act.put, List.setIfInBounds_toArray, List.set_cons_succ, List.set_cons_zero]
          refine wpAny_two (i := 9) (j := 12) rfl rfl (by kernel_rfl) (by kernel_rfl) (by kernel_rfl) ?_ ?_
          · go_wp2_with fail
            go_meet
            exact RC.fin1 K7 (by omega) (by omega) e3 C5 (by omega) H7.out hlo hL1 hL2 D5
          · go_wp2_with fail
            go_meet
            exact RC.fin2 K7 (by omega) (by omega) e3 C5 (by omega) H7.out hlo hL1 hL2 D5
        · refine wpOp_val (v := .agg #[.int .u8 k, .string t, .slice na nl nc, .slice ka kl kc]) (w' := (w5.alloc (.cells #[.int .u8 0, .string ⟨#[]⟩, .slice none 0 0, .slice none 0 0] 25))) rfl (by rfl) (by go_simp) ?_
          refine wpAny_all (rs := [3]) (by kernel_rfl) (by decide) ?_
          intro i hi
          simp only [List.mem_cons, List.not_mem_nil, or_false] at hi
          subst hi
          refine wpOp_val (v := .slice ao m2 cp) (w' := (w5.alloc (.cells #[.int .u8 0, .string ⟨#[]⟩, .slice none 0 0, .slice none 0 0] 25))) rfl (by rfl) (by go_simp) ?_
          refine wpAny_take (i := 5) (v := ?_) rfl (by kernel_rfl) (by kernel_rfl) (by kernel_rfl) (fun _ _ _ h => h) (Or.inl ⟨by rfl, ?_⟩) ?_
          rotate_left
          · intro wx; go_simp; try with_reducible rfl
          rotate_left
          refine wpAny_all (rs := [7]) (by kernel_rfl) (by decide) ?_
          intro i hi
          simp only [List.mem_cons, List.not_mem_nil, or_false] at hi
          subst hi
          refine wpOp_of (i := 7) rfl (by rfl) ?_
          refine wp_append_lies _ (.tmp 29) (.tmp 32) 23 rfl B 25 i0 _ 4 72 Tryz.underlying23 hi0 hz0 hz1 hz2 rfl (by decide) (.slice ao m2 cp) m2 ys rfl K6.o2 ⟨w5.heap.size, 0, none⟩ 1 1 [.int .u8 0, .string ⟨#[]⟩, .slice none 0 0, .slice none 0 0] rfl rfl HN (by simp [Value.oneCell']) (by decide) (by unfold maxLen; omega) (by omega) K6.hB _ rfl ?_
          intro g cp' w7 ho hg hat hlt7
          have H7 := Lib.hid (kid_grown hg hat)
          have K7 := K6.appK ho hg
          obtain ⟨m0, m1', m2', m3, fm0, fm1, fm2, fm3⟩ := K7.node.cells
          have hfz := World.ownsRow.frozenAt ho
          have hlz := own_len ho
          have hyl := K6.o2.1
          have z0 : w7.cell? ⟨g, m2 * 4, none⟩ = some (.int .u8 0) := by rw [World.ownsRow.cellAt ho _ (by omega), List.getElem?_append_right (by omega), hyl, Nat.sub_self]; rfl
          have z1 : w7.cell? ⟨g, m2 * 4 + 1, none⟩ = some (.string ⟨#[]⟩) := by rw [World.ownsRow.cellAt ho _ (by omega), List.getElem?_append_right (by omega), hyl, Nat.add_sub_cancel_left]; rfl
          have z2 : w7.cell? ⟨g, m2 * 4 + 2, none⟩ = some (.slice none 0 0) := by rw [World.ownsRow.cellAt ho _ (by omega), List.getElem?_append_right (by omega), hyl, Nat.add_sub_cancel_left]; rfl
          have z3 : w7.cell? ⟨g, m2 * 4 + 3, none⟩ = some (.slice none 0 0) := by rw [World.ownsRow.cellAt ho _ (by omega), List.getElem?_append_right (by omega), hyl, Nat.add_sub_cancel_left]; rfl
          have hgB : B ≤ g := (ho.lt g rfl).1
          have hgn : g ≠ n := by have := K7.hn; omega
          simp only [List.getElem_toArray, List.getElem_cons_succ, List.getElem_cons_zero, Act.put, List.setIfInBounds_toArray, List.set_cons_succ, List.set_cons_zero]
          refine wpAny_take (i := 8) (v := ?_) rfl (by kernel_rfl) (by kernel_rfl) (by kernel_rfl) (fun _ _ _ h => h) (Or.inl ⟨by rfl, ?_⟩) ?_
          rotate_left
          · intro wx; go_simp; rw [if_pos (by omega)]; try with_reducible rfl
          rotate_left
          refine wpAny_take (i := 10) (v := ?_) rfl (by kernel_rfl) (by kernel_rfl) (by kernel_rfl) (fun _ _ _ h => h) (Or.inl ⟨by rfl, ?_⟩) ?_
          rotate_left
          · intro wx; go_simp; try with_reducible rfl
          rotate_left
          refine wpAny_take (i := 11) (v := ?_) rfl (by kernel_rfl) (by kernel_rfl) (by kernel_rfl) (fun _ _ _ h => h) (Or.inl ⟨by rfl, ?_⟩) ?_
          rotate_left
          · intro wx; go_simp; try with_reducible rfl
          rotate_left
          simp only [List.getElem_toArray, List.getElem_cons_succ, List.getElem_cons_zero, Act.put, List.setIfInBounds_toArray, List.set_cons_succ, List.set_cons_zero]
          refine wpAny_two (i := 9) (j := 12) rfl rfl (by kernel_rfl) (by kernel_rfl) (by kernel_rfl) ?_ ?_
          · go_wp2_with fail
            go_meet
            exact RC.fin1 K7 (by omega) (by omega) e3 C5 (by omega) H7.out hlo hL1 hL2 D5
          · go_wp2_with fail
            go_meet
            exact RC.fin2 K7 (by omega) (by omega) e3 C5 (by omega) H7.out hlo hL1 hL2 D5
    case rest =>
      have h5 : RC Nq b n B (σ2.at_ + 1) s tw lo σ2 w0 k0 t0 ns (ks ++ [nd]) wc.heap.size wc := hcut
      clear hcut
      go_upto_if 41 with (first
        | (go_at_call 15; refine (space_ex b s tw lo σ2 _ h5.r hsm l2').mono ?_; rintro e w6 ⟨σ3, rfl, hR6, hM6, l3, l3', hsp3⟩; have h6 := h5.mv hR6 hM6 (Nat.le_refl _))
        | (go_at_call 29; refine (see_ex b s tw lo σ3 _ hR6 hsm l3').mono ?_; rintro e w7 ⟨X2, rfl, hR7, hM7, hX2, hb3⟩; have h7 := h6.mv hR7 hM7 (Nat.le_refl _)))
      cases hx2 : (X2 == 93)
      case true =>
        have hlt := hX2 (by have := of_decide_eq_true hx2; omega)
        have HA := Lib.hid (show RdN s tw lo .arr σ true { σ3 with at_ := σ3.at_ + 1 } from HL.out _ _ (by rw [← hsp3.out]; exact .arrE HV.out (by rw [hsp3.out, hb3.out]; simpa using hx2)))
        have HA2 := Lib.hid (show CnN s tw lo .arr σ { σ3 with at_ := σ3.at_ + 1 } [] (ks ++ [nd]) from HLC.out _ _ (by rw [← hsp3.out]; exact .arrE HCV.out (by rw [hsp3.out, hb3.out]; simpa using hx2)))
        obtain ⟨c0, c1, c2, c3, c4, c5, f1, f4, f5⟩ := hR7.cells
        have hl63 : (σ3.at_ : Int) < 9223372036854775807 := by omega
        go_wp2_with fail
        all_goals go_ret
        subst hns
        exact ⟨_, _, _, [], ks ++ [nd], _, rfl, h7.mv (hR7.setAt (σ3.at_ + 1)) ((Mv.refl _ _).setCell _ _) (Nat.le_refl _), by simp; omega, by simp; omega, HA.out, fun _ => HA2.out⟩
      have Hne := Lib.hid (show bAt s (St.sp s σ2).at_ ≠ 93 by rw [hsp3.out, hb3.out]; simpa using hx2)
      clear hX2 hx2 hb3 h5 h6 hR6 hM6 hM7
      go_upto_if 51 with (go_at_call 54; refine (need_ex b s tw lo σ3 _ _ _ hR7 hsm l3').mono ?_; rintro e w8 ⟨r8, σ4, rfl, hR8, hM8, l4, l4', l4'', hn4⟩; have h8 := h7.mv hR8 hM8 (Nat.le_refl _))
      cases r8
      case false =>
        go_wp2_with fail
        all_goals go_ret
        exact ⟨_, σ4, _, _, _, _, rfl, h8, by omega, l4', HL.out _ _ (.arrN HV.out Hne.out (by rw [hsp3.out]; exact hn4.out)), fun h => (by cases h)⟩
      have HLC2 := Lib.hid (show ∀ σ2 ks2, CnN s tw lo .arrL σ4 σ2 [] ks2 → CnN s tw lo .arr σ σ2 [] ((ks ++ [nd]) ++ ks2) from fun x ks2 h => by rw [List.append_assoc]; exact HLC.out _ _ (.arrC HCV.out Hne.out (by rw [hsp3.out]; exact hn4.out) h))
      have HL2 := Lib.hid (show ∀ r σ2, RdN s tw lo .arrL σ4 r σ2 → RdN s tw lo .arr σ r σ2 from fun r x h => HL.out _ _ (.arrC HV.out Hne.out (by rw [hsp3.out]; exact hn4.out) h))
      have l5 := l4'' rfl
      go_wp2_with fail
      go_roundg (gk - 1)
      case measure => omega
      case rel => exact ⟨σ4, ks ++ [nd], _, hns ▸ h8.mv hR8 (Mv.refl _ _) (by omega), by omega, by omega, l4', HL2, HLC2⟩
end
end Go.Proofs.YtjbffgjclnjkoaaGreatDoor
