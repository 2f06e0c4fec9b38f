/- The law of what is unquoted and quoted again: the walk. -/
import Derived.Test.YtokhmhbjbclcoaaDoorWm
import Derived.Test.YtokhmhbjbclcoaaDoorDe
import Derived.Test.YtokhmhbjbclcoaaDoorUd
import Derived.Test.YtokhmhbjbclcoaaDoorQt
import Derived.Test.YtokhmhbjbclcoaaDoorQs
import Derived.Test.YtokhmhbjbclcoaaDoorUi
import Derived.Test.YtokhmhbjbclcoaaDoorUj
import Derived.Test.YtokhmhbjbclcoaaDoorSt
import Derived.Test.YtokhmhbjbclcoaaDoorWt
namespace Go.Proofs.YtokhmhbjbclcoaaDoor
set_option linter.unusedVariables false
set_option linter.unusedSimpArgs false
open Go.RowKit

/-- A name's text, which Decode takes. -/
def NqD (x : Value) : Prop := ∃ t : ByteArray, x = .string t ∧ ∀ w : World, Calls Tryd.prog 18 #[.string t] w fun e w' => ∃ X c, e = .returned (.tuple #[.string X, .bool c]) ∧ Below w.heap.size w w'
theorem Mv.of_below2 {b : Nat} {w w' : World} (h : Below w.heap.size w w') : Mv b w w' := ⟨h.os, h.tape, h.output, h.size, fun i hi _ => h.block i hi⟩
theorem IsR.below2 {w w' : World} {b s tw lo σ} (h : IsR w b s tw lo σ) (hb : Below w.heap.size w w') : IsR w' b s tw lo σ := h.other (hb.block b h.lt)
set_option maxRecDepth 100000 in
set_option maxHeartbeats 4000000 in
theorem again_wk (b B : Nat) (s : ByteArray) (lo : Bool) : AgK NqD b B s lo := by
  intro hbB σ w nm m xs hR ho hm hq
  obtain ⟨g, cp, rfl⟩ := own_some ho (by omega)
  obtain ⟨hmc, hcm⟩ := own_len ho
  have hxl : xs.length = m := by have := ho.1; omega
  have hgb : g ≠ b := by have := (ho.lt g rfl).1; omega
  have hglt : g < w.heap.size := (ho.lt g rfl).2
  have cellsW : ∀ j, j < m → ∃ t : ByteArray, w.cell? ⟨g, j, none⟩ = some (.string t) ∧ ∀ w : World, Calls Tryd.prog 18 #[.string t] w fun e w' => ∃ X c, e = .returned (.tuple #[.string X, .bool c]) ∧ Below w.heap.size w w' := fun j hj => by
    obtain ⟨t, ht, hd⟩ := hq (xs[j]'(by omega)) (List.getElem_mem _)
    exact ⟨t, by rw [World.ownsRow.cellAt ho j (by omega), List.getElem?_eq_getElem (by omega), ht], hd⟩
  have cellsAt : ∀ (w' : World), Mv b w w' → ∀ j, j < m → ∃ t : ByteArray, w'.cell? ⟨g, j, none⟩ = some (.string t) ∧ ∀ w : World, Calls Tryd.prog 18 #[.string t] w fun e w' => ∃ X c, e = .returned (.tuple #[.string X, .bool c]) ∧ Below w.heap.size w w' := fun w' hM j hj => by
    obtain ⟨t, h1, h2⟩ := cellsW j hj
    exact ⟨t, (World.cell?_of_block (hM.block g hglt (by simpa using hgb))).trans h1, h2⟩
  obtain ⟨tl, hcl, hdl⟩ := cellsW (m - 1) (by omega)
  have hmI : (1 : Int) ≤ (m : Int) := by omega
  have hmcI : (m : Int) ≤ (cp : Int) := by omega
  have HC := Lib.hid cellsAt
  clear cellsW cellsAt ho hq hxl hmc
  go_enter Tryd.func85, Tryd.ntmps85
  go_wp2_with (go_at_call 18; refine (hdl _).mono ?_; rintro e w1 ⟨X1, C1, rfl, hb1⟩; have hM1 : Mv b w w1 := Mv.of_below2 hb1; have hR1 := hR.below2 hb1)
  clear hdl hcl
  go_loopg [27] m (fun g' i wx => ∃ (j : Nat) (o : Bool), i = .int .i64 j ∧ j ≤ m - 1 ∧ m - j ≤ g' ∧ IsR wx b s false lo { σ with opn := o } ∧ Mv b w wx)
  case atStart => exact ⟨0, σ.opn, rfl, by omega, by omega, hR1, hM1⟩
  case round =>
    clear hR1 hM1
    obtain ⟨j, o, rfl, hj, hjg, hRj, hMj⟩ := hrel
    by_cases hjm : j < m - 1
    · have hjI : (j : Int) < (m : Int) - 1 := by omega
      obtain ⟨t, hct, hdt⟩ := HC.out wr hMj j (by omega)
      obtain ⟨c0, c1, c2, c3, c4, c5, f1, f4, f5⟩ := hRj.cells
      go_upto_if 38 with (go_at_call 18; refine (hdt _).mono ?_; rintro e w2 ⟨X2, C2, rfl, hb2⟩)
      have hM2 : Mv b w w2 := hMj.trans (Mv.of_below2 hb2)
      have hR2 := hRj.below2 hb2
      clear c0 c1 c2 c3 c4 c5 f1 f4 f5 hct hdt
      obtain ⟨c0, c1, c2, c3, c4, c5, f1, f4, f5⟩ := hR2.cells
      cases hx : (X2.toList == X1.toList)
      case false =>
        go_wp2_with fail
        go_roundg (gk - 1)
        case measure => omega
        case rel => exact ⟨j + 1, o, by go_num, by omega, by omega, hR2, hM2⟩
      case true =>
        cases C1
        case true =>
          cases C2
          case true =>
            go_wp2_with fail
            all_goals go_ret
            first
              | exact ⟨_, o, rfl, hR2, hM2⟩
              | exact ⟨_, rfl, (by cases o; exact .inl hR2; exact .inr hR2), hM2⟩
              | exact ⟨.inr rfl, (by cases o; exact .inl hR2; exact .inr hR2), hM2⟩
          case false =>
            go_wp2_with fail
            go_roundg (gk - 1)
            case measure => omega
            case rel => exact ⟨j + 1, true, by go_num, by omega, by omega, hR2.setOpn true, hM2.setCell _ _⟩
        case false =>
          go_wp2_with fail
          go_roundg (gk - 1)
          case measure => omega
          case rel => exact ⟨j + 1, true, by go_num, by omega, by omega, hR2.setOpn true, hM2.setCell _ _⟩
    · have hjI : (m : Int) - 1 ≤ (j : Int) := by omega
      go_wp2_with fail
      all_goals go_ret
      first
        | exact ⟨_, o, rfl, hRj, hMj⟩
        | exact ⟨_, rfl, (by cases o; exact .inl hRj; exact .inr hRj), hMj⟩
        | exact ⟨.inl rfl, (by cases o; exact .inl hRj; exact .inr hRj), hMj⟩
theorem inner_of (s : ByteArray) (h2 : 2 ≤ s.size) : (s.extract 1 (s.size - 1)).size = s.size - 2 ∧ ∀ i, i < (s.extract 1 (s.size - 1)).size → bAt (s.extract 1 (s.size - 1)) i = bAt s (i + 1) := by
  have hz : (s.extract 1 (s.size - 1)).size = s.size - 2 := by rw [ByteArray.size_extract]; omega
  refine ⟨hz, fun i hi => ?_⟩
  rw [hz] at hi
  rw [bAt_lt (by rw [hz]; exact hi), bAt_lt (s := s) (i := i + 1) (by omega), ByteArray.getElem_extract]
  congr 2
  simp [Nat.add_comm]
theorem Run.lr {s : ByteArray} {n m : Nat} {X : List Int} (h : Run s n m X) : LR s n m X false := by
  induction h with
  | nil n => exact .nil n
  | step h34 hu hd hm r ih => exact .step h34 hu hd hm ih
/-- What a strict reader takes between quotation marks, Decode takes. -/
theorem nq_quoted (s : ByteArray) (hs : s.size ≤ 2500000000) : ∀ σ σ', St.quoted s false σ = (true, σ') → NqD (.string (s.extract σ.at_ (σ'.at_ + 1))) := by
  intro σ σ' h
  obtain ⟨τ, g1, g2⟩ := then_ok h
  obtain ⟨a1, a2, a3, rfl⟩ := need_ok g1
  obtain ⟨X, r1, r2, r3⟩ := loop_run _ _ _ (by dsimp only; omega) g2
  dsimp only at r1
  have hle := r1.le
  have hz : (s.extract σ.at_ (σ'.at_ + 1)).size = σ'.at_ + 1 - σ.at_ := by rw [ByteArray.size_extract]; omega
  have hS : ∀ i, i < (s.extract σ.at_ (σ'.at_ + 1)).size → bAt (s.extract σ.at_ (σ'.at_ + 1)) i = bAt s (σ.at_ + i) := fun i hi => by
    rw [bAt_lt hi, bAt_lt (s := s) (i := σ.at_ + i) (by omega), ByteArray.getElem_extract]
  have r4 := r1.same (t := s.extract σ.at_ (σ'.at_ + 1)) 1 (fun i hi => by rw [hS _ (by omega)]; congr 1; omega) (by omega)
  have h2 : 2 ≤ (s.extract σ.at_ (σ'.at_ + 1)).size := by omega
  obtain ⟨iz, iS⟩ := inner_of _ h2
  have hat := lr_at iS (by omega) r4.lr 0 rfl (by rw [iz]; omega)
  exact ⟨_, rfl, fun w => (specDecode_any _ _ w (by omega) h2 rfl hat).mono fun e w' h => ⟨_, _, h.1, h.2⟩⟩
open Go.RowKit

/-- The list stands in the text at a place. -/
def Has (T : ByteArray) (p : Nat) (l : List Int) : Prop := (∀ i, (h : i < l.length) → bAt T (p + i) = l[i]) ∧ p + l.length ≤ T.size
theorem Has.left {T : ByteArray} {p : Nat} {a b : List Int} (h : Has T p (a ++ b)) : Has T p a := by
  refine ⟨fun i hi => ?_, by have := h.2; simp at this; omega⟩
  rw [h.1 i (by simp; omega), List.getElem_append_left hi]
theorem Has.right {T : ByteArray} {p : Nat} {a b : List Int} (h : Has T p (a ++ b)) : Has T (p + a.length) b := by
  refine ⟨fun i hi => ?_, by have := h.2; simp at this; omega⟩
  have := h.1 (a.length + i) (by simp; omega)
  rw [Nat.add_assoc, this, List.getElem_append_right (by omega)]
  congr 1; omega
theorem has_sub (T : ByteArray) (p k : Nat) (hk : p ≤ k) (hT : k ≤ T.size) : Has T p (sub T p k) := by
  refine ⟨fun i hi => ?_, by rw [sub_len]; omega⟩
  simp [sub]
theorem Has.sub {T : ByteArray} {p : Nat} {l : List Int} (h : Has T p l) : YtokhmhbjbclcoaaDoor.sub T p (p + l.length) = l := by
  apply List.ext_getElem
  · rw [sub_len]; omega
  · intro i h1 h2
    rw [← h.1 i h2]
    simp [YtokhmhbjbclcoaaDoor.sub]
theorem has_txt {l : List Int} (h : By8 l) : Has (txt l) 0 l := by
  refine ⟨fun i hi => ?_, by rw [txt_size]; omega⟩
  rw [Nat.zero_add, bAt_bl (bl_txt h) i hi]

/-- What is written for one plain character. -/
def qA (c : Int) : List Int := if c < 32 ∨ c = 34 ∨ c = 92 then escA c else [c]
theorem escA_len (c : Int) : (escA c).length ≤ 6 := by
  unfold escA unitT
  repeat' split
  all_goals simp
theorem qA_len (c : Int) : (qA c).length ≤ 6 := by
  unfold qA
  split
  · exact escA_len c
  · simp
theorem hexV_hxD {n : Int} (h0 : 0 ≤ n) (h1 : n < 16) : hexV (hxD n) = n := by
  unfold hxD hexV
  repeat' split
  all_goals omega
theorem hx4 {A : ByteArray} {i : Nat} {a b c d : Int} (h0 : bAt A i = hxD a) (h1 : bAt A (i + 1) = hxD b) (h2 : bAt A (i + 2) = hxD c) (h3 : bAt A (i + 3) = hxD d)
    (ha : 0 ≤ a ∧ a < 16) (hb : 0 ≤ b ∧ b < 16) (hc : 0 ≤ c ∧ c < 16) (hd : 0 ≤ d ∧ d < 16) : hexAll A i 4 = true ∧ hexPre A i 4 = ((16 * a + b) * 16 + c) * 16 + d := by
  have e0 := hexV_hxD ha.1 ha.2
  have e1 := hexV_hxD hb.1 hb.2
  have e2 := hexV_hxD hc.1 hc.2
  have e3 := hexV_hxD hd.1 hd.2
  refine ⟨?_, ?_⟩
  · simp [hexAll, h0, h1, h2, h3, e0, e1, e2, e3]; omega
  · simp [hexPre, h0, h1, h2, h3, e0, e1, e2, e3]; omega
/-- A plain character as it is written is read as that character. -/
theorem qA_read {A : ByteArray} {a : Nat} {c : Int} (h0 : 0 ≤ c) (h1 : c < 128) (h : Has A a (qA c)) : uS A a = ([c], (qA c).length, false) ∧ bAt A a ≠ 34 ∧ (qA c).length ≠ 0 := by
  obtain ⟨hq, hf⟩ := h
  unfold qA at *
  by_cases hc : c < 32 ∨ c = 34 ∨ c = 92
  · simp only [if_pos hc] at hq hf ⊢
    have two : ∀ e : Int, escA c = [92, e] → escC e = c → uS A a = ([c], (escA c).length, false) ∧ bAt A a ≠ 34 ∧ (escA c).length ≠ 0 := fun e he hx => by
      simp only [he] at hq hf ⊢
      have q0 := hq 0 (by simp)
      have q1 := hq 1 (by simp)
      simp at q0 q1 hf
      refine ⟨?_, by omega, by simp⟩
      unfold uS
      rw [if_pos q0, if_neg (by omega), q1, if_pos (by omega), hx]
      rfl
    by_cases c1 : c = 34 ∨ c = 92
    · refine two c (by unfold escA; rw [if_pos c1]) ?_
      rcases c1 with rfl | rfl <;> rfl
    by_cases c2 : c = 8
    · subst c2; exact two 98 rfl rfl
    by_cases c3 : c = 12
    · subst c3; exact two 102 rfl rfl
    by_cases c4 : c = 10
    · subst c4; exact two 110 rfl rfl
    by_cases c5 : c = 13
    · subst c5; exact two 114 rfl rfl
    by_cases c6 : c = 9
    · subst c6; exact two 116 rfl rfl
    have he : escA c = unitT c := by unfold escA; rw [if_neg c1, if_neg c2, if_neg c3, if_neg c4, if_neg c5, if_neg c6]
    simp only [he] at hq hf ⊢
    unfold unitT at hq hf ⊢
    have q0 := hq 0 (by simp)
    have q1 := hq 1 (by simp)
    have q2 := hq 2 (by simp)
    have q3 := hq 3 (by simp)
    have q4 := hq 4 (by simp)
    have q5 := hq 5 (by simp)
    simp at q0 q1 q2 q3 q4 q5 hf
    obtain ⟨x1, x2⟩ := hx4 (A := A) (i := a + 2) q2 q3 q4 q5 (by omega) (by omega) (by omega) (by omega)
    have x3 : ((16 * (c / 4096 % 16) + c / 256 % 16) * 16 + c / 16 % 16) * 16 + c % 16 = c := by omega
    rw [x3] at x2
    refine ⟨?_, by omega, by simp⟩
    have x4 : surB c = false := by unfold surB; simp; omega
    have x5 : encU c = [c] := by unfold encU; rw [if_pos h1]
    unfold uS
    rw [if_pos q0, if_neg (by omega), q1, if_neg (by decide), if_pos rfl]
    unfold uU
    rw [if_neg (by omega), x1, if_neg (by simp), x2, if_pos x4, x5]
    rfl
  · simp only [if_neg hc] at hq hf ⊢
    have q0 := hq 0 (by simp)
    simp at q0 hf
    refine ⟨?_, by omega, by simp⟩
    unfold uS
    rw [q0, if_neg (by omega), if_neg (by omega), if_pos h1]
    rfl
theorem uw_of2' {s : ByteArray} {k : Nat} (hf : k + 2 ≤ s.size) (h0 : 194 ≤ bAt s k) (h1 : bAt s k ≤ 223) (h2 : 128 ≤ bAt s (k + 1)) (h3 : bAt s (k + 1) ≤ 191) : uw s k = 2 := by
  have hl : uLen (bAt s k) = 2 := by unfold uLen; rw [if_pos ⟨h0, h1⟩]
  have hlo : uLo (bAt s k) = 128 := by unfold uLo; rw [if_neg (by omega), if_neg (by omega)]
  have hhi : uHi (bAt s k) = 191 := by unfold uHi; rw [if_neg (by omega), if_neg (by omega)]
  have hok : uwOk s k 2 128 191 = true := by unfold uwOk; simp [contN]; omega
  unfold uw; rw [if_pos (by omega), if_neg (by omega), hl, hlo, hhi, if_neg (by omega), if_pos hok]
theorem uw_of3' {s : ByteArray} {k : Nat} (hf : k + 3 ≤ s.size) (h0 : 224 ≤ bAt s k) (h1 : bAt s k ≤ 239) (h2 : 128 ≤ bAt s (k + 1)) (h3 : bAt s (k + 1) ≤ 191) (h4 : bAt s k = 224 → 160 ≤ bAt s (k + 1)) (h5 : bAt s k = 237 → bAt s (k + 1) ≤ 159)
    (h6 : 128 ≤ bAt s (k + 2)) (h7 : bAt s (k + 2) ≤ 191) : uw s k = 3 := by
  have hl : uLen (bAt s k) = 3 := by unfold uLen; rw [if_neg (by omega), if_pos ⟨h0, h1⟩]
  have hlo : uLo (bAt s k) ≤ bAt s (k + 1) := by unfold uLo; split; omega; split <;> omega
  have hhi : bAt s (k + 1) ≤ uHi (bAt s k) := by unfold uHi; split; omega; split <;> omega
  have hok : uwOk s k 3 (uLo (bAt s k)) (uHi (bAt s k)) = true := by unfold uwOk; simp [contN, cont]; omega
  unfold uw; rw [if_pos (by omega), if_neg (by omega), hl, if_neg (by omega), if_pos hok]
theorem uw_of4' {s : ByteArray} {k : Nat} (hf : k + 4 ≤ s.size) (h0 : 240 ≤ bAt s k) (h1 : bAt s k ≤ 244) (h2 : 128 ≤ bAt s (k + 1)) (h3 : bAt s (k + 1) ≤ 191) (h4 : bAt s k = 240 → 144 ≤ bAt s (k + 1)) (h5 : bAt s k = 244 → bAt s (k + 1) ≤ 143)
    (h6 : 128 ≤ bAt s (k + 2)) (h7 : bAt s (k + 2) ≤ 191) (h8 : 128 ≤ bAt s (k + 3)) (h9 : bAt s (k + 3) ≤ 191) : uw s k = 4 := by
  have hl : uLen (bAt s k) = 4 := by unfold uLen; rw [if_neg (by omega), if_neg (by omega), if_pos ⟨h0, h1⟩]
  have hlo : uLo (bAt s k) ≤ bAt s (k + 1) := by unfold uLo; split; omega; split <;> omega
  have hhi : bAt s (k + 1) ≤ uHi (bAt s k) := by unfold uHi; split; omega; split <;> omega
  have hok : uwOk s k 4 (uLo (bAt s k)) (uHi (bAt s k)) = true := by
    unfold uwOk; simp [contN, cont, show k + 2 + 1 = k + 3 from rfl]; omega
  unfold uw; rw [if_pos (by omega), if_neg (by omega), hl, if_neg (by omega), if_pos hok]
/-- A character of more than one byte: it stands as it stands wherever its bytes stand. -/
def Wide8 (o : List Int) : Prop := 2 ≤ o.length ∧ ∀ T p, Has T p o → uw T p = o.length ∧ 128 ≤ bAt T p
theorem encU_wide {V : Int} (h0 : 128 ≤ V) (h1 : V ≤ 1114111) (h2 : V < 55296 ∨ 57343 < V) : Wide8 (encU V) := by
  unfold encU
  rw [if_neg (by omega)]
  by_cases a : V < 2048
  · rw [if_pos a]
    refine ⟨by simp, fun T p h => ?_⟩
    obtain ⟨hq, hf⟩ := h
    have q0 := hq 0 (by simp)
    have q1 := hq 1 (by simp)
    simp at q0 q1 hf
    exact ⟨uw_of2' hf (by omega) (by omega) (by omega) (by omega), by omega⟩
  · rw [if_neg a, if_neg (by omega)]
    by_cases b : V < 65536
    · rw [if_pos b]
      refine ⟨by simp, fun T p h => ?_⟩
      obtain ⟨hq, hf⟩ := h
      have q0 := hq 0 (by simp)
      have q1 := hq 1 (by simp)
      have q2 := hq 2 (by simp)
      simp at q0 q1 q2 hf
      exact ⟨uw_of3' hf (by omega) (by omega) (by omega) (by omega) (by omega) (by omega) (by omega) (by omega), by omega⟩
    · rw [if_neg b]
      refine ⟨by simp, fun T p h => ?_⟩
      obtain ⟨hq, hf⟩ := h
      have q0 := hq 0 (by simp)
      have q1 := hq 1 (by simp)
      have q2 := hq 2 (by simp)
      have q3 := hq 3 (by simp)
      simp at q0 q1 q2 q3 hf
      exact ⟨uw_of4' hf (by omega) (by omega) (by omega) (by omega) (by omega) (by omega) (by omega) (by omega) (by omega) (by omega), by omega⟩
theorem encU_lens (V : Int) : 65536 ≤ V ∨ (encU V).length ≤ 3 := by
  unfold encU
  repeat' split
  all_goals first | (right; simp; done) | (left; omega)
/-- A step of a strict reader: a plain character, or one of more than one byte; what will be written for it is not longer. -/
theorem uS_kinds {s : ByteArray} {n d : Nat} {o : List Int} (hu : uS s n = (o, d, false)) (hd : d ≠ 0) (h34 : bAt s n ≠ 34) :
    (∃ c, o = [c] ∧ 0 ≤ c ∧ c < 128 ∧ (qA c).length ≤ d) ∨ (Wide8 o ∧ o.length ≤ d) := by
  have b0 := bAt_nonneg s n
  unfold uS at hu
  split at hu
  · split at hu
    · cases hu
    · split at hu
      · rename_i he
        injection hu with h1 h2
        injection h2 with h2 h3
        subst h1; subst h2
        refine .inl ⟨_, rfl, he, ?_, ?_⟩
        · unfold escC at he ⊢
          repeat' split
          all_goals omega
        · generalize bAt s (n + 1) = e at *
          unfold escC
          repeat' split
          all_goals first
            | (rename_i h; rcases h with rfl | rfl | rfl <;> decide)
            | decide
            | (unfold escC at he; repeat' split at he
               all_goals omega)
      · split at hu
        · unfold uU at hu
          split at hu
          · cases hu
          · split at hu
            · cases hu
            · rename_i h6 ha
              have hb := hexPre_bd s (n + 2) 4 (by simpa using ha)
              have hb2 : hexPre s (n + 2) 4 < 65536 := by have := hb.2; simp at this; exact this
              generalize hexPre s (n + 2) 4 = V at *
              split at hu
              · rename_i hs
                injection hu with h1 h2
                injection h2 with h2 h3
                subst h1; subst h2
                unfold surB at hs
                simp at hs
                by_cases h128 : V < 128
                · refine .inl ⟨V, by unfold encU; rw [if_pos h128], hb.1, h128, qA_len V⟩
                · refine .inr ⟨encU_wide (by omega) (by omega) (by omega), ?_⟩
                  have := encU_len V
                  omega
              · split at hu
                · split at hu <;> cases hu
                · split at hu
                  · rename_i hp
                    injection hu with h1 h2
                    injection h2 with h2 h3
                    subst h1; subst h2
                    have hpr := hp.2.2.2
                    unfold pairR at hpr ⊢
                    split at hpr
                    · rename_i hh
                      rw [if_pos hh]
                      refine .inr ⟨encU_wide (by omega) (by omega) (by omega), ?_⟩
                      have := encU_len ((V - 55296) * 1024 + (hexPre s (n + 8) 4 - 56320) + 65536)
                      omega
                    · exact absurd rfl hpr
                  · cases hu
        · cases hu
  · split at hu
    · cases hu
    · split at hu
      · rename_i h92 h32 h128
        injection hu with h1 h2
        injection h2 with h2 h3
        subst h1; subst h2
        refine .inl ⟨_, rfl, b0, h128, ?_⟩
        unfold qA
        rw [if_neg (by omega)]
        simp
      · rename_i h128
        split at hu
        · split at hu <;> cases hu
        · rename_i hne
          injection hu with h1 h2
          injection h2 with h2 h3
          subst h1; subst h2
          have hfit := uw_fit s n hne
          have hl : (sub s n (n + uw s n)).length = uw s n := by rw [sub_len]; omega
          have h2 : 2 ≤ uw s n := by
            have h1 := uw_one s n (by omega)
            omega
          refine .inr ⟨⟨by omega, fun T p h => ?_⟩, by omega⟩
          have hsame : Same s T n p (uw s n) := fun i hi => by
            rw [h.1 i (by omega)]
            simp [sub]
          have := h.2
          refine ⟨by rw [hl]; exact uw_same_at hne hsame (by omega), ?_⟩
          have := hsame 0 (by omega)
          rw [Nat.add_zero, Nat.add_zero] at this
          omega
/-- What is put by steps of a strict reader is text; it is quoted without a fault, in no more bytes; and what is quoted is read again as the same. -/
theorem run_back {s : ByteArray} {n m : Nat} {X : List Int} (h : Run s n m X) (T : ByteArray) : ∀ (p : Nat), Has T p X → p + X.length = T.size → ∀ g, T.size - p ≤ g →
    qI T g p = false ∧ (qO T g p).length ≤ m - n ∧ ∀ A a, Has A a (qO T g p) → Run A a (a + (qO T g p).length) X := by
  induction h with
  | nil n =>
    intro p hp hl g hg
    have hp2 : ¬ p < T.size := by simp at hl; omega
    have e1 : qO T g p = [] := by cases g; rfl; rw [qO, if_neg hp2]
    have e2 : qI T g p = false := by cases g; rfl; rw [qI, if_neg hp2]
    rw [e1, e2]
    exact ⟨rfl, by simp, fun A a _ => .nil _⟩
  | @step n m d o X h34 hu hd hm r ih =>
    intro p hp hl g hg
    have hle := r.le
    have ho := hp.left
    have hX := hp.right
    have hstep : ∃ q, qC T p = q ∧ stepN T p = o.length ∧ uw T p ≠ 0 ∧ o.length ≠ 0 ∧ q.length ≤ d ∧ ∀ A a, Has A a q → uS A a = (o, q.length, false) ∧ bAt A a ≠ 34 ∧ q.length ≠ 0 := by
      rcases uS_kinds hu hd h34 with ⟨c, rfl, c0, c1, c2⟩ | ⟨⟨w1, w2⟩, w3⟩
      · have hb : bAt T p = c := by have := ho.1 0 (by simp); simpa using this
        have hps : p < T.size := by have := ho.2; simp at this; omega
        have hu1 : uw T p = 1 := (uw_one T p hps).1 (by omega)
        refine ⟨qA c, ?_, ?_, by omega, by simp, c2, fun A a hA => qA_read c0 c1 hA⟩
        · unfold qC qA
          rw [hb, if_pos c1]
        · unfold YtokhmhbjbclcoaaDoor.stepN
          rw [hu1]; rfl
      · obtain ⟨e1, e2⟩ := w2 T p ho
        have hne : uw T p ≠ 0 := by omega
        have hst : stepN T p = o.length := by unfold YtokhmhbjbclcoaaDoor.stepN; rw [if_neg hne, e1]
        refine ⟨o, ?_, hst, hne, by omega, w3, fun A a hA => ?_⟩
        · rw [qC_char e2 hne, hst]
          exact ho.sub
        · obtain ⟨f1, f2⟩ := w2 A a hA
          refine ⟨?_, by omega, by omega⟩
          unfold uS
          rw [if_neg (by omega), if_neg (by omega), if_neg (by omega), f1, if_neg (by omega), hA.sub]
    obtain ⟨q, q1, q2, q3, q4, q5, q6⟩ := hstep
    have hlen : (o ++ X).length = o.length + X.length := List.length_append
    obtain ⟨g', rfl⟩ : ∃ g', g = g' + 1 := ⟨g - 1, by omega⟩
    obtain ⟨i1, i2, i3⟩ := ih (p + o.length) hX (by omega) g' (by omega)
    have hps : p < T.size := by omega
    have e1 : qO T (g' + 1) p = q ++ qO T g' (p + o.length) := by rw [qO, if_pos hps, q1, q2]
    have e2 : qI T (g' + 1) p = false := by rw [qI, if_pos hps, q2, i1, decide_eq_false q3]; rfl
    rw [e1, e2]
    refine ⟨rfl, by rw [List.length_append]; omega, fun A a hA => ?_⟩
    obtain ⟨s1, s2, s3⟩ := q6 A a hA.left
    have hr := i3 A (a + q.length) hA.right
    rw [List.length_append, ← Nat.add_assoc]
    exact .step s2 s1 s3 hr.le hr
open Go.RowKit

/-- What the library's unquoting and quoting make of a text that a strict reader takes. -/
theorem back_law {s : ByteArray} (h0 : bAt s 0 = 34) (hl : bAt s (s.size - 1) = 34) (hf : (psQ s false).fault = 0) :
    ∃ X, uq s = (X, false) ∧ qI (txt X) (txt X).size 0 = false ∧ uq (quoted ⟨#[]⟩ (txt X)) = (X, false) ∧ (quoted ⟨#[]⟩ (txt X)).size ≤ s.size := by
  obtain ⟨X, h2, r⟩ := taken_run h0 hl hf
  have hu : uq s = (X, false) := by
    unfold uq
    rw [if_neg (by omega), if_pos h0, r.uO (by omega) hl s.size (by omega)]
    first | (simp; done) | (simp; omega)
  have h8 : By8 X := by have := uq_by s; rw [hu] at this; exact this
  have hT := has_txt h8
  obtain ⟨q1, q2, q3⟩ := run_back r (txt X) 0 hT (by rw [Nat.zero_add, txt_size]) (txt X).size (by omega)
  refine ⟨X, hu, q1, ?_, ?_⟩
  · have hb : By8 ([34] ++ qO (txt X) (txt X).size 0 ++ [34]) := by
      refine By8.app (By8.app ?_ (qO_by _ _ _)) ?_
      all_goals (intro x hx; simp at hx; omega)
    have hA : Has (quoted ⟨#[]⟩ (txt X)) 0 ([34] ++ qO (txt X) (txt X).size 0 ++ [34]) := by
      unfold quoted
      rw [show bl (⟨#[]⟩ : ByteArray) = [] from rfl, List.nil_append]
      exact has_txt hb
    have hz : (quoted ⟨#[]⟩ (txt X)).size = (qO (txt X) (txt X).size 0).length + 2 := by
      unfold quoted
      rw [show bl (⟨#[]⟩ : ByteArray) = [] from rfl, List.nil_append, txt_size]
      first | (simp; done) | (simp; omega)
    have hr := q3 _ _ hA.left.right
    have a0 := hA.1 0 (by simp)
    have a1 := hA.right.1 0 (by simp)
    simp at a0 a1
    generalize quoted ⟨#[]⟩ (txt X) = A at *
    generalize qO (txt X) (txt X).size 0 = Q at *
    simp at hr
    have e1 : bAt A (1 + Q.length) = 34 := by
      have : ∀ i, i = Q.length + 1 → bAt A i = 34 := fun i hi => by subst hi; simpa [Nat.add_comm] using a1
      exact this _ (by omega)
    unfold uq
    rw [if_neg (by omega), if_pos a0, hr.uO (by omega) e1 A.size (by omega)]
    first | (simp; done) | (simp; omega)
  · unfold quoted
    rw [show bl (⟨#[]⟩ : ByteArray) = [] from rfl, List.nil_append, txt_size]
    simp
    omega

/-- Is a text taken strictly, from quotation mark to quotation mark? -/
def Gs (s : ByteArray) : Prop := bAt s 0 = 34 ∧ bAt s (s.size - 1) = 34 ∧ (psQ s false).fault = 0
theorem unq_empty' (s : ByteArray) : unquoted ⟨#[]⟩ s = txt (uq s).1 := by
  unfold unquoted
  rw [show bl (⟨#[]⟩ : ByteArray) = [] from rfl, List.nil_append]
set_option maxRecDepth 100000 in
set_option maxHeartbeats 4000000 in
theorem walk_FnBackAndThere (a0 : ByteArray) (w0 : a0.size ≤ maxLen) (w : World) (hT : TabsB w.heap.size w) (hU : EofB w.heap.size w) (hE : EscB w.heap.size w) (hI : InvB w.heap.size w) :
    Calls Tryd.prog 8 #[.string a0] w fun e w' => e = .returned (.bool true) ∧ Below w.heap.size w w' := by
  have hs0 := w0
  unfold maxLen at hs0
  by_cases hz : 2147483647 < (a0.size : Int)
  · go_enter Tryd.func8, Tryd.ntmps8
    go_wp2_with fail
    all_goals go_ret
    exact ⟨rfl, Below.refl _ _⟩
  have z0 : (a0.size : Int) ≤ 2147483647 := by omega
  clear hz
  have bw : ∀ {u v : World}, Below w.heap.size w u → Below u.heap.size u v → Below w.heap.size w v := fun h k => h.trans (k.mono h.size)
  have tk : ∀ w' : World, Calls Tryd.prog 13 #[.string a0, .agg #[.bool false, .bool false]] w' fun e w'' => (∃ t o, e = .returned (.tuple #[.bool t, .bool o]) ∧ (t = true → bAt a0 0 = 34 → (psQ a0 false).fault = 0) ∧ (t = true → a0.size ≠ 0)) ∧ Below w'.heap.size w' w'' := fun w' => by
    by_cases h34 : bAt a0 0 = 34
    · have hne : a0.size ≠ 0 := fun h => by rw [bAt_ge (by omega)] at h34; cases h34
      exact (taken_q a0 false false w' w0 h34).mono fun e w'' h => ⟨⟨_, _, h.1, fun h2 _ => by simpa using h2, fun _ => hne⟩, h.2⟩
    · exact (taken_wk NqD a0 false false w' (by omega) (nq_quoted a0 (by omega)) (fun _ b B => again_wk b B a0 false)).mono fun e w'' ⟨⟨t, o, h1, h2⟩, h3⟩ => ⟨⟨t, o, h1, fun _ h => absurd h h34, fun ht h => by rw [h2 h] at ht; cases ht⟩, h3⟩
  obtain ⟨r, hr⟩ : ∃ r, Hid (decide (a0.size ≤ 1000) = r) := ⟨_, Lib.hid rfl⟩
  have fit : ∀ w' : World, Calls Tryd.prog 15 #[.slice (some ⟨w'.heap.size, 0, none⟩) 1 1] (w'.alloc (.cells #[.string a0] 9)) fun e w'' => e = .returned (.bool r) ∧ w'' = w'.alloc (.cells #[.string a0] 9) := fun w' => f8one a0 _ _ r hr (strs1 _ _ _) w0
  go_enter Tryd.func8, Tryd.ntmps8
  go_upto_region 4 with (go_at_call 13; refine (tk _).mono ?_; rintro e w4 ⟨⟨t, o, rfl, ht1, ht2⟩, hb5⟩)
  have hb6 : Below w.heap.size w (w4.alloc (.cells #[.string a0] 9)) := hb5.alloc hb5.size _
  have HT1 := Lib.hid ht1
  have HT2 := Lib.hid ht2
  clear ht1 ht2 tk
  go_cut [40] from 14 to 39 (fun v wx => ∃ d : Bool, v = .bool d ∧ (d = false → r = true ∧ Gs a0) ∧ Below w.heap.size w wx)
  case first =>
    cases r
    case false =>
      go_wp2_with (go_at_call 15; refine (fit _).mono ?_; rintro e wc ⟨rfl, rfl⟩)
      go_meet
      exact ⟨true, rfl, fun h => (by cases h), hb6⟩
    case true =>
      cases t
      case false =>
        go_wp2_with (go_at_call 15; refine (fit _).mono ?_; rintro e wc ⟨rfl, rfl⟩)
        go_meet
        exact ⟨true, rfl, fun h => (by cases h), hb6⟩
      case true =>
        have hne := HT2.out rfl
        have hpos : 0 < a0.size := by omega
        have hposI : (0 : Int) < (a0.size : Int) := by omega
        have b0 := Lib.hid (bAt_lt hpos)
        have b1 := Lib.hid (bAt_lt (s := a0) (i := a0.size - 1) (by omega))
        clear hne
        by_cases e0 : ((a0[0].toNat : Nat) : Int) = 34
        · by_cases e1 : ((a0[a0.size - 1].toNat : Nat) : Int) = 34
          · have hg := Lib.hid (show Gs a0 from ⟨b0.out.trans e0, b1.out.trans e1, HT1.out rfl (b0.out.trans e0)⟩)
            go_wp2_with (go_at_call 15; refine (fit _).mono ?_; rintro e wc ⟨rfl, rfl⟩)
            go_meet
            exact ⟨false, rfl, fun _ => ⟨by trivial, hg.out⟩, hb6⟩
          · have e1' : (((a0[a0.size - 1].toNat : Nat) : Int) != 34) = true := by simpa using e1
            clear e1
            go_wp2_with (go_at_call 15; refine (fit _).mono ?_; rintro e wc ⟨rfl, rfl⟩)
            go_meet
            exact ⟨true, rfl, fun h => (by cases h), hb6⟩
        · have e0' : (((a0[0].toNat : Nat) : Int) != 34) = true := by simpa using e0
          clear e0
          go_wp2_with (go_at_call 15; refine (fit _).mono ?_; rintro e wc ⟨rfl, rfl⟩)
          go_meet
          exact ⟨true, rfl, fun h => (by cases h), hb6⟩
  case rest =>
  obtain ⟨d, rfl, hd, hbw⟩ := hcut
  cases d
  case true =>
    go_wp2_with fail
    all_goals go_ret
    exact ⟨rfl, hbw⟩
  obtain ⟨hr1, hG⟩ := hd rfl
  have hsz : a0.size ≤ 1000 := by have := hr.out; rw [hr1] at this; simpa using this
  obtain ⟨X, x1, x2, x3, x4⟩ := back_law hG.1 hG.2.1 hG.2.2
  have hXl : (txt X).size ≤ 4000 := by have := uq_len a0; rw [x1] at this; rw [txt_size]; dsimp only at this; omega
  have up : ∀ {x : World}, Below w.heap.size w x → TabsB x.heap.size x ∧ EofB x.heap.size x ∧ EscB x.heap.size x ∧ InvB x.heap.size x := fun h => by
    have h1 := hT.below h; have h2 := hU.below h; have h3 := hE.below h; have h4 := hI.below h; have h5 := h.size
    exact ⟨⟨h1.1, by have := h1.2; omega⟩, ⟨by have := h2.1; omega, h2.2⟩, ⟨by have := h3.1; omega, h3.2⟩, ⟨by have := h4.1; omega, h4.2⟩⟩
  have u0 : ∀ w' : World, Below w.heap.size w w' → Calls Tryd.prog 17 #[.string ⟨#[]⟩, .string a0] w' fun e w'' => e = .returned (.tuple #[.string (txt X), .bool true]) ∧ Below w'.heap.size w' w'' := fun w' h => by
    have := implUnquote ⟨#[]⟩ a0 w' w.heap.size h.size (by simp [ByteArray.size]) (by omega) (hT.below h) (hU.below h) (hI.below h)
    rw [unq_empty', x1] at this
    exact this
  have q0 : ∀ w' : World, Below w.heap.size w w' → Calls Tryd.prog 21 #[.string ⟨#[]⟩, .string (txt X)] w' fun e w'' => e = .returned (.tuple #[.string (quoted ⟨#[]⟩ (txt X)), .bool true]) ∧ Below w'.heap.size w' w'' := fun w' h => by
    have := implQuote ⟨#[]⟩ (txt X) w' (by simp [ByteArray.size]) (by omega) (up h).1 (up h).2.2.1 (up h).2.2.2
    rw [x2] at this
    exact this
  have u1 : ∀ w' : World, Below w.heap.size w w' → Calls Tryd.prog 17 #[.string ⟨#[]⟩, .string (quoted ⟨#[]⟩ (txt X))] w' fun e w'' => e = .returned (.tuple #[.string (txt X), .bool true]) ∧ Below w'.heap.size w' w'' := fun w' h => by
    have := implUnquote ⟨#[]⟩ (quoted ⟨#[]⟩ (txt X)) w' w.heap.size h.size (by simp [ByteArray.size]) (by omega) (hT.below h) (hU.below h) (hI.below h)
    rw [unq_empty', x3] at this
    exact this
  clear hG hd hr1 hr fit HT1 HT2 up x1 x2 x3 hT hU hE hI
  generalize quoted ⟨#[]⟩ (txt X) = A at *
  generalize txt X = S at *
  have x5 : (A.size : Int) ≤ (a0.size : Int) := by omega
  clear x4
  have hSS : (S.toList == S.toList) = true := beq_self_eq_true _
  go_wp2_with (first
    | (go_at_call 17; refine (u0 _ hbw).mono ?_; clear u0; rintro e wd ⟨rfl, hbd⟩; have hb1 := bw hbw hbd)
    | (go_at_call 21; refine (q0 _ hb1).mono ?_; clear q0; rintro e we ⟨rfl, hbe⟩; have hb2 := bw hb1 hbe)
    | (go_at_call 17; refine (u1 _ hb2).mono ?_; clear u1; rintro e wf ⟨rfl, hbf⟩; have hb3 := bw hb2 hbf))
  all_goals go_ret
  exact ⟨rfl, hb3⟩
end Go.Proofs.YtokhmhbjbclcoaaDoor
