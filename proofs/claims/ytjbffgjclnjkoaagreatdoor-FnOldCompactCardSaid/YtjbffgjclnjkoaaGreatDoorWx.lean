/- Joined texts: Wi, We, Wf. -/
import Derived.Test.YtjbffgjclnjkoaaGreatDoorDw
import Derived.Test.YtjbffgjclnjkoaaGreatDoorWo
import Derived.Test.YtjbffgjclnjkoaaGreatDoorWm
import Derived.OrdersHeld
import Derived.Deep.RegionHeld
namespace Go.Proofs.YtjbffgjclnjkoaaGreatDoor
set_option linter.unusedVariables false
set_option linter.unusedSimpArgs false
section
/- (Wi) A list of parts between two brackets. -/
open Go.RowKit

/-- Parts with commas between them. -/
def jnL : Bool → List (List Int) → List Int
  | _, [] => []
  | b, p :: r => (if b then [44] else []) ++ (p ++ jnL true r)
theorem drop_cons' {α : Type} (l : List α) (j : Nat) (h : j < l.length) : l.drop j = l[j] :: l.drop (j + 1) := List.drop_eq_getElem_cons h
set_option maxRecDepth 100000 in
set_option maxHeartbeats 4000000 in
theorem within_any (ps : List ByteArray) (op sh : ByteArray) (pa : Option Addr) (n pc C : Nat) (d : Int) (w : World) (hp : w.ownsRow C 9 1 (.slice pa n pc) n (nmv ps)) (hl : (bl op ++ jnL false (ps.map bl) ++ bl sh).length ≤ 10000000000) (hn : n ≤ 10000000000) (hd0 : 0 ≤ d) (hd1 : d ≤ 10000000000) :
    Calls Tryz.prog 49 #[tightV, .slice pa n pc, .string op, .string sh, .int .i64 d] w fun e w' => ∃ R, e = .returned (.string R) ∧ bl R = bl op ++ jnL false (ps.map bl) ++ bl sh ∧ Below w.heap.size w w' := by
  have hnl : ps.length = n := by have := hp.1; simp [nmv] at this; exact this
  have hcell : ∀ wr : World, Below w.heap.size w wr → ∀ j (hj : j < n), ∃ g c, pa = some ⟨g, 0, none⟩ ∧ pc = c ∧ (n : Int) ≤ (c : Int) ∧ wr.cell? ⟨g, j, none⟩ = some (.string (ps[j]'(by omega))) := fun wr hb j hj => by
    obtain ⟨g, cp, e⟩ := own_some hp (by omega)
    injection e with e1 e2 e3
    subst e1 e3
    have hn2 := own_bel hp (Nat.le_refl _) hb
    have hc := World.ownsRow.cellAt hn2 j (by omega)
    refine ⟨g, pc, rfl, rfl, by have := (own_len hp).1; omega, ?_⟩
    rw [hc]
    simp [nmv, List.getElem?_eq_getElem (show j < ps.length by omega)]
  have HC := Lib.hid hcell
  obtain ⟨R0, hR0⟩ : ∃ R0, bl op ++ jnL false (ps.map bl) = R0 := ⟨_, rfl⟩
  have hlen : R0.length + sh.size ≤ 10000000000 := by rw [hR0, List.length_append, bl_len] at hl; exact hl
  rw [hR0]
  have hnI : (n : Int) ≤ 10000000000 := by omega
  clear hcell hp hl
  unfold tightV
  by_cases h0 : n = 0
  · subst h0
    obtain rfl : ps = [] := List.eq_nil_of_length_eq_zero hnl
    have e0 : bl op = R0 := by rw [← hR0]; simp [jnL]
    have hs0 : op.size + sh.size ≤ 10000000000 := by rw [← bl_len op, e0]; exact hlen
    have hbl : bl (op ++ sh) = R0 ++ bl sh := by rw [bl_append, e0]
    have HB := Lib.hid hbl
    clear e0 hR0 hlen hnl HC hbl
    go_enter Tryz.func49, Tryz.ntmps49
    go_wp2_with fail
    all_goals go_ret
    exact ⟨_, rfl, HB.out, bwY _ _⟩
  have hnb : ((n : Int) == 0) = false := by simp; exact h0
  have A0 : Aside (bl op ++ jnL (decide (0 < 0)) ((ps.map bl).drop 0) = R0) := hR0
  clear h0 hR0
  go_enter Tryz.func49, Tryz.ntmps49
  go_wp2_with fail
  go_loopg [11, 12, 13, 23] n (fun g o i2 p2 c wr => ∃ (j : Nat) (out : ByteArray), c = .int .i64 j ∧ o = .string out ∧ j ≤ n ∧ n - j ≤ g ∧ Below w.heap.size w wr ∧ TyB wr w.heap.size ∧ Aside (bl out ++ jnL (decide (0 < j)) ((ps.map bl).drop j) = R0))
  case atStart => exact ⟨0, op, rfl, rfl, Nat.zero_le _, by omega, bwY _ _, TyB.new w, A0⟩
  case round =>
    clear A0
    obtain ⟨j, out, rfl, rfl, hj, hg, hbel, hT, A⟩ := hrel
    by_cases hlt : j < n
    case neg =>
      obtain rfl : j = n := by omega
      have A1 : bl out ++ jnL (decide (0 < j)) ((ps.map bl).drop j) = R0 := A
      rw [List.drop_of_length_le (by simp; omega)] at A1
      have e0 : bl out = R0 := by rw [← A1]; simp [jnL]
      have hos : out.size + sh.size ≤ 10000000000 := by rw [← bl_len out, e0]; exact hlen
      have hbl : bl (out ++ ⟨#[]⟩ ++ sh) = R0 ++ bl sh := by rw [bl_append, bl_append, e0, show bl (⟨#[]⟩ : ByteArray) = [] from rfl, List.append_nil]
      have HB := Lib.hid hbl
      obtain ⟨e0', e1, e2, e3, e4, e5, e6, e7, e8, e9, e10, e11, e12⟩ := hT.cells
      clear A A1 e0 hlen hbl hnl HC
      go_wp2_with (go_at_call 72; refine (line_any _ _).mono ?_; rintro e w4 ⟨rfl, hb4⟩; have hb5 := bwY2 hbel hb4)
      all_goals go_ret
      exact ⟨_, rfl, HB.out, hb5⟩
    have hjI : (j : Int) < (n : Int) := by omega
    obtain ⟨g, c, rfl, rfl, hnc, hcx⟩ := HC.out wr hbel j hlt
    obtain ⟨p, hpj⟩ : ∃ p, ps[j]'(by omega) = p := ⟨_, rfl⟩
    rw [hpj] at hcx
    have A1 : bl out ++ ((if decide (0 < j) then [44] else []) ++ (bl p ++ jnL (decide (0 < j + 1)) ((ps.map bl).drop (j + 1)))) = R0 := by
      have A2 : bl out ++ jnL (decide (0 < j)) ((ps.map bl).drop j) = R0 := A
      rw [drop_cons' _ j (by simp; omega)] at A2
      simp only [List.getElem_map, hpj] at A2
      rw [show decide (0 < j + 1) = true by simp]
      exact A2
    have hos : out.size + p.size ≤ 10000000000 := by
      have := congrArg List.length A1
      simp only [List.length_append, bl_len] at this
      omega
    have HA := Lib.hid A1
    have e44 : bl (⟨#[44]⟩ : ByteArray) = [44] := rfl
    have e00 : bl (⟨#[]⟩ : ByteArray) = [] := rfl
    have HE := Lib.hid (And.intro e44 e00)
    clear A A1 hpj e44 e00
    obtain ⟨q0, q1, q2, q3, q4, q5, q6, q7, q8, q9, q10, q11, q12⟩ := hT.cells
    by_cases hj0 : j = 0
    · subst hj0
      go_wp2_with (go_at_call 72; refine (line_any _ _).mono ?_; rintro e w4 ⟨rfl, hb4⟩; have hb5 := bwY2 hbel hb4; have hT5 := hT.below hb4)
      have hfin : bl (out ++ (⟨#[]⟩ ++ p)) ++ jnL (decide (0 < 0 + 1)) ((ps.map bl).drop (0 + 1)) = R0 := by
        rw [← HA.out, bl_append, bl_append, HE.out.2]; simp
      have HF : Aside (bl (out ++ (⟨#[]⟩ ++ p)) ++ jnL (decide (0 < 0 + 1)) ((ps.map bl).drop (0 + 1)) = R0) := hfin
      clear hfin
      go_roundg (gk - 1)
      case measure => omega
      case rel => exact ⟨0 + 1, _, by go_num, rfl, by omega, by omega, hb5, hT5, HF⟩
    · have hj0I : (0 : Int) < (j : Int) := by omega
      go_wp2_with (first
        | (go_at_call 48; refine (gap_any _ _).mono ?_; rintro e w3 ⟨rfl, hw3⟩; obtain rfl := hw3.symm)
        | (go_at_call 72; refine (line_any _ _).mono ?_; rintro e w4 ⟨rfl, hb4⟩; have hb5 := bwY2 hbel hb4; have hT5 := hT.below hb4))
      have hfin : bl (out ++ ⟨#[44]⟩ ++ (⟨#[]⟩ ++ p)) ++ jnL (decide (0 < j + 1)) ((ps.map bl).drop (j + 1)) = R0 := by
        rw [← HA.out, bl_append, bl_append, bl_append, HE.out.1, HE.out.2, if_pos (by simp; omega)]; simp
      have HF : Aside (bl (out ++ ⟨#[44]⟩ ++ (⟨#[]⟩ ++ p)) ++ jnL (decide (0 < j + 1)) ((ps.map bl).drop (j + 1)) = R0) := hfin
      clear hfin
      go_roundg (gk - 1)
      case measure => omega
      case rel => exact ⟨j + 1, _, by go_num, rfl, by omega, by omega, hb5, hT5, HF⟩
end
section
/- (We) The writer of the reference in encoding/json's style without white space: what it puts for a node that lies in memory. -/
open Go.RowKit

/-- The members' texts. -/
def obL (ns : List ByteArray) (ps : List (List Int)) : List (List Int) := (ns.zip ps).map fun p => bl p.1 ++ ([58] ++ p.2)
mutual
/-- The text of a node without white space. -/
def tgN : Nd → List Int
  | .mk k t ns ks => if k = 123 then [123] ++ jnL false (obL ns (tgA ks)) ++ [125] else if k = 91 then [91] ++ jnL false (tgA ks) ++ [93] else bl t
def tgA : List Nd → List (List Int)
  | [] => []
  | n :: ks => tgN n :: tgA ks
end
mutual
def cnN : Nd → Nat
  | .mk _ _ _ ks => 1 + cnL ks
def cnL : List Nd → Nat
  | [] => 0
  | n :: ks => cnN n + cnL ks
end
mutual
/-- What the writer asks of a node. -/
def WfN : Nd → Prop
  | .mk k t ns ks => (k = 123 → ns.length = ks.length) ∧ (∀ x ∈ ns, x.size ≤ 2500000000 ∧ DecQ x) ∧ t.size ≤ 2500000000 ∧ WfL ks
def WfL : List Nd → Prop
  | [] => True
  | n :: ks => WfN n ∧ WfL ks
end
theorem tgA_len : ∀ ks : List Nd, (tgA ks).length = ks.length
  | [] => by rw [tgA]; rfl
  | n :: ks => by rw [tgA]; simp [tgA_len ks]
theorem tgA_get : ∀ (ks : List Nd) (i : Nat) (h : i < ks.length), (tgA ks)[i]'(by rw [tgA_len]; exact h) = tgN ks[i]
  | n :: ks, 0, _ => by simp [tgA]
  | n :: ks, i + 1, h => by
    have := tgA_get ks i (by simpa using h)
    simp only [tgA, List.getElem_cons_succ]
    exact this
theorem cnL_get : ∀ (ks : List Nd) (i : Nat) (h : i < ks.length), cnN ks[i] ≤ cnL ks
  | n :: ks, 0, _ => by simp [cnL]
  | n :: ks, i + 1, h => by
    have := cnL_get ks i (by simpa using h)
    rw [cnL]
    simp only [List.getElem_cons_succ]
    omega
theorem cnL_len : ∀ (ks : List Nd), ks.length ≤ cnL ks
  | [] => by simp
  | n :: ks => by
    have := cnL_len ks
    have h1 : 1 ≤ cnN n := by cases n; rw [cnN]; omega
    rw [cnL]; simp; omega
theorem wfL_get : ∀ (ks : List Nd) (i : Nat) (h : i < ks.length), WfL ks → WfN ks[i]
  | n :: ks, 0, _, hw => by rw [WfL] at hw; exact hw.1
  | n :: ks, i + 1, h, hw => by rw [WfL] at hw; exact wfL_get ks i (by simpa using h) hw.2
theorem jnL_ge : ∀ (ps : List (List Int)) (b : Bool) (i : Nat) (h : i < ps.length), ps[i].length ≤ (jnL b ps).length
  | p :: r, b, 0, _ => by rw [jnL]; simp; omega
  | p :: r, b, i + 1, h => by
    have := jnL_ge r true i (by simpa using h)
    rw [jnL]
    simp only [List.getElem_cons_succ, List.length_append]
    omega
/-- What the writer gives. -/
def WrtR (w : World) (T : List Int) (e : Ending) (w' : World) : Prop := ∃ R, e = .returned (.string R) ∧ bl R = T ∧ Below w.heap.size w w'
theorem NdM.form {w : World} {P : Nat → Prop} {n : Nd} {vs : List Value} (h : NdM w P n vs) : ∃ (k : Int) (t : ByteArray) (na : Option Addr) (nl nc : Nat) (ka : Option Addr) (kl kc : Nat), vs = [.int .u8 k, .string t, .slice na nl nc, .slice ka kl kc] := by
  cases n with
  | mk k t ns ks =>
    rw [NdM] at h
    obtain ⟨nm, kd, ys, h1, h2⟩ := h
    obtain ⟨na, nc, rfl⟩ := own_slice h1.o1
    obtain ⟨ka, kc, rfl⟩ := own_slice h1.o2
    exact ⟨k, t, na, _, nc, ka, _, kc, h1.vs⟩
theorem kid_fact {w : World} {P : Nat → Prop} {ks : List Nd} {ys : List Value} (hK : KdM w P ks ys) (i : Nat) (hi : i < ks.length) :
    ∃ (k : Int) (t : ByteArray) (na : Option Addr) (nl nc : Nat) (ka : Option Addr) (kl kc : Nat), NdM w P ks[i] [.int .u8 k, .string t, .slice na nl nc, .slice ka kl kc] ∧
      ys[i * 4]? = some (.int .u8 k) ∧ ys[i * 4 + 1]? = some (.string t) ∧ ys[i * 4 + 2]? = some (.slice na nl nc) ∧ ys[i * 4 + 3]? = some (.slice ka kl kc) := by
  obtain ⟨a, a1, a2, a3⟩ := hK.at ks ys i hi
  obtain ⟨k, t, na, nl, nc, ka, kl, kc, rfl⟩ := a2.form
  refine ⟨k, t, na, nl, nc, ka, kl, kc, a2, ?_, ?_, ?_, ?_⟩
  · have := a3 0 (by decide); rw [Nat.mul_comm] at this; simpa using this
  · have := a3 1 (by decide); rw [Nat.mul_comm] at this; simpa using this
  · have := a3 2 (by decide); rw [Nat.mul_comm] at this; simpa using this
  · have := a3 3 (by decide); rw [Nat.mul_comm] at this; simpa using this
/-- The call of the writer for a node. -/
def WrtQ (m : Nat) : Prop := ∀ (n : Nd) (P : Nat → Prop) (k : Int) (t : ByteArray) (na : Option Addr) (nl nc : Nat) (ka : Option Addr) (kl kc : Nat) (w : World) (d : Int), cnN n ≤ m → NdM w P n [.int .u8 k, .string t, .slice na nl nc, .slice ka kl kc] → (∀ g, P g → g < w.heap.size) → WfN n → (tgN n).length ≤ 9000000000 → 0 ≤ d → d + cnN n ≤ 3000000000 →
  Calls Tryz.prog 26 #[tightV, .agg #[.int .u8 k, .string t, .slice na nl nc, .slice ka kl kc], .int .i64 d] w (WrtR w (tgN n))
theorem grown_then {w w5 w6 : World} {row : Option Nat} (h : w.grownBy w5 row) (k : Below w5.heap.size w5 w6) : w.grownBy w6 row :=
  ⟨k.os.trans h.os, k.tape.trans h.tape, k.output.trans h.output, Nat.le_trans h.size k.size, fun g hg hne => (k.block g (Nat.lt_of_lt_of_le hg h.size)).trans (h.block g hg hne)⟩
set_option maxRecDepth 100000 in
set_option maxHeartbeats 8000000 in
theorem wrt_obj (m : Nat) (ih : WrtQ m) (t : ByteArray) (ns : List ByteArray) (ks : List Nd) (P : Nat → Prop) (na : Option Addr) (nc : Nat) (ka : Option Addr) (n kc : Nat) (ys : List Value) (w : World) (d : Int) (hc : cnL ks ≤ m) (hnl : ns.length = n) (hkl : ks.length = n)
    (ho1 : w.ownsRow 0 9 1 (.slice na n nc) n (nmv ns)) (ho2 : w.ownsRow 0 25 4 (.slice ka n kc) n ys) (hK : KdM w P ks ys) (hP : ∀ g, P g → g < w.heap.size)
    (hnm : ∀ x ∈ ns, x.size ≤ 2500000000 ∧ DecQ x) (hW : WfL ks) (hlen : ([123] ++ jnL false (obL ns (tgA ks)) ++ [125]).length ≤ 9000000000) (hd0 : 0 ≤ d) (hd1 : d + 1 + cnL ks ≤ 3000000000) :
    Calls Tryz.prog 26 #[tightV, .agg #[.int .u8 123, .string t, .slice na n nc, .slice ka n kc], .int .i64 d] w (WrtR w ([123] ++ jnL false (obL ns (tgA ks)) ++ [125])) := by
  obtain ⟨j0, ji, jz0, jz1, jz2⟩ := info_parts infoS
  have hcl := cnL_len ks
  have hnI : (n : Int) ≤ 3000000000 := by omega
  obtain ⟨B, hBw⟩ : ∃ B, B = w.heap.size + 1 + 1 := ⟨_, rfl⟩
  have hor := fun (w1 : World) (hb : Below w.heap.size w w1) => order_any 123 t ns na ka n nc n kc w1 (own_bel ho1 (Nat.le_refl _) hb) (by omega) (fun x hx => (hnm x hx).2)
  unfold tightV at hor ⊢
  have HOR := Lib.hid hor
  clear hor
  go_enter Tryz.func26, Tryz.ntmps26
  go_upto_region 2 with fail
  have T0 : TyB (((w.alloc (.cells #[.bool false, .bool false, .bool false, .bool false, .bool true, .bool false, .bool false, .bool false, .bool false, .bool false, .bool false, .string ⟨#[]⟩, .string ⟨#[]⟩] 41)).alloc (.cells #[.int .u8 123, .string t, .slice na n nc, .slice ka n kc] 25)).alloc (.cells #[] 9)) w.heap.size := ((TyB.new w).alloc _).alloc _
  have N0 : NodeB (((w.alloc (.cells #[.bool false, .bool false, .bool false, .bool false, .bool true, .bool false, .bool false, .bool false, .bool false, .bool false, .bool false, .string ⟨#[]⟩, .string ⟨#[]⟩] 41)).alloc (.cells #[.int .u8 123, .string t, .slice na n nc, .slice ka n kc] 25)).alloc (.cells #[] 9)) (w.heap.size + 1) 123 t (.slice na n nc) (.slice ka n kc) := ⟨25, (Below.heap_alloc _ _ _ (by simp)).trans (by have := heap_alloc_new (w.alloc (.cells #[.bool false, .bool false, .bool false, .bool false, .bool true, .bool false, .bool false, .bool false, .bool false, .bool false, .bool false, .string ⟨#[]⟩, .string ⟨#[]⟩] 41)) (.cells #[.int .u8 123, .string t, .slice na n nc, .slice ka n kc] 25); simpa using this)⟩
  have R0 : (((w.alloc (.cells #[.bool false, .bool false, .bool false, .bool false, .bool true, .bool false, .bool false, .bool false, .bool false, .bool false, .bool false, .string ⟨#[]⟩, .string ⟨#[]⟩] 41)).alloc (.cells #[.int .u8 123, .string t, .slice na n nc, .slice ka n kc] 25)).alloc (.cells #[] 9)).ownsRow B 9 1 (.slice (some ⟨w.heap.size + 1 + 1, 0, none⟩) 0 0) 0 (nmv []) := by
    have := World.ownsRow_lit (e := 9) (size := 1) ((w.alloc (.cells #[.bool false, .bool false, .bool false, .bool false, .bool true, .bool false, .bool false, .bool false, .bool false, .bool false, .bool false, .string ⟨#[]⟩, .string ⟨#[]⟩] 41)).alloc (.cells #[.int .u8 123, .string t, .slice na n nc, .slice ka n kc] 25)) #[] 0 (Nat.le_refl _) (Nat.zero_le _) rfl
    simp only [World.size_alloc] at this
    exact own_keep this (by omega) fun _ _ => rfl
  have S0 : B ≤ (((w.alloc (.cells #[.bool false, .bool false, .bool false, .bool false, .bool true, .bool false, .bool false, .bool false, .bool false, .bool false, .bool false, .string ⟨#[]⟩, .string ⟨#[]⟩] 41)).alloc (.cells #[.int .u8 123, .string t, .slice na n nc, .slice ka n kc] 25)).alloc (.cells #[] 9)).heap.size := by simp; omega
  have b0 : Below w.heap.size w (((w.alloc (.cells #[.bool false, .bool false, .bool false, .bool false, .bool true, .bool false, .bool false, .bool false, .bool false, .bool false, .bool false, .string ⟨#[]⟩, .string ⟨#[]⟩] 41)).alloc (.cells #[.int .u8 123, .string t, .slice na n nc, .slice ka n kc] 25)).alloc (.cells #[] 9)) := ((bwY w _).alloc (by simp) _).alloc (by simp; omega) _
  revert T0 N0 R0 S0 b0
  generalize (((w.alloc (.cells #[.bool false, .bool false, .bool false, .bool false, .bool true, .bool false, .bool false, .bool false, .bool false, .bool false, .bool false, .string ⟨#[]⟩, .string ⟨#[]⟩] 41)).alloc (.cells #[.int .u8 123, .string t, .slice na n nc, .slice ka n kc] 25)).alloc (.cells #[] 9)) = w1
  intro T0 N0 R0 S0 b0
  obtain ⟨c0, c1, c2, c3, fc0, fc1, fc2, fc3⟩ := N0.cells
  obtain ⟨e0, e1, e2, e3, e4, e5, e6, e7, e8, e9, e10, e11, e12⟩ := T0.cells
  go_wp2_with (go_at_call 46; refine (HOR.out _ b0).mono ?_; rintro e w2 ⟨v2, rfl, hrowI, hb2⟩; obtain ⟨ia, ic, rfl⟩ := own_slice hrowI)
  clear c0 c1 c2 c3 fc0 fc1 fc2 fc3 e0 e1 e2 e3 e4 e5 e6 e7 e8 e9 e10 e11 e12
  go_loopg [7, 9, 21] n (fun g p i c wr => ∃ (j : Nat) (v' : Value) (Rs : List ByteArray), c = .int .i64 j ∧ p = v' ∧ j ≤ n ∧ n - j ≤ g ∧ wr.ownsRow B 9 1 v' j (nmv Rs) ∧ Hid (Rs.map bl = (obL ns (tgA ks)).take j) ∧ Below w.heap.size w wr ∧ TyB wr w.heap.size ∧ NodeB wr (w.heap.size + 1) 123 t (.slice na n nc) (.slice ka n kc) ∧ B ≤ wr.heap.size ∧ wr.ownsRow 0 3 1 (.slice ia n ic) n (iota n))
  case atStart => exact ⟨0, _, [], rfl, rfl, Nat.zero_le _, by omega, own_bel R0 (Nat.le_refl _) hb2, Lib.hid (by simp), bwY2 b0 hb2, T0.below hb2, N0.bel hb2, Nat.le_trans S0 hb2.size, own_keep hrowI (Nat.zero_le _) (fun _ _ => rfl)⟩
  case round =>
    clear R0 b0 T0 N0 S0 hb2 hrowI
    obtain ⟨j, v', Rs, rfl, hv', hj, hg, hrow, hRs, hbel, hT, hN, hBr, hI⟩ := hrel
    obtain rfl := hv'.symm
    by_cases hlt : j < n
    case neg =>
      have hjn : j = n := by omega
      have hL : (obL ns (tgA ks)).length = n := by simp [obL, tgA_len, hnl, hkl]
      have hmap : Rs.map bl = obL ns (tgA ks) := by rw [hRs.out, List.take_of_length_le (by omega)]
      rw [hjn] at hrow
      obtain ⟨pa, pc, rfl⟩ := own_slice hrow
      have hw := within_any Rs ⟨#[123]⟩ ⟨#[125]⟩ pa n pc B d wr hrow (by rw [hmap]; exact Nat.le_trans hlen (by decide)) (by omega) hd0 (by omega)
      rw [hmap] at hw
      obtain ⟨q0, q1, q2, q3, q4, q5, q6, q7, q8, q9, q10, q11, q12⟩ := hT.cells
      have hjI : decide ((j : Int) < (n : Int)) = false := by simp; omega
      clear hL hmap hjn hRs
      go_wp2_with (go_at_call 49; refine hw.mono ?_; rintro e w4 ⟨R, rfl, hR, hb4⟩; have HR := Lib.hid hR; clear hR)
      all_goals go_ret
      exact ⟨R, rfl, HR.out, bwY2 hbel hb4⟩
    have hjI : (j : Int) < (n : Int) := by omega
    -- what lies there
    obtain ⟨g0, i0c, e0⟩ := own_some hI (by omega)
    injection e0 with e1 e2 e3
    subst e1 e3
    have hi0 : wr.cell? ⟨g0, j, none⟩ = some (.int .i64 (j : Int)) := by
      rw [World.ownsRow.cellAt hI j (by omega)]; simp [iota, hlt]
    have hic : (n : Int) ≤ (ic : Int) := by have := (own_len hI).1; omega
    obtain ⟨g1, c1, e0⟩ := own_some ho1 (by omega)
    injection e0 with e1 e2 e3
    subst e1 e3
    obtain ⟨g2, c2, e0⟩ := own_some ho2 (by omega)
    injection e0 with e1 e2 e3
    subst e1 e3
    obtain ⟨x, hx⟩ : ∃ x, ns[j]'(by omega) = x := ⟨_, rfl⟩
    obtain ⟨k2, t2, na2, nl2, nc2, ka2, kl2, kc2, hM2, y0, y1, y2, y3⟩ := kid_fact hK j (by omega)
    have hn1 := own_bel ho1 (Nat.le_refl _) hbel
    have hn2 := own_bel ho2 (Nat.le_refl _) hbel
    have g1l := (ho1.lt g1 rfl).2
    have g2l := (ho2.lt g2 rfl).2
    have hyl := ho2.1
    have hx1 : wr.cell? ⟨g1, j, none⟩ = some (.string x) := by
      rw [World.ownsRow.cellAt hn1 j (by simp [nmv]; omega)]; simp [nmv, List.getElem?_eq_getElem (show j < ns.length by omega), hx]
    have z0 : wr.cell? ⟨g2, j * 4, none⟩ = some (.int .u8 k2) := by rw [World.ownsRow.cellAt hn2 _ (by omega)]; exact y0
    have z1 : wr.cell? ⟨g2, j * 4 + 1, none⟩ = some (.string t2) := by rw [World.ownsRow.cellAt hn2 _ (by omega)]; exact y1
    have z2 : wr.cell? ⟨g2, j * 4 + 2, none⟩ = some (.slice na2 nl2 nc2) := by rw [World.ownsRow.cellAt hn2 _ (by omega)]; exact y2
    have z3 : wr.cell? ⟨g2, j * 4 + 3, none⟩ = some (.slice ka2 kl2 kc2) := by rw [World.ownsRow.cellAt hn2 _ (by omega)]; exact y3
    have hc1 : (n : Int) ≤ (nc : Int) := by have := (own_len ho1).1; omega
    have hc2 : (n : Int) ≤ (kc : Int) := by have := (own_len ho2).1; omega
    have hvB : ∀ g, v'.ownBlock = some g → B ≤ g := fun g e => (hrow.lt g e).1
    have far : ∀ wx : World, wr.grownBy wx v'.ownBlock → ∀ g, g < B → wx.heap[g]? = wr.heap[g]? := fun wx hx g hg => hx.block g (by omega) (fun e => by have := hvB g e.symm; omega)
    have HT := Lib.hid (show ∀ wx : World, wr.grownBy wx v'.ownBlock → TyB wx w.heap.size from fun wx hx => (far wx hx _ (by omega)).trans hT)
    have HN := Lib.hid (show ∀ wx : World, wr.grownBy wx v'.ownBlock → NodeB wx (w.heap.size + 1) 123 t (.slice (some ⟨g1, 0, none⟩) n nc) (.slice (some ⟨g2, 0, none⟩) n kc) from fun wx hx => by obtain ⟨T, h⟩ := hN; exact ⟨T, (far wx hx _ (by omega)).trans h⟩)
    have HX := Lib.hid (show ∀ wx : World, wr.grownBy wx v'.ownBlock → wx.cell? ⟨g1, j, none⟩ = some (.string x) from fun wx hx => (World.cell?_of_block (far wx hx _ (by simp; omega))).trans hx1)
    have HY := Lib.hid (show ∀ wx : World, wr.grownBy wx v'.ownBlock → wx.cell? ⟨g2, j * 4, none⟩ = some (.int .u8 k2) ∧ wx.cell? ⟨g2, j * 4 + 1, none⟩ = some (.string t2) ∧ wx.cell? ⟨g2, j * 4 + 2, none⟩ = some (.slice na2 nl2 nc2) ∧ wx.cell? ⟨g2, j * 4 + 3, none⟩ = some (.slice ka2 kl2 kc2) from fun wx hx =>
      ⟨(World.cell?_of_block (far wx hx _ (by simp; omega))).trans z0, (World.cell?_of_block (far wx hx _ (by simp; omega))).trans z1, (World.cell?_of_block (far wx hx _ (by simp; omega))).trans z2, (World.cell?_of_block (far wx hx _ (by simp; omega))).trans z3⟩)
    have HST := Lib.hid (fun wz => strText_any x (hx ▸ (hnm _ (List.getElem_mem _)).1) wz)
    have hoj : (obL ns (tgA ks))[j]'(by simp [obL, tgA_len]; omega) = bl x ++ ([58] ++ tgN (ks[j]'(by omega))) := by
      simp only [obL, List.getElem_map, List.getElem_zip]
      rw [tgA_get ks j (by omega), hx]
    have htj : (tgN (ks[j]'(by omega))).length ≤ 9000000000 := by
      have h1 := jnL_ge (obL ns (tgA ks)) false j (by simp [obL, tgA_len]; omega)
      rw [hoj] at h1
      simp only [List.length_append] at h1 hlen
      omega
    have hxs : x.size ≤ 2500000000 := hx ▸ (hnm _ (List.getElem_mem _)).1
    have HKD := Lib.hid (show ∀ wz : World, wr.grownBy wz v'.ownBlock → Calls Tryz.prog 26 #[tightV, .agg #[.int .u8 k2, .string t2, .slice na2 nl2 nc2, .slice ka2 kl2 kc2], .int .i64 (d + 1)] wz (WrtR wz (tgN (ks[j]'(by omega)))) from fun wz hz =>
      ih _ P k2 t2 na2 nl2 nc2 ka2 kl2 kc2 wz (d + 1) (Nat.le_trans (cnL_get ks j (by omega)) hc) (NdM.keep (w := w) (P := P) (fun g hg => ⟨hg, (far wz hz g (by have := hP g hg; omega)).trans (hbel.block g (hP g hg))⟩) _ _ hM2) (fun g hg => by have := hP g hg; have := hbel.size; have := hz.size; omega) (wfL_get ks j (by omega) hW) htj (by omega) (by have := cnL_get ks j (by omega); omega))
    have HD : Hid (IntKind.i64.wrap (d + 1) = d + 1) := Lib.hid (by rw [IntKind.wrap_i64]; omega)
    have hS0 : wr.grownBy wr.drew v'.ownBlock := ⟨rfl, rfl, rfl, Nat.le_refl _, fun _ _ _ => rfl⟩
    clear z0 z1 z2 z3 hx1 far hn1 hn2
    go_upto_region 7 with fail
    clear hi0
    refine wp_region_held (S := fun wx => wr.grownBy wx v'.ownBlock) (by kernel_rfl) ?_
    try (change wpAnyH _ _ _ _ _ _ _ _ (World.drew _))
    have hSd : wr.grownBy wr.drew v'.ownBlock := hS0
    have hrow5 : wr.drew.ownsRow B 9 1 v' j (nmv Rs) := hrow
    generalize wr.drew = w5 at hSd hrow5 ⊢
    refine wpAnyH_take (i := 0) (v := ?_) rfl (by kernel_rfl) (by kernel_rfl) (by kernel_rfl) (fun _ _ _ h => h) (Or.inl ⟨by rfl, ?_⟩) hSd ?_
    rotate_left
    · intro wx hx; go_simp; try with_reducible rfl
    rotate_left
    refine wpAnyH_take (i := 1) (v := (.agg #[.bool false, .bool false, .bool false, .bool false, .bool true, .bool false, .bool false, .bool false, .bool false, .bool false, .bool false, .string ⟨#[]⟩, .string ⟨#[]⟩])) rfl (by kernel_rfl) (by kernel_rfl) (by kernel_rfl) (fun _ _ _ h => h) (Or.inl ⟨by rfl, ?_⟩) hSd ?_
    · intro wx hx; obtain ⟨q0, q1, q2, q3, q4, q5, q6, q7, q8, q9, q10, q11, q12⟩ := (HT.out wx hx).cells; go_simp; try with_reducible rfl
    refine wpAnyH_take (i := 2) (v := ?_) rfl (by kernel_rfl) (by kernel_rfl) (by kernel_rfl) (fun _ _ _ h => h) (Or.inl ⟨by rfl, ?_⟩) hSd ?_
    rotate_left
    · intro wx hx; go_simp; try with_reducible rfl
    rotate_left
    refine wpAnyH_take (i := 3) (v := (.slice (some ⟨g1, 0, none⟩) n nc)) rfl (by kernel_rfl) (by kernel_rfl) (by kernel_rfl) (fun _ _ _ h => h) (Or.inl ⟨by rfl, ?_⟩) hSd ?_
    · intro wx hx; obtain ⟨q0, q1, q2, q3, _, _, _, _⟩ := (HN.out wx hx).cells; go_simp; try with_reducible rfl
    refine wpAnyH_take (i := 4) (v := ?_) rfl (by kernel_rfl) (by kernel_rfl) (by kernel_rfl) (fun _ _ _ h => h) (Or.inl ⟨by rfl, ?_⟩) hSd ?_
    rotate_left
    · intro wx hx; go_simp; try with_reducible rfl
    rotate_left
    refine wpAnyH_take (i := 5) (v := ?_) rfl (by kernel_rfl) (by kernel_rfl) (by kernel_rfl) (fun _ _ _ h => h) (Or.inl ⟨by rfl, ?_⟩) hSd ?_
    rotate_left
    · intro wx hx; go_simp; try with_reducible rfl
    rotate_left
    refine wpAnyH_take (i := 6) (v := (.string x)) rfl (by kernel_rfl) (by kernel_rfl) (by kernel_rfl) (fun _ _ _ h => h) (Or.inl ⟨by rfl, ?_⟩) hSd ?_
    · intro wx hx; have q0 := HX.out wx hx; go_simp; try with_reducible rfl
    refine wpAnyH_take (i := 8) (v := ?_) rfl (by kernel_rfl) (by kernel_rfl) (by kernel_rfl) (fun _ _ _ h => h) (Or.inl ⟨by rfl, ?_⟩) hSd ?_
    rotate_left
    · intro wx hx; go_simp; try with_reducible rfl
    rotate_left
    refine wpAnyH_take (i := 9) (v := (.bool false)) rfl (by kernel_rfl) (by kernel_rfl) (by kernel_rfl) (fun _ _ _ h => h) (Or.inl ⟨by rfl, ?_⟩) hSd ?_
    · intro wx hx; obtain ⟨q0, q1, q2, q3, q4, q5, q6, q7, q8, q9, q10, q11, q12⟩ := (HT.out wx hx).cells; go_simp; try with_reducible rfl
    refine wpAnyH_take (i := 12) (v := (.agg #[.bool false, .bool false, .bool false, .bool false, .bool true, .bool false, .bool false, .bool false, .bool false, .bool false, .bool false, .string ⟨#[]⟩, .string ⟨#[]⟩])) rfl (by kernel_rfl) (by kernel_rfl) (by kernel_rfl) (fun _ _ _ h => h) (Or.inl ⟨by rfl, ?_⟩) hSd ?_
    · intro wx hx; obtain ⟨q0, q1, q2, q3, q4, q5, q6, q7, q8, q9, q10, q11, q12⟩ := (HT.out wx hx).cells; go_simp; try with_reducible rfl
    refine wpAnyH_take (i := 13) (v := ?_) rfl (by kernel_rfl) (by kernel_rfl) (by kernel_rfl) (fun _ _ _ h => h) (Or.inl ⟨by rfl, ?_⟩) hSd ?_
    rotate_left
    · intro wx hx; go_simp; try with_reducible rfl
    rotate_left
    refine wpAnyH_take (i := 14) (v := (.slice (some ⟨g2, 0, none⟩) n kc)) rfl (by kernel_rfl) (by kernel_rfl) (by kernel_rfl) (fun _ _ _ h => h) (Or.inl ⟨by rfl, ?_⟩) hSd ?_
    · intro wx hx; obtain ⟨q0, q1, q2, q3, _, _, _, _⟩ := (HN.out wx hx).cells; go_simp; try with_reducible rfl
    refine wpAnyH_take (i := 15) (v := ?_) rfl (by kernel_rfl) (by kernel_rfl) (by kernel_rfl) (fun _ _ _ h => h) (Or.inl ⟨by rfl, ?_⟩) hSd ?_
    rotate_left
    · intro wx hx; go_simp; try with_reducible rfl
    rotate_left
    refine wpAnyH_take (i := 16) (v := ?_) rfl (by kernel_rfl) (by kernel_rfl) (by kernel_rfl) (fun _ _ _ h => h) (Or.inl ⟨by rfl, ?_⟩) hSd ?_
    rotate_left
    · intro wx hx; go_simp; try with_reducible rfl
    rotate_left
    refine wpAnyH_take (i := 17) (v := (.agg #[.int .u8 k2, .string t2, .slice na2 nl2 nc2, .slice ka2 kl2 kc2])) rfl (by kernel_rfl) (by kernel_rfl) (by kernel_rfl) (fun _ _ _ h => h) (Or.inl ⟨by rfl, ?_⟩) hSd ?_
    · intro wx hx; obtain ⟨q0, q1, q2, q3⟩ := HY.out wx hx; go_simp; try with_reducible rfl
    refine wpAnyH_take (i := 18) (v := ?_) rfl (by kernel_rfl) (by kernel_rfl) (by kernel_rfl) (fun _ _ _ h => h) (Or.inl ⟨by rfl, ?_⟩) hSd ?_
    rotate_left
    · intro wx hx; go_simp; try with_reducible rfl
    rotate_left
    refine wpAnyH_take (i := 19) (v := (.int .i64 (d + 1))) rfl (by kernel_rfl) (by kernel_rfl) (by kernel_rfl) (fun _ _ _ h => h) (Or.inl ⟨by rfl, ?_⟩) hSd ?_
    · intro wx hx; have q0 := HD.out; go_simp; try with_reducible rfl
    simp only [List.getElem_toArray, List.getElem_cons_succ, List.getElem_cons_zero, Act.put, List.setIfInBounds_toArray, List.set_cons_succ, List.set_cons_zero]
    refine wpAnyH_all (rs := [7]) (by kernel_rfl) (by decide) ?_
    intro i hi
    simp only [List.mem_cons, List.not_mem_nil, or_false] at hi
    subst hi
    refine wpOp_of (i := 7) rfl (by rfl) ?_
    go_simp
    go_at_call 47
    refine (HST.out _).mono ?_
    rintro e w6 ⟨rfl, hb6⟩
    have hS6 := grown_then hSd hb6
    have hrow6 := own_bel hrow5 (Nat.le_refl _) hb6
    clear hSd hrow5 hb6
    dsimp only
    refine ⟨hS6, ?_⟩
    try simp only [List.getElem_toArray, List.getElem_cons_succ, List.getElem_cons_zero, Act.put, List.setIfInBounds_toArray, List.set_cons_succ, List.set_cons_zero]
    refine wpAnyH_all (rs := [10]) (by kernel_rfl) (by decide) ?_
    intro i hi
    simp only [List.mem_cons, List.not_mem_nil, or_false] at hi
    subst hi
    refine wpOp_of (i := 10) rfl (by rfl) ?_
    go_simp
    go_at_call 48
    refine (gap_any _ _).mono ?_
    rintro e w7 ⟨rfl, hw7⟩
    obtain rfl := hw7.symm
    dsimp only
    refine ⟨hS6, ?_⟩
    try simp only [List.getElem_toArray, List.getElem_cons_succ, List.getElem_cons_zero, Act.put, List.setIfInBounds_toArray, List.set_cons_succ, List.set_cons_zero]
    refine wpAnyH_take (i := 11) (v := (.string (x ++ ⟨#[58]⟩))) rfl (by kernel_rfl) (by kernel_rfl) (by kernel_rfl) (fun _ _ _ h => h) (Or.inl ⟨by rfl, ?_⟩) hS6 ?_
    · intro wx hx; go_simp; omega
    try simp only [List.getElem_toArray, List.getElem_cons_succ, List.getElem_cons_zero, Act.put, List.setIfInBounds_toArray, List.set_cons_succ, List.set_cons_zero]
    refine wpAnyH_all (rs := [20]) (by kernel_rfl) (by decide) ?_
    intro i hi
    simp only [List.mem_cons, List.not_mem_nil, or_false] at hi
    subst hi
    refine wpOp_of (i := 20) rfl (by rfl) ?_
    go_simp
    go_at_call 26
    refine (HKD.out _ hS6).mono ?_
    rintro e w8 ⟨R, rfl, hR, hb8⟩
    have hRs8 : R.size ≤ 9000000000 := by rw [← bl_len, hR]; exact htj
    have HR := Lib.hid hR
    clear hR
    have hS8 := grown_then hS6 hb8
    have hrow8 := own_bel hrow6 (Nat.le_refl _) hb8
    clear hS6 hrow6 hb8
    dsimp only
    refine ⟨hS8, ?_⟩
    try simp only [List.getElem_toArray, List.getElem_cons_succ, List.getElem_cons_zero, Act.put, List.setIfInBounds_toArray, List.set_cons_succ, List.set_cons_zero]
    refine wpAnyH_take (i := 21) (v := (.string (x ++ ⟨#[58]⟩ ++ R))) rfl (by kernel_rfl) (by kernel_rfl) (by kernel_rfl) (fun _ _ _ h => h) (Or.inl ⟨by rfl, ?_⟩) hS8 ?_
    · intro wx hx; go_simp; omega
    try simp only [List.getElem_toArray, List.getElem_cons_succ, List.getElem_cons_zero, Act.put, List.setIfInBounds_toArray, List.set_cons_succ, List.set_cons_zero]
    refine wpAnyH_all (rs := [22]) (by kernel_rfl) (by decide) ?_
    intro i hi
    simp only [List.mem_cons, List.not_mem_nil, or_false] at hi
    subst hi
    refine wpOp_val (v := .slice (some ⟨w8.heap.size, 0, none⟩) 1 1) (w' := w8.alloc (.cells #[.string (x ++ ⟨#[58]⟩ ++ R)] 9)) rfl (by rfl) (by go_simp) ?_
    have hS9 : wr.grownBy (w8.alloc (.cells #[.string (x ++ ⟨#[58]⟩ ++ R)] 9)) v'.ownBlock := grown_then hS8 (bwY _ _)
    refine ⟨hS9, ?_⟩
    try simp only [List.getElem_toArray, List.getElem_cons_succ, List.getElem_cons_zero, Act.put, List.setIfInBounds_toArray, List.set_cons_succ, List.set_cons_zero]
    refine wpAnyH_all (rs := [23]) (by kernel_rfl) (by decide) ?_
    intro i hi
    simp only [List.mem_cons, List.not_mem_nil, or_false] at hi
    subst hi
    refine wpOp_of (i := 23) rfl (by rfl) ?_
    refine wp_append_own _ (.tmp 25) (.tmp 47) 22 rfl B 9 j0 _ 1 16 Tryz.underlying22 ji jz0 jz1 jz2 rfl (by decide) v' j (nmv Rs) rfl (World.ownsRow.alloc hrow8 _) ⟨w8.heap.size, 0, none⟩ 1 1 [.string (x ++ ⟨#[58]⟩ ++ R)] rfl rfl (cell_one_y _ _ _) (by simp [Value.oneCell']) (by unfold maxLen; omega) (by omega) (by have := hS8.size; simp; omega) ?_
    intro v3 w9 ho hg9 _
    have hS10 : wr.grownBy w9 v'.ownBlock := hS9.trans hg9
    refine ⟨hS10, ?_⟩
    try simp only [List.getElem_toArray, List.getElem_cons_succ, List.getElem_cons_zero, Act.put, List.setIfInBounds_toArray, List.set_cons_succ, List.set_cons_zero]
    refine wpAnyH_take (i := 24) (v := ?_) rfl (by kernel_rfl) (by kernel_rfl) (by kernel_rfl) (fun _ _ _ h => h) (Or.inl ⟨by rfl, ?_⟩) hS10 ?_
    rotate_left
    · intro wx hx; go_simp; try with_reducible rfl
    rotate_left
    try simp only [List.getElem_toArray, List.getElem_cons_succ, List.getElem_cons_zero, Act.put, List.setIfInBounds_toArray, List.set_cons_succ, List.set_cons_zero]
    refine wpAnyH_done (by kernel_rfl) ?_ _
    go_wp2_with fail
    have hbw : Below B wr w9 := ⟨hS10.os, hS10.tape, hS10.output, hS10.size, fun q hq => hS10.block q (by omega) (fun e => by have := hvB q e.symm; omega)⟩
    have hrow0 := own_keep hrow (Nat.zero_le _) (fun _ _ => rfl)
    have hI9 : w9.ownsRow 0 3 1 (.slice (some ⟨g0, 0, none⟩) n ic) n (iota n) := own_keep hI (Nat.le_refl _) fun q hq => hS10.block q (hI.lt q hq).2 (fun e => by
      rcases own_ne hI hrow0 (by decide) with h | h
      · rw [h] at hq; cases hq
      · exact h (by rw [hq, e]))
    have hRs9 : Hid ((Rs ++ [x ++ ⟨#[58]⟩ ++ R]).map bl = (obL ns (tgA ks)).take (j + 1)) := Lib.hid (by
      rw [List.take_succ_eq_append_getElem (by simp [obL, tgA_len]; omega), hoj, List.map_append, hRs.out, List.map_cons, List.map_nil, bl_append, bl_append, HR.out, List.append_assoc]
      rfl)
    have ho9 : w9.ownsRow B 9 1 v3 (j + 1) (nmv (Rs ++ [x ++ ⟨#[58]⟩ ++ R])) := by
      have := ho
      simpa [nmv] using this
    go_roundg (gk - 1)
    case measure => omega
    case rel => exact ⟨j + 1, v3, _, by go_num, rfl, by omega, by omega, ho9, hRs9, hbel.trans (hbw.mono (by omega)), HT.out _ hS10, HN.out _ hS10, Nat.le_trans hBr hS10.size, hI9⟩
end
section
/- (Wf) The writer of the reference: arrays, and all kinds of nodes. -/
open Go.RowKit

set_option maxRecDepth 100000 in
set_option maxHeartbeats 8000000 in
theorem wrt_arr (m : Nat) (ih : WrtQ m) (t : ByteArray) (ks : List Nd) (P : Nat → Prop) (na : Option Addr) (nl nc : Nat) (ka : Option Addr) (n kc : Nat) (ys : List Value) (w : World) (d : Int) (hc : cnL ks ≤ m) (hkl : ks.length = n)
    (ho2 : w.ownsRow 0 25 4 (.slice ka n kc) n ys) (hK : KdM w P ks ys) (hP : ∀ g, P g → g < w.heap.size)
    (hW : WfL ks) (hlen : ([91] ++ jnL false (tgA ks) ++ [93]).length ≤ 9000000000) (hd0 : 0 ≤ d) (hd1 : d + 1 + cnL ks ≤ 3000000000) :
    Calls Tryz.prog 26 #[tightV, .agg #[.int .u8 91, .string t, .slice na nl nc, .slice ka n kc], .int .i64 d] w (WrtR w ([91] ++ jnL false (tgA ks) ++ [93])) := by
  obtain ⟨j0, ji, jz0, jz1, jz2⟩ := info_parts infoS
  have hcl := cnL_len ks
  have hnI : (n : Int) ≤ 3000000000 := by omega
  obtain ⟨B, hBw⟩ : ∃ B, B = w.heap.size + 1 + 1 := ⟨_, rfl⟩
  unfold tightV
  go_enter Tryz.func26, Tryz.ntmps26
  go_upto_region 2 with fail
  have T0 : TyB (((w.alloc (.cells #[.bool false, .bool false, .bool false, .bool false, .bool true, .bool false, .bool false, .bool false, .bool false, .bool false, .bool false, .string ⟨#[]⟩, .string ⟨#[]⟩] 41)).alloc (.cells #[.int .u8 91, .string t, .slice na nl nc, .slice ka n kc] 25)).alloc (.cells #[] 9)) w.heap.size := ((TyB.new w).alloc _).alloc _
  have N0 : NodeB (((w.alloc (.cells #[.bool false, .bool false, .bool false, .bool false, .bool true, .bool false, .bool false, .bool false, .bool false, .bool false, .bool false, .string ⟨#[]⟩, .string ⟨#[]⟩] 41)).alloc (.cells #[.int .u8 91, .string t, .slice na nl nc, .slice ka n kc] 25)).alloc (.cells #[] 9)) (w.heap.size + 1) 91 t (.slice na nl nc) (.slice ka n kc) := ⟨25, (Below.heap_alloc _ _ _ (by simp)).trans (by have := heap_alloc_new (w.alloc (.cells #[.bool false, .bool false, .bool false, .bool false, .bool true, .bool false, .bool false, .bool false, .bool false, .bool false, .bool false, .string ⟨#[]⟩, .string ⟨#[]⟩] 41)) (.cells #[.int .u8 91, .string t, .slice na nl nc, .slice ka n kc] 25); simpa using this)⟩
  have R0 : (((w.alloc (.cells #[.bool false, .bool false, .bool false, .bool false, .bool true, .bool false, .bool false, .bool false, .bool false, .bool false, .bool false, .string ⟨#[]⟩, .string ⟨#[]⟩] 41)).alloc (.cells #[.int .u8 91, .string t, .slice na nl nc, .slice ka n kc] 25)).alloc (.cells #[] 9)).ownsRow B 9 1 (.slice (some ⟨w.heap.size + 1 + 1, 0, none⟩) 0 0) 0 (nmv []) := by
    have := World.ownsRow_lit (e := 9) (size := 1) ((w.alloc (.cells #[.bool false, .bool false, .bool false, .bool false, .bool true, .bool false, .bool false, .bool false, .bool false, .bool false, .bool false, .string ⟨#[]⟩, .string ⟨#[]⟩] 41)).alloc (.cells #[.int .u8 91, .string t, .slice na nl nc, .slice ka n kc] 25)) #[] 0 (Nat.le_refl _) (Nat.zero_le _) rfl
    simp only [World.size_alloc] at this
    exact own_keep this (by omega) fun _ _ => rfl
  have S0 : B ≤ (((w.alloc (.cells #[.bool false, .bool false, .bool false, .bool false, .bool true, .bool false, .bool false, .bool false, .bool false, .bool false, .bool false, .string ⟨#[]⟩, .string ⟨#[]⟩] 41)).alloc (.cells #[.int .u8 91, .string t, .slice na nl nc, .slice ka n kc] 25)).alloc (.cells #[] 9)).heap.size := by simp; omega
  have b0 : Below w.heap.size w (((w.alloc (.cells #[.bool false, .bool false, .bool false, .bool false, .bool true, .bool false, .bool false, .bool false, .bool false, .bool false, .bool false, .string ⟨#[]⟩, .string ⟨#[]⟩] 41)).alloc (.cells #[.int .u8 91, .string t, .slice na nl nc, .slice ka n kc] 25)).alloc (.cells #[] 9)) := ((bwY w _).alloc (by simp) _).alloc (by simp; omega) _
  revert T0 N0 R0 S0 b0
  generalize (((w.alloc (.cells #[.bool false, .bool false, .bool false, .bool false, .bool true, .bool false, .bool false, .bool false, .bool false, .bool false, .bool false, .string ⟨#[]⟩, .string ⟨#[]⟩] 41)).alloc (.cells #[.int .u8 91, .string t, .slice na nl nc, .slice ka n kc] 25)).alloc (.cells #[] 9)) = w1
  intro T0 N0 R0 S0 b0
  obtain ⟨c0, c1, c2, c3, fc0, fc1, fc2, fc3⟩ := N0.cells
  go_wp2_with fail
  clear c0 c1 c2 c3 fc0 fc1 fc2 fc3 N0
  go_loopg [7, 11, 59] n (fun g p bx c wr => ∃ (j : Nat) (v' : Value) (Rs : List ByteArray), c = .int .i64 j ∧ p = v' ∧ j ≤ n ∧ n - j ≤ g ∧ wr.ownsRow B 9 1 v' j (nmv Rs) ∧ Hid (Rs.map bl = (tgA ks).take j) ∧ Below w.heap.size w wr ∧ TyB wr w.heap.size ∧ B ≤ wr.heap.size)
  case atStart => exact ⟨0, _, [], rfl, rfl, Nat.zero_le _, by omega, R0, Lib.hid (by simp), b0, T0, S0⟩
  case round =>
    clear R0 b0 T0 S0
    obtain ⟨j, v', Rs, rfl, hv', hj, hg, hrow, hRs, hbel, hT, hBr⟩ := hrel
    obtain rfl := hv'.symm
    by_cases hlt : j < n
    case neg =>
      have hjn : j = n := by omega
      have hmap : Rs.map bl = tgA ks := by rw [hRs.out, List.take_of_length_le (by rw [tgA_len]; omega)]
      rw [hjn] at hrow
      obtain ⟨pa, pc, rfl⟩ := own_slice hrow
      have hw := within_any Rs ⟨#[91]⟩ ⟨#[93]⟩ pa n pc B d wr hrow (by rw [hmap]; exact Nat.le_trans hlen (by decide)) (by omega) hd0 (by omega)
      rw [hmap] at hw
      obtain ⟨q0, q1, q2, q3, q4, q5, q6, q7, q8, q9, q10, q11, q12⟩ := hT.cells
      have hjI : decide ((j : Int) < (n : Int)) = false := by simp; omega
      clear hmap hjn hRs
      go_wp2_with (go_at_call 49; refine hw.mono ?_; rintro e w4 ⟨R, rfl, hR, hb4⟩; have HR := Lib.hid hR; clear hR)
      all_goals go_ret
      exact ⟨R, rfl, HR.out, bwY2 hbel hb4⟩
    have hjI : (j : Int) < (n : Int) := by omega
    obtain ⟨g2, c2, e0⟩ := own_some ho2 (by omega)
    injection e0 with e1 e2 e3
    subst e1 e3
    obtain ⟨k2, t2, na2, nl2, nc2, ka2, kl2, kc2, hM2, y0, y1, y2, y3⟩ := kid_fact hK j (by omega)
    have hn2 := own_bel ho2 (Nat.le_refl _) hbel
    have hyl := ho2.1
    have z0 : wr.cell? ⟨g2, j * 4, none⟩ = some (.int .u8 k2) := by rw [World.ownsRow.cellAt hn2 _ (by omega)]; exact y0
    have z1 : wr.cell? ⟨g2, j * 4 + 1, none⟩ = some (.string t2) := by rw [World.ownsRow.cellAt hn2 _ (by omega)]; exact y1
    have z2 : wr.cell? ⟨g2, j * 4 + 2, none⟩ = some (.slice na2 nl2 nc2) := by rw [World.ownsRow.cellAt hn2 _ (by omega)]; exact y2
    have z3 : wr.cell? ⟨g2, j * 4 + 3, none⟩ = some (.slice ka2 kl2 kc2) := by rw [World.ownsRow.cellAt hn2 _ (by omega)]; exact y3
    have hc2 : (n : Int) ≤ (kc : Int) := by have := (own_len ho2).1; omega
    go_upto_region 14 with fail
    have htj : (tgN (ks[j]'(by omega))).length ≤ 9000000000 := by
      have h1 := jnL_ge (tgA ks) false j (by rw [tgA_len]; omega)
      rw [tgA_get ks j (by omega)] at h1
      simp only [List.length_append] at hlen
      omega
    have hKD : ∀ wz : World, Below w.heap.size w wz → Calls Tryz.prog 26 #[tightV, .agg #[.int .u8 k2, .string t2, .slice na2 nl2 nc2, .slice ka2 kl2 kc2], .int .i64 (d + 1)] wz (WrtR wz (tgN (ks[j]'(by omega)))) := fun wz hz =>
      ih _ P k2 t2 na2 nl2 nc2 ka2 kl2 kc2 wz (d + 1) (Nat.le_trans (cnL_get ks j (by omega)) hc) (NdM.keep (w := w) (P := P) (fun g hg => ⟨hg, hz.block g (hP g hg)⟩) _ _ hM2) (fun g hg => by have := hP g hg; have := hz.size; omega) (wfL_get ks j (by omega) hW) htj (by omega) (by have := cnL_get ks j (by omega); omega)
    have hvB : ∀ g, v'.ownBlock = some g → B ≤ g := fun g e => (hrow.lt g e).1
    have Ta := hT.alloc (.cells #[.int .u8 k2, .string t2, .slice na2 nl2 nc2, .slice ka2 kl2 kc2] 25)
    have Na : NodeB (wr.alloc (.cells #[.int .u8 k2, .string t2, .slice na2 nl2 nc2, .slice ka2 kl2 kc2] 25)) wr.heap.size k2 t2 (.slice na2 nl2 nc2) (.slice ka2 kl2 kc2) := ⟨_, heap_alloc_new _ _⟩
    have rowa := World.ownsRow.alloc hrow (.cells #[.int .u8 k2, .string t2, .slice na2 nl2 nc2, .slice ka2 kl2 kc2] 25)
    have ba := bwY2 hbel (bwY wr (.cells #[.int .u8 k2, .string t2, .slice na2 nl2 nc2, .slice ka2 kl2 kc2] 25))
    have Ba : B ≤ (wr.alloc (.cells #[.int .u8 k2, .string t2, .slice na2 nl2 nc2, .slice ka2 kl2 kc2] 25)).heap.size := Nat.le_trans hBr (by simp)
    have hKa := Lib.hid (hKD _ ba)
    clear hKD z0 z1 z2 z3 y0 y1 y2 y3 hn2 hM2 hT hrow hbel hBr hc2
    revert Ta Na rowa ba Ba hKa
    generalize wr.alloc (.cells #[.int .u8 k2, .string t2, .slice na2 nl2 nc2, .slice ka2 kl2 kc2] 25) = wa
    generalize wr.heap.size = pb
    intro Ta Na rowa ba Ba hKa
    obtain ⟨c0, c1, c2', c3, fc0, fc1, fc2, fc3⟩ := Na.cells
    obtain ⟨q0, q1, q2, q3, q4, q5, q6, q7, q8, q9, q10, q11, q12⟩ := Ta.cells
    go_upto_region 14 with fail
    unfold tightV at hKa
    go_wp2_with (first
      | (go_at_call 26; refine hKa.out.mono ?_; rintro e w8 ⟨R, rfl, hR, hb8⟩; have hRs8 : R.size ≤ 9000000000 := (by rw [← bl_len, hR]; exact htj); have HR := Lib.hid hR; clear hR; have row8 := own_bel rowa (Nat.le_refl _) hb8; have b8 := bwY2 ba hb8; have T8 := Ta.below hb8; have B8 := Nat.le_trans Ba hb8.size)
      | (at_builtin; refine wpList_append_own _ rfl (.tmp 63) (.tmp 69) 22 (by rfl) B 9 j0 (.string ⟨#[]⟩) 1 16 Tryz.underlying22 ji jz0 jz1 jz2 rfl (by decide) _ j (nmv Rs) rfl (World.ownsRow.alloc row8 _) ⟨w8.heap.size, 0, none⟩ 1 1 [.string R] rfl rfl (cell_one_y _ _ _) (by intro u hu; simp at hu; subst hu; rfl) (by unfold maxLen; omega) (by omega) (by simp; omega) ?_; intro v3 w9 ho hg9 hgl3; clear hgl3))
    have hb9 := grown_bel hvB hg9 B8
    have hRs9 : Hid ((Rs ++ [R]).map bl = (tgA ks).take (j + 1)) := Lib.hid (by
      rw [List.take_succ_eq_append_getElem (by rw [tgA_len]; omega), tgA_get ks j (by omega), List.map_append, hRs.out, List.map_cons, List.map_nil, HR.out])
    have ho9 : w9.ownsRow B 9 1 v3 (j + 1) (nmv (Rs ++ [R])) := by
      have := ho
      simpa [nmv] using this
    go_roundg (gk - 1)
    case measure => omega
    case rel => exact ⟨j + 1, v3, _, by go_num, rfl, by omega, by omega, ho9, hRs9, b8.trans (hb9.mono (by omega)), (hb9.block _ (by omega)).trans T8, Nat.le_trans B8 hb9.size⟩
set_option maxRecDepth 100000 in
set_option maxHeartbeats 4000000 in
/-- Literals, strings and numbers. -/
theorem wrt_lit (k : Int) (t : ByteArray) (na : Option Addr) (nl nc : Nat) (ka : Option Addr) (kl kc : Nat) (w : World) (d : Int) (h123 : k ≠ 123) (h91 : k ≠ 91) (ht : t.size ≤ 2500000000) :
    Calls Tryz.prog 26 #[tightV, .agg #[.int .u8 k, .string t, .slice na nl nc, .slice ka kl kc], .int .i64 d] w (WrtR w (bl t)) := by
  have hst := fun wz => strText_any t ht wz
  have hnt := fun wz => numText_any t (by omega) wz
  unfold tightV at hst hnt ⊢
  have HS := Lib.hid hst
  have HN := Lib.hid hnt
  have d123 : (k == 123) = false := by simpa using h123
  have d91 : (k == 91) = false := by simpa using h91
  clear hst hnt h123 h91
  go_enter Tryz.func26, Tryz.ntmps26
  go_upto_region 2 with fail
  have T0 : TyB (((w.alloc (.cells #[.bool false, .bool false, .bool false, .bool false, .bool true, .bool false, .bool false, .bool false, .bool false, .bool false, .bool false, .string ⟨#[]⟩, .string ⟨#[]⟩] 41)).alloc (.cells #[.int .u8 k, .string t, .slice na nl nc, .slice ka kl kc] 25)).alloc (.cells #[] 9)) w.heap.size := ((TyB.new w).alloc _).alloc _
  have N0 : NodeB (((w.alloc (.cells #[.bool false, .bool false, .bool false, .bool false, .bool true, .bool false, .bool false, .bool false, .bool false, .bool false, .bool false, .string ⟨#[]⟩, .string ⟨#[]⟩] 41)).alloc (.cells #[.int .u8 k, .string t, .slice na nl nc, .slice ka kl kc] 25)).alloc (.cells #[] 9)) (w.heap.size + 1) k t (.slice na nl nc) (.slice ka kl kc) := ⟨25, (Below.heap_alloc _ _ _ (by simp)).trans (by have := heap_alloc_new (w.alloc (.cells #[.bool false, .bool false, .bool false, .bool false, .bool true, .bool false, .bool false, .bool false, .bool false, .bool false, .bool false, .string ⟨#[]⟩, .string ⟨#[]⟩] 41)) (.cells #[.int .u8 k, .string t, .slice na nl nc, .slice ka kl kc] 25); simpa using this)⟩
  have b0 : Below w.heap.size w (((w.alloc (.cells #[.bool false, .bool false, .bool false, .bool false, .bool true, .bool false, .bool false, .bool false, .bool false, .bool false, .bool false, .string ⟨#[]⟩, .string ⟨#[]⟩] 41)).alloc (.cells #[.int .u8 k, .string t, .slice na nl nc, .slice ka kl kc] 25)).alloc (.cells #[] 9)) := ((bwY w _).alloc (by simp) _).alloc (by simp; omega) _
  revert T0 N0 b0
  generalize (((w.alloc (.cells #[.bool false, .bool false, .bool false, .bool false, .bool true, .bool false, .bool false, .bool false, .bool false, .bool false, .bool false, .string ⟨#[]⟩, .string ⟨#[]⟩] 41)).alloc (.cells #[.int .u8 k, .string t, .slice na nl nc, .slice ka kl kc] 25)).alloc (.cells #[] 9)) = w1
  intro T0 N0 b0
  obtain ⟨c0, c1, c2, c3, fc0, fc1, fc2, fc3⟩ := N0.cells
  obtain ⟨q0, q1, q2, q3, q4, q5, q6, q7, q8, q9, q10, q11, q12⟩ := T0.cells
  by_cases h34 : k = 34
  · subst h34
    go_wp2_with (go_at_call 47; refine (HS.out _).mono ?_; rintro e w4 ⟨rfl, hb4⟩)
    all_goals go_ret
    exact ⟨_, rfl, rfl, bwY2 b0 hb4⟩
  by_cases h48 : k = 48
  · subst h48
    go_wp2_with (go_at_call 50; refine (HN.out _).mono ?_; rintro e w4 ⟨rfl, hb4⟩)
    all_goals go_ret
    exact ⟨_, rfl, rfl, bwY2 b0 hb4⟩
  have d34 : (k == 34) = false := by simpa using h34
  have d48 : (k == 48) = false := by simpa using h48
  clear h34 h48
  go_wp2_with fail
  all_goals go_ret
  exact ⟨_, rfl, rfl, b0⟩
/-- The writer, for each node. -/
theorem wrt_all : ∀ m : Nat, WrtQ m
  | 0 => fun n P k t na nl nc ka kl kc w d hm => by cases n; rw [cnN] at hm; omega
  | m + 1 => fun n P k t na nl nc ka kl kc w d hm hM hP hW hlen hd0 hd1 => by
    cases n with
    | mk k' t' ns ks =>
      rw [NdM] at hM
      obtain ⟨nm, kd, ys, hF, hK⟩ := hM
      obtain ⟨vs, o1, p1, o2, p2⟩ := hF
      simp only [List.cons.injEq, Value.int.injEq, Value.string.injEq, true_and, and_true] at vs
      obtain ⟨rfl, rfl, rfl, rfl⟩ := vs
      rw [WfN] at hW
      obtain ⟨w1, w2, w3, w4⟩ := hW
      rw [cnN] at hm hd1
      have e1 : nl = ns.length := by
        obtain ⟨ao, cp, e⟩ := own_slice o1
        injection e with _ e _
      have e2 : kl = ks.length := by
        obtain ⟨ao, cp, e⟩ := own_slice o2
        injection e with _ e _
      subst e1 e2
      rw [tgN] at hlen ⊢
      by_cases h123 : k = 123
      · subst h123
        rw [if_pos rfl] at hlen ⊢
        have hnl := w1 rfl
        rw [hnl] at o1 ⊢
        exact wrt_obj m (wrt_all m) t ns ks P na nc ka ks.length kc ys w d (by omega) hnl rfl o1 o2 hK hP w2 w4 hlen hd0 (by omega)
      rw [if_neg h123] at hlen ⊢
      by_cases h91 : k = 91
      · subst h91
        rw [if_pos rfl] at hlen ⊢
        exact wrt_arr m (wrt_all m) t ks P na ns.length nc ka ks.length kc ys w d (by omega) rfl o2 hK hP w4 hlen hd0 (by omega)
      rw [if_neg h91] at hlen ⊢
      exact wrt_lit k t na ns.length nc ka ks.length kc w d h123 h91 w3
end
end Go.Proofs.YtjbffgjclnjkoaaGreatDoor
