/- Joined texts: Nz, Ev, Qf, Qd. -/
import Derived.Test.YtjbffgjclnjkoaaGreatDoorSv
import Derived.Test.YtjbffgjclnjkoaaGreatDoorSw
import Derived.Test.YtjbffgjclnjkoaaGreatDoorSb
import Derived.Test.YtjbffgjclnjkoaaGreatDoorH1
namespace Go.Proofs.YtjbffgjclnjkoaaGreatDoor
set_option linter.unusedVariables false
set_option linter.unusedSimpArgs false
section
/- (Nz) Numbers: three ways to tell them, one law. Plain mathematics. -/
/-- One byte of a number, as the law's own automaton takes it. -/
def numS (n : Nat) (c : Int) : Option Nat :=
  if n = 0 ∧ c = 45 then some 1
  else if n ≤ 1 ∧ c = 48 then some 2
  else if n ≤ 1 ∧ digB c = true ∨ n = 3 ∧ digB c = true then some 3
  else if (n = 2 ∨ n = 3) ∧ c = 46 then some 4
  else if (n = 4 ∨ n = 5) ∧ digB c = true then some 5
  else if (n = 2 ∨ n = 3 ∨ n = 5) ∧ (c = 101 ∨ c = 69) then some 6
  else if n = 6 ∧ (c = 43 ∨ c = 45) then some 7
  else if 6 ≤ n ∧ digB c = true then some 8
  else none
def numE (n : Nat) : Bool := n == 2 || n == 3 || n == 5 || n == 8
def numF : Nat → List Int → Bool
  | n, [] => numE n
  | n, c :: l => match numS n c with
    | some m => numF m l
    | none => false
/-- The bytes that such texts have. -/
def NumC (c : Int) : Prop := digB c = true ∨ c = 43 ∨ c = 45 ∨ c = 46 ∨ c = 101 ∨ c = 69
def numQ : Nat → Sq
  | 0 => .bv | 1 => .neg | 2 => .s0 | 3 => .s1 | 4 => .dot | 5 => .dot0 | 6 => .ee | 7 => .esg | _ => .e0
theorem valid_er (l : List Int) (t : Bool) (s : List Int) : validQ ⟨.er, t, s, true⟩ l = false := by
  cases l with
  | nil => rfl
  | cons c l => rfl
theorem valid_cons (σ : Sc) (c : Int) (l : List Int) : validQ σ (c :: l) = if (stepQ σ c).1 = 11 then false else validQ (stepQ σ c).2 l := rfl
theorem digB_iff {c : Int} : digB c = true ↔ 48 ≤ c ∧ c ≤ 57 := by unfold digB; simp
theorem isW_num {c : Int} (h : NumC c) : isW c = false := by
  unfold NumC at h
  rw [digB_iff] at h
  unfold isW
  simp
  omega
theorem end_num {q : Sq} {c : Int} (h : NumC c) : endQ ⟨q, false, [], false⟩ c = (10, ⟨.er, true, [], true⟩) := by
  show topQ _ c = _
  unfold topQ
  rw [isW_num h]
  rfl
theorem num_step (n : Nat) (hn : n ≤ 8) (c : Int) (l : List Int) (h : NumC c) :
    validQ ⟨numQ n, false, [], false⟩ (c :: l) = match numS n c with
      | some m => validQ ⟨numQ m, false, [], false⟩ l
      | none => false := by
  have hw := isW_num h
  have he := fun q => end_num (q := q) h
  unfold NumC at h
  by_cases hd : digB c = true
  · have hd2 := digB_iff.1 hd
    have g1 : c ≠ 43 := by omega
    have g2 : c ≠ 45 := by omega
    have g3 : c ≠ 46 := by omega
    have g4 : c ≠ 101 := by omega
    have g5 : c ≠ 69 := by omega
    have g6 : c ≠ 123 := by omega
    have g7 : c ≠ 91 := by omega
    have g8 : c ≠ 34 := by omega
    rw [valid_cons]
    by_cases h0 : c = 48
    · subst h0
      have : n = 0 ∨ n = 1 ∨ n = 2 ∨ n = 3 ∨ n = 4 ∨ n = 5 ∨ n = 6 ∨ n = 7 ∨ n = 8 := by omega
      rcases this with rfl | rfl | rfl | rfl | rfl | rfl | rfl | rfl | rfl <;> first | rfl | (simp [stepQ, numQ, numS, s0Q, he, hd, valid_er]; done)
    · have hd3 : 49 ≤ c := by omega
      have h9 : (decide (49 ≤ c) && decide (c ≤ 57)) = true := by simp; omega
      have : n = 0 ∨ n = 1 ∨ n = 2 ∨ n = 3 ∨ n = 4 ∨ n = 5 ∨ n = 6 ∨ n = 7 ∨ n = 8 := by omega
      have k1 : c ≠ 116 := by omega
      have k2 : c ≠ 102 := by omega
      have k3 : c ≠ 110 := by omega
      have k4 : ¬ c < 32 := by omega
      rcases this with rfl | rfl | rfl | rfl | rfl | rfl | rfl | rfl | rfl <;> simp [stepQ, numQ, numS, bvQ, negQ, s0Q, s1Q, dotQ, dot0Q, eeQ, esgQ, e0Q, Sc.to, Sc.err, he, hd, hw, valid_er, h0, h9, g1, g2, g3, g4, g5, g6, g7, g8, k1, k2, k3, hd3, hd2.2]
  · have hd' : digB c = false := by simpa using hd
    rw [valid_cons]
    have : n = 0 ∨ n = 1 ∨ n = 2 ∨ n = 3 ∨ n = 4 ∨ n = 5 ∨ n = 6 ∨ n = 7 ∨ n = 8 := by omega
    rcases h with h | rfl | rfl | rfl | rfl | rfl
    · exact absurd h hd
    all_goals rcases this with rfl | rfl | rfl | rfl | rfl | rfl | rfl | rfl | rfl <;> first | rfl | (simp [stepQ, numQ, numS, bvQ, negQ, s0Q, s1Q, dotQ, dot0Q, eeQ, esgQ, e0Q, Sc.to, Sc.err, he, hd', hw, valid_er]; done)
theorem num_end (n : Nat) (hn : n ≤ 8) : validQ ⟨numQ n, false, [], false⟩ [] = numE n := by
  have : n = 0 ∨ n = 1 ∨ n = 2 ∨ n = 3 ∨ n = 4 ∨ n = 5 ∨ n = 6 ∨ n = 7 ∨ n = 8 := by omega
  rcases this with rfl | rfl | rfl | rfl | rfl | rfl | rfl | rfl | rfl <;> rfl
theorem numS_le {n m : Nat} {c : Int} (h : numS n c = some m) : m ≤ 8 := by
  unfold numS at h
  repeat' split at h
  all_goals first | (injection h with h; omega) | cases h
/-- A value of such bytes is a number. -/
theorem valid_num : ∀ (l : List Int) (n : Nat), n ≤ 8 → (∀ c ∈ l, NumC c) → validQ ⟨numQ n, false, [], false⟩ l = numF n l
  | [], n, hn, _ => num_end n hn
  | c :: l, n, hn, h => by
    rw [num_step n hn c l (h c (by simp)), numF]
    cases hm : numS n c with
    | none => rfl
    | some m => exact valid_num l m (numS_le hm) (fun x hx => h x (by simp [hx]))

/-- The rest behind the digits. -/
def dd (l : List Int) : List Int := l.dropWhile digB
def exN : List Int → Bool
  | [] => true
  | [_] => false
  | c :: d :: r => if c = 101 ∨ c = 69 then (if d = 43 ∨ d = 45 then (if r = [] then false else (dd r).isEmpty) else (dd (d :: r)).isEmpty) else false
def frN : List Int → Bool
  | c :: d :: r => if c = 46 ∧ digB d = true then exN (dd r) else exN (c :: d :: r)
  | l => exN l
def inN : List Int → Bool
  | [] => false
  | c :: r => if c = 48 then frN r else if 49 ≤ c ∧ c ≤ 57 then frN (dd r) else false
def isN (l : List Int) : Bool := match l with
  | [] => false
  | c :: r => if c = 45 then inN r else inN (c :: r)
theorem dd_cons (c : Int) (l : List Int) : dd (c :: l) = if digB c then dd l else c :: l := by unfold dd; rw [List.dropWhile_cons]
theorem num8 : ∀ l, numF 8 l = (dd l).isEmpty
  | [] => rfl
  | c :: l => by
    rw [dd_cons, numF]
    by_cases h : digB c = true
    · have : numS 8 c = some 8 := by simp [numS, h]
      rw [this, if_pos h]
      exact num8 l
    · have : numS 8 c = none := by simp [numS, h]
      rw [this, if_neg h]
      rfl
theorem num7 (l : List Int) : numF 7 l = if l = [] then false else (dd l).isEmpty := by
  cases l with
  | nil => rfl
  | cons c l =>
    rw [numF, if_neg (by simp), dd_cons]
    by_cases h : digB c = true
    · have : numS 7 c = some 8 := by simp [numS, h]
      rw [this, if_pos h]
      exact num8 l
    · have : numS 7 c = none := by simp [numS, h]
      rw [this, if_neg h]
      rfl
theorem exN_eq (e : Int) (he : e = 101 ∨ e = 69) (l : List Int) : exN (e :: l) = numF 6 l := by
  cases l with
  | nil => rfl
  | cons d r =>
    rw [exN, if_pos he, numF]
    by_cases h : d = 43 ∨ d = 45
    · have hd : digB d = false := by unfold digB; rcases h with rfl | rfl <;> rfl
      have : numS 6 d = some 7 := by simp [numS, h, hd]
      rw [if_pos h, this]
      exact (num7 r).symm
    · rw [if_neg h, dd_cons]
      by_cases hd : digB d = true
      · have : numS 6 d = some 8 := by simp [numS, h, hd]
        rw [this, if_pos hd]
        exact (num8 r).symm
      · have : numS 6 d = none := by simp [numS, h, hd]
        rw [this, if_neg hd]
        rfl
theorem exN_no (c : Int) (h : ¬ (c = 101 ∨ c = 69)) (l : List Int) : exN (c :: l) = false := by
  cases l with
  | nil => rfl
  | cons d r => rw [exN, if_neg h]
theorem num5 : ∀ l, numF 5 l = exN (dd l)
  | [] => rfl
  | c :: l => by
    rw [dd_cons, numF]
    by_cases h : digB c = true
    · have : numS 5 c = some 5 := by simp [numS, h]
      rw [this, if_pos h]
      exact num5 l
    · rw [if_neg h]
      by_cases he : c = 101 ∨ c = 69
      · have : numS 5 c = some 6 := by simp [numS, h, he]
        rw [this, exN_eq c he]
      · have : numS 5 c = none := by simp [numS, h, he]
        rw [this, exN_no c he]
theorem num2 (l : List Int) : numF 2 l = frN l := by
  match l with
  | [] => rfl
  | [c] =>
    show numF 2 [c] = exN [c]
    rw [numF]
    have : exN [c] = false := rfl
    rw [this]
    by_cases h46 : c = 46
    · subst h46; rfl
    · by_cases he : c = 101 ∨ c = 69
      · have : numS 2 c = some 6 := by simp [numS, h46, he]
        rw [this]; rfl
      · have : numS 2 c = none := by simp [numS, h46, he]
        rw [this]
  | c :: d :: r =>
    rw [frN, numF]
    by_cases h46 : c = 46
    · subst h46
      have : numS 2 46 = some 4 := rfl
      rw [this]
      show numF 4 (d :: r) = _
      rw [numF]
      by_cases hd : digB d = true
      · have : numS 4 d = some 5 := by simp [numS, hd]
        rw [this, if_pos ⟨rfl, hd⟩]
        exact num5 r
      · have : numS 4 d = none := by simp [numS, hd]
        rw [this, if_neg (fun h => hd h.2), exN_no 46 (by decide)]
    · rw [if_neg (fun h => h46 h.1)]
      by_cases he : c = 101 ∨ c = 69
      · have : numS 2 c = some 6 := by simp [numS, h46, he]
        rw [this, exN_eq c he]
      · have : numS 2 c = none := by simp [numS, h46, he]
        rw [this, exN_no c he]
theorem num3 : ∀ l, numF 3 l = frN (dd l)
  | [] => rfl
  | c :: l => by
    rw [dd_cons]
    by_cases h : digB c = true
    · have : numS 3 c = some 3 := by simp [numS, h]
      rw [numF, this, if_pos h]
      exact num3 l
    · rw [if_neg h, ← num2, numF, numF]
      have : numS 3 c = numS 2 c := by simp [numS, h]
      rw [this]
theorem numIn (n : Nat) (hn : n ≤ 1) (c : Int) (hc : ¬ (n = 0 ∧ c = 45)) (l : List Int) : numF n (c :: l) = inN (c :: l) := by
  rw [numF, inN]
  by_cases h0 : c = 48
  · subst h0
    have : numS n 48 = some 2 := by simp [numS, hn]
    rw [this, if_pos rfl]
    exact num2 l
  · rw [if_neg h0]
    by_cases h : 49 ≤ c ∧ c ≤ 57
    · have hd : digB c = true := digB_iff.2 ⟨by omega, h.2⟩
      have : numS n c = some 3 := by simp [numS, hn, hc, h0, hd]
      rw [this, if_pos h]
      exact num3 l
    · have hd : digB c = false := by
        cases hb : digB c
        · rfl
        · exact absurd (digB_iff.1 hb) (by omega)
      have : numS n c = none := by
        have a1 : ¬ n = 2 := by omega
        have a2 : ¬ n = 3 := by omega
        have a3 : ¬ n = 5 := by omega
        have a4 : ¬ n = 6 := by omega
        simp [numS, hn, hc, h0, hd, a1, a2, a3, a4]
      rw [this, if_neg h]
theorem isN_eq (l : List Int) : isN l = numF 0 l := by
  cases l with
  | nil => rfl
  | cons c r =>
    unfold isN
    by_cases h : c = 45
    · subst h
      show (if (45 : Int) = 45 then inN r else inN (45 :: r)) = numF 1 r
      rw [if_pos rfl]
      cases r with
      | nil => rfl
      | cons d r => exact (numIn 1 (by decide) d (fun h => (by cases h.1)) r).symm
    · show (if c = 45 then inN r else inN (c :: r)) = _
      rw [if_neg h]
      exact (numIn 0 (by decide) c (fun k => h k.2) r).symm
end
section
/- (Ev) every8: each byte of a text is one of some. -/
open Go.RowKit Go.Shelf

theorem bdN2 {w x : World} (h : Below w.heap.size w x) (n : Nat) : Below w.heap.size w (x.drewN n) := ⟨h.os, h.tape, h.output, h.size, h.block⟩
set_option maxRecDepth 100000 in
set_option maxHeartbeats 4000000 in
theorem every8_any (s u : ByteArray) (hs : s.size ≤ 9000) (hu : u.size ≤ 9000) (w : World) :
    Calls Tryz.prog 20 #[.string s, .string u] w fun e w' => e = .returned (.bool ((bl s).all fun c => (bl u).any (c == ·))) ∧ Below w.heap.size w w' := by
  obtain ⟨R, hR⟩ : ∃ R, ((bl s).all fun c => (bl u).any (c == ·)) = R := ⟨_, rfl⟩
  rw [hR]
  have hsI : (s.size : Int) ≤ 9000 := by omega
  have huI : (u.size : Int) ≤ 9000 := by omega
  have A0 : Aside ((((bl s).drop 0).all fun c => (bl u).any (c == ·)) = R) := hR
  clear hR
  go_enter Tryz.func20, Tryz.ntmps20
  go_wp2_with fail
  go_loopg [10] s.size (fun g i wr => ∃ k : Nat, i = .int .i64 k ∧ k ≤ s.size ∧ s.size - k ≤ g ∧ Below w.heap.size w wr ∧ Aside ((((bl s).drop k).all fun c => (bl u).any (c == ·)) = R))
  case atStart => exact ⟨0, rfl, Nat.zero_le _, by omega, Below.refl _ _, A0⟩
  case round =>
    clear A0
    obtain ⟨k, rfl, hk, hg, hb, A⟩ := hrel
    unfold Aside at A
    by_cases hlt : k < s.size
    case neg =>
      obtain rfl : k = s.size := by omega
      rw [List.drop_of_length_le (by rw [bl_len]; exact Nat.le_refl _)] at A
      obtain rfl : true = R := by rw [← A]; rfl
      clear A
      go_wp2_with fail
      all_goals go_ret
      exact ⟨rfl, hb⟩
    have hkI : (k : Int) < (s.size : Int) := by omega
    rw [bl_drop hlt, List.all_cons] at A
    obtain ⟨c, hc⟩ : ∃ c, (s[k].toNat : Int) = c := ⟨_, rfl⟩
    rw [hc] at A
    obtain ⟨F, hF⟩ : ∃ F, (bl u).any (c == ·) = F := ⟨_, rfl⟩
    rw [hF] at A
    have A0 : Aside ((false || ((bl u).drop 0).any (c == ·)) = F) := by rw [← hF]; rfl
    clear hF
    go_upto_block 2 with fail
    go_cut [6, 7, 15] from 16 to 28 (fun f x y wx => f = .bool F ∧ Below w.heap.size w wx)
    case first =>
      clear A
      go_wp2_with fail
      go_loopg [6, 15] u.size (fun g f j wx => ∃ (m : Nat) (b : Bool), j = .int .i64 m ∧ f = .bool b ∧ m ≤ u.size ∧ u.size - m ≤ g ∧ Below w.heap.size w wx ∧ Aside ((b || ((bl u).drop m).any (c == ·)) = F))
      case atStart => exact ⟨0, false, rfl, rfl, Nat.zero_le _, by omega, hb, A0⟩
      case round =>
        clear A0
        obtain ⟨m, b, rfl, rfl, hm, hg2, hb2, A⟩ := hrel
        unfold Aside at A
        by_cases hlt2 : m < u.size
        case neg =>
          obtain rfl : m = u.size := by omega
          rw [List.drop_of_length_le (by rw [bl_len]; exact Nat.le_refl _)] at A
          obtain rfl : b = F := by rw [← A]; simp
          clear A
          go_wp2_with fail
          go_meet
          exact ⟨rfl, hb2⟩
        have hmI : (m : Int) < (u.size : Int) := by omega
        rw [bl_drop hlt2, List.any_cons] at A
        cases b
        · obtain ⟨y, hy⟩ : ∃ y, (c == (u[m].toNat : Int)) = y := ⟨_, rfl⟩
          rw [hy] at A
          have A2 : Aside ((y || ((bl u).drop (m + 1)).any (c == ·)) = F) := by show _ = F; rw [← A]; simp
          rw [← hc] at hy
          clear A
          go_wp2_with fail
          go_quiet (fail)
          go_wp2_with fail
          go_roundg (gk - 1)
          case measure => omega
          case rel => exact ⟨m + 1, y, by go_num, by rw [← hy, hc], by omega, by omega, bdN2 hb2 _, A2⟩
        · have A2 : Aside ((true || ((bl u).drop (m + 1)).any (c == ·)) = F) := by show _ = F; rw [← A]; simp
          clear A
          go_wp2_with fail
          go_quiet (fail)
          go_wp2_with fail
          go_roundg (gk - 1)
          case measure => omega
          case rel => exact ⟨m + 1, true, by go_num, rfl, by omega, by omega, bdN2 hb2 _, A2⟩
    case rest =>
    clear A0 hb hc
    obtain ⟨rfl, hb⟩ := hcut
    cases F
    · obtain rfl : false = R := by rw [← A]; rfl
      clear A
      go_wp2_with fail
      all_goals go_ret
      exact ⟨rfl, hb⟩
    · have A2 : Aside ((((bl s).drop (k + 1)).all fun c => (bl u).any (c == ·)) = R) := by show _ = R; rw [← A]; simp
      clear A
      go_wp2_with fail
      go_roundg (gk - 1)
      case measure => omega
      case rel => exact ⟨k + 1, by go_num, by omega, by omega, hb, A2⟩
end
section
/- (Qf) safe8: none of the five characters stands in a text. -/
open Go.RowKit Go.Shelf

/-- Neither < > & nor a separator of lines stands here. -/
def SafeAt (g : ByteArray) (i : Nat) : Prop := bAt g i ≠ 60 ∧ bAt g i ≠ 62 ∧ bAt g i ≠ 38 ∧ ¬ (i + 2 < g.size ∧ bAt g i = 226 ∧ bAt g (i + 1) = 128 ∧ (bAt g (i + 2) = 168 ∨ bAt g (i + 2) = 169))
theorem three (g : ByteArray) (k : Nat) (h : k + 2 < g.size) (c : Int) (hc : ¬ (bAt g k = 226 ∧ bAt g (k + 1) = 128 ∧ bAt g (k + 2) = c)) (u : ByteArray) (hu : bl u = [226, 128, c]) : g.extract k (k + 3) ≠ u := by
  intro e
  apply hc
  have := congrArg bl e
  rw [bl_sub _ _ _ (by omega) (by omega), hu] at this
  simp only [sub, show k + 3 - k = 3 by omega, List.range_succ, List.range_zero, List.nil_append, List.cons_append, List.map_cons, List.map_nil, Nat.add_zero, List.cons.injEq, and_true] at this
  exact this
theorem toList_ne {a b : ByteArray} (h : a ≠ b) (l : List UInt8) (hl : b.toList = l) : ¬ a.toList = l ∧ (a.toList == l) = false := by
  subst hl
  have : ¬ a.toList = b.toList := ?_
  · exact ⟨this, by rw [beq_eq_false_iff_ne]; exact this⟩
  intro e
  apply h
  have e2 : a.data.toList = b.data.toList := by rwa [ByteArray.toList_eq, ByteArray.toList_eq] at e
  cases a; cases b
  simpa using e2
set_option maxRecDepth 100000 in
set_option maxHeartbeats 4000000 in
theorem safe8_any (g : ByteArray) (hg : g.size ≤ 9000) (hS : ∀ i, i < g.size → SafeAt g i) (w : World) :
    Calls Tryz.prog 8 #[.string g] w fun e w' => e = .returned (.bool true) ∧ Below w.heap.size w w' := by
  have hgI : (g.size : Int) ≤ 9000 := by omega
  have HS := Lib.hid hS
  clear hS
  go_enter Tryz.func8, Tryz.ntmps8
  go_wp2_with fail
  go_loopg [6] g.size (fun f i wr => ∃ k : Nat, i = .int .i64 k ∧ k ≤ g.size ∧ g.size - k ≤ f ∧ Below w.heap.size w wr)
  case atStart => exact ⟨0, rfl, Nat.zero_le _, by omega, Below.refl _ _⟩
  case round =>
    obtain ⟨k, rfl, hk, hf, hb⟩ := hrel
    by_cases hlt : k < g.size
    case neg =>
      obtain rfl : k = g.size := by omega
      go_wp2_with fail
      all_goals go_ret
      exact ⟨rfl, hb⟩
    have hkI : (k : Int) < (g.size : Int) := by omega
    obtain ⟨s1, s2, s3, s4⟩ := HS.out k hlt
    obtain ⟨t, ht⟩ : ∃ t, g.extract k (k + 1) = t := ⟨_, rfl⟩
    have hbt : bl t = [bAt g k] := by rw [← ht, bl_sub _ _ _ (by omega) (by omega), sub_one]
    have htz : t.size = 1 := by rw [← bl_len, hbt]; rfl
    have hev := every8_any t ⟨#[60, 62, 38]⟩ (by omega) (by decide) wr
    have hval : ((bl t).all fun c => (bl ⟨#[60, 62, 38]⟩).any (c == ·)) = false := by
      rw [hbt]
      have : bl ⟨#[60, 62, 38]⟩ = [60, 62, 38] := by decide
      rw [this]
      simp [s1, s2, s3]
    rw [hval] at hev
    have e1 : IntKind.i64.wrap ((k : Int) + 1) = (k : Int) + 1 := by rw [IntKind.wrap_i64]; omega
    by_cases h2 : k + 2 < g.size
    · have h2I : (k : Int) + 2 < (g.size : Int) := by omega
      obtain ⟨u, hu⟩ : ∃ u, g.extract k (k + 3) = u := ⟨_, rfl⟩
      obtain ⟨n1, m1⟩ := toList_ne (three g k h2 168 (fun e => s4 ⟨h2, e.1, e.2.1, .inl e.2.2⟩) ⟨#[226, 128, 168]⟩ (by decide)) [226, 128, 168] (by rw [ByteArray.toList_eq])
      obtain ⟨n2, m2⟩ := toList_ne (three g k h2 169 (fun e => s4 ⟨h2, e.1, e.2.1, .inr e.2.2⟩) ⟨#[226, 128, 169]⟩ (by decide)) [226, 128, 169] (by rw [ByteArray.toList_eq])
      rw [hu] at n1 n2 m1 m2
      clear s1 s2 s3 s4 hbt hval htz
      go_wp2_with (go_at_call 20; refine hev.mono ?_; rintro e w2 ⟨rfl, hb2⟩)
      go_roundg (gk - 1)
      case measure => omega
      case rel => exact ⟨k + 1, by go_num, by omega, by omega, Below.trans hb (hb2.mono hb.size)⟩
    · have h2I : (g.size : Int) ≤ (k : Int) + 2 := by omega
      clear s1 s2 s3 s4 hbt hval htz
      go_wp2_with (go_at_call 20; refine hev.mono ?_; rintro e w2 ⟨rfl, hb2⟩)
      go_roundg (gk - 1)
      case measure => omega
      case rel => exact ⟨k + 1, by go_num, by omega, by omega, Below.trans hb (hb2.mono hb.size)⟩
end
section
/- (Qd) An escaped text is safe. Plain mathematics. -/
open Go.RowKit

def BadH : List Int → Prop
  | [] => False
  | a :: t => Htm a ∨ (a = 226 ∧ t[0]? = some 128 ∧ (t[1]? = some 168 ∨ t[1]? = some 169))
theorem nb_cons {c : Int} {m : List Int} (h : ¬ BadH (c :: m)) (k : ∀ i, ¬ BadH (m.drop i)) : ∀ i, ¬ BadH ((c :: m).drop i)
  | 0 => h
  | i + 1 => k i
theorem nb_plain {c : Int} {m : List Int} (h : Pn c) (k : ∀ i, ¬ BadH (m.drop i)) : ∀ i, ¬ BadH ((c :: m).drop i) :=
  nb_cons (by unfold BadH Htm; unfold Pn at h; omega) k
/-- What an escaped text begins with. -/
theorem heL_head {l r : List Int} {c : Int} (h : heL l = c :: r) (hc : 128 ≤ c) (h2 : c ≠ 226) : ∃ t, l = c :: t ∧ r = heL t := by
  cases l with
  | nil => cases h
  | cons a t =>
    unfold heL at h
    rw [heS] at h
    split at h
    · simp at h; omega
    · rename_i h1
      split at h
      · simp at h; omega
      · injection h with e1 e2
        subst e1
        exact ⟨t, rfl, e2.symm⟩
theorem hxD_pn {n : Int} (h0 : 0 ≤ n) (h1 : n < 16) : Pn (hxD n) := by
  have := hxD_small h0 h1
  unfold Pn
  unfold hxD at *
  split <;> omega
theorem heL_safe : ∀ (n : Nat) (l : List Int), l.length ≤ n → By8 l → ∀ i, ¬ BadH ((heL l).drop i)
  | _, [], _, _, i => by rw [heL_nil]; simp [BadH]
  | 0, a :: t, h, _, _ => by simp at h
  | n + 1, a :: t, h, h8, i => by
    have ha := h8 a (.head _)
    have ht8 : By8 t := fun x hx => h8 x (.tail _ hx)
    have p92 : Pn 92 → True := fun _ => trivial
    by_cases h1 : Htm a
    · rw [heL_hit t h1]
      have ih := heL_safe n t (by simpa using h) ht8
      have k1 : Pn (hxD (a / 16)) := hxD_pn (by omega) (by omega)
      have k2 : Pn (hxD (a % 16)) := hxD_pn (by omega) (by omega)
      have q92 : ¬ BadH (92 :: ([117, 48, 48, hxD (a / 16), hxD (a % 16)] ++ heL t)) := by unfold BadH Htm; omega
      exact nb_cons q92 (nb_plain (by unfold Pn; decide) (nb_plain (by unfold Pn; decide) (nb_plain (by unfold Pn; decide) (nb_plain k1 (nb_plain k2 ih))))) i
    by_cases h2 : a = 226
    · subst h2
      by_cases h3 : t[0]? = some 128 ∧ (t[1]? = some 168 ∨ t[1]? = some 169)
      · obtain ⟨u, c, rfl, hc⟩ : ∃ u c, t = 128 :: c :: u ∧ (c = 168 ∨ c = 169) := by
          cases t with
          | nil => simp at h3
          | cons x t =>
            cases t with
            | nil => simp at h3
            | cons y u => simp at h3; exact ⟨u, y, by rw [h3.1], h3.2⟩
        rw [heL_sep u hc]
        have ih := heL_safe n u (by simp at h; omega) (fun x hx => ht8 x (.tail _ (.tail _ hx)))
        have k2 : Pn (hxD (c % 16)) := hxD_pn (by omega) (by omega)
        have q92 : ¬ BadH (92 :: ([117, 50, 48, 50, hxD (c % 16)] ++ heL u)) := by unfold BadH Htm; omega
        exact nb_cons q92 (nb_plain (by unfold Pn; decide) (nb_plain (by unfold Pn; decide) (nb_plain (by unfold Pn; decide) (nb_plain (by unfold Pn; decide) (nb_plain k2 ih))))) i
      · rw [heL_keep h3]
        have ih := heL_safe n t (by simpa using h) ht8
        refine nb_cons (fun hb => ?_) ih i
        unfold BadH at hb
        rcases hb with hb | ⟨_, b1, b2⟩
        · exact h1 hb
        · apply h3
          cases hl : heL t with
          | nil => rw [hl] at b1; simp at b1
          | cons x r =>
            rw [hl] at b1 b2
            obtain rfl : x = 128 := by simpa using b1
            obtain ⟨t', rfl, rfl⟩ := heL_head hl (by decide) (by decide)
            cases hl2 : heL t' with
            | nil => rw [hl2] at b2; simp at b2
            | cons y r2 =>
              rw [hl2] at b2
              have hy : y = 168 ∨ y = 169 := by simpa using b2
              obtain ⟨t2, rfl, rfl⟩ := heL_head hl2 (by omega) (by omega)
              simpa using hy
    · rw [heL_plain t h1 h2]
      have ih := heL_safe n t (by simpa using h) ht8
      exact nb_cons (by unfold BadH; rintro (hb | ⟨hb, _⟩); exact h1 hb; exact h2 hb) ih i
theorem safe_esc {s g : ByteArray} (hb : bl g = heL (bl s)) : ∀ i, i < g.size → SafeAt g i := by
  intro i hi
  have h := heL_safe (bl s).length (bl s) (Nat.le_refl _) (bl_by8 s) i
  rw [← hb] at h
  have hs : (bl g).drop i = sub g i g.size := by
    rw [← sub_all]
    apply List.ext_getElem?
    intro j
    rw [List.getElem?_drop, sub_get, sub_get]
    by_cases hj : i + j < g.size
    · rw [if_pos (by omega), if_pos (by omega), Nat.zero_add]
    · rw [if_neg (by omega), if_neg (by omega)]
  rw [hs, sub_cons g hi] at h
  unfold BadH at h
  refine ⟨fun e => h (.inl (.inl e)), fun e => h (.inl (.inr (.inl e))), fun e => h (.inl (.inr (.inr e))), fun ⟨h2, e1, e2, e3⟩ => h (.inr ⟨e1, ?_, ?_⟩)⟩
  · rw [sub_get, if_pos (by omega), Nat.add_zero, e2]
  · rw [sub_get, if_pos (by omega)]
    rcases e3 with e3 | e3
    · left; rw [show i + 1 + 1 = i + 2 from rfl, e3]
    · right; rw [show i + 1 + 1 = i + 2 from rfl, e3]
end
end Go.Proofs.YtjbffgjclnjkoaaGreatDoor
