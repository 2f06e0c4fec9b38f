/- Joined texts: Na, Nb, Nt, Nq, Ns, Nh, Nl, Fa, Nk. -/
import Derived.Test.YtjbffgjclnjkoaaGreatDoorDw
import Derived.BigQuiet
import Derived.Deep.QuietTactic
import Derived.Deep.OwnRows
import Derived.Deep.AppendLies
namespace Go.Proofs.YtjbffgjclnjkoaaGreatDoor
set_option linter.unusedVariables false
set_option linter.unusedSimpArgs false
section
/- (Na) Natural numbers of the reference as rows of 32-bit digits: reading them; trim, Compare. -/
open Go.RowKit

/-- Digits of 32 bits. -/
def U32 (xs : List Int) : Prop := ∀ x ∈ xs, 0 ≤ x ∧ x < 4294967296
/-- A slice that holds these digits. -/
structure NtR (w : World) (v : Value) (xs : List Int) : Prop where
  u : U32 xs
  out : ∃ ao cap, v = .slice ao xs.length cap ∧ xs.length ≤ cap ∧ cap ≤ 9223372036854775807 ∧ ∀ i (h : i < xs.length), ∃ g, ao = some ⟨g, 0, none⟩ ∧ g < w.heap.size ∧ w.cell? ⟨g, i, none⟩ = some (.int .u32 xs[i])
theorem NtR.below {w w' : World} {v : Value} {xs : List Int} (h : NtR w v xs) (k : Below w.heap.size w w') : NtR w' v xs := by
  obtain ⟨u, ao, cap, h1, h2, h3, h4⟩ := h
  refine ⟨u, ao, cap, h1, h2, h3, fun i hi => ?_⟩
  obtain ⟨g, e1, e2, e3⟩ := h4 i hi
  exact ⟨g, e1, Nat.lt_of_lt_of_le e2 k.size, (World.cell?_of_block (k.block g e2)).trans e3⟩
theorem NtR.nil (w : World) : NtR w (.slice none 0 0) [] := ⟨fun x h => (by cases h), none, 0, rfl, Nat.le_refl _, by omega, fun i h => absurd h (Nat.not_lt_zero _)⟩
theorem NtR.take {w : World} {ao : Option Addr} {n cap : Nat} {xs : List Int} (h : NtR w (.slice ao n cap) xs) (k : Nat) (hk : k ≤ xs.length) : NtR w (.slice ao k cap) (xs.take k) := by
  obtain ⟨u, ao', cap', h1, h2, h3, h4⟩ := h
  injection h1 with e1 e2 e3
  subst e1 e3
  have hl : (xs.take k).length = k := by rw [List.length_take]; omega
  refine ⟨fun x hx => u x (List.mem_of_mem_take hx), ao, cap, by rw [hl], by omega, h3, fun i hi => ?_⟩
  obtain ⟨g, e1, e2, e3⟩ := h4 i (by omega)
  exact ⟨g, e1, e2, by rw [e3, List.getElem_take]⟩
/-- How many digits stay. -/
def trN (xs : List Int) : Nat → Nat
  | 0 => 0
  | k + 1 => if xs.getD k 0 = 0 then trN xs k else k + 1
theorem trN_le (xs : List Int) : ∀ k, trN xs k ≤ k
  | 0 => Nat.le_refl _
  | k + 1 => by
    rw [trN]
    split
    · exact Nat.le_trans (trN_le xs k) (Nat.le_succ _)
    · exact Nat.le_refl _
/-- Without the highest digits that are 0. -/
def trF (xs : List Int) : List Int := xs.take (trN xs xs.length)
set_option maxRecDepth 100000 in
theorem trim_own (v : Value) (xs : List Int) (w : World) (h : NtR w v xs) :
    Calls Tryz.prog 86 #[v] w fun e w' => ∃ v', e = .returned v' ∧ NtR w v' (trF xs) ∧ w' = w ∧ v'.ownBlock = v.ownBlock := by
  have hT := h
  obtain ⟨u, ao, cap, rfl, h2, h3, h4⟩ := h
  obtain ⟨n, hn⟩ : ∃ n, xs.length = n := ⟨_, rfl⟩
  have HC := Lib.hid h4
  have hnI : (n : Int) ≤ (cap : Int) := by omega
  have hcI : (cap : Int) ≤ 9223372036854775807 := by omega
  have H4 := Lib.hid (show NtR w (.slice ao n cap) xs from hn ▸ hT)
  have HN := Lib.hid hn
  rw [hn]
  clear h2 h3 h4 hT u hn
  have A0 : Aside (trN xs n = trN xs n) := rfl
  obtain ⟨R, hR⟩ : ∃ R, trN xs n = R := ⟨_, rfl⟩
  have A1 : Aside (trN xs n = R) := hR
  have HR := Lib.hid hR
  clear A0 hR
  go_enter Tryz.func86, Tryz.ntmps86
  go_wp2_with fail
  go_loopg [3] n (fun g i wr => ∃ k : Nat, i = .int .i64 k ∧ k ≤ n ∧ k ≤ g ∧ wr = w ∧ Aside (trN xs k = R))
  case atStart => exact ⟨n, rfl, Nat.le_refl _, Nat.le_refl _, rfl, A1⟩
  case round =>
    clear A1
    obtain ⟨k, rfl, hk, hg, hwr, A⟩ := hrel
    subst hwr
    have A1 : trN xs k = R := A
    rcases Nat.eq_zero_or_pos k with h0 | h0
    · subst h0
      have hR0 : R = 0 := by rw [← A1]; rfl
      have hz : (0 : Int) ≤ (cap : Int) := by omega
      go_wp2_with fail
      all_goals go_ret
      refine ⟨_, rfl, ?_, rfl, ?own⟩
      case own => first | rfl | (cases ao <;> rfl)
      unfold trF
      rw [HN.out, HR.out, hR0]
      exact H4.out.take 0 (Nat.zero_le _)
    · obtain ⟨j, rfl⟩ : ∃ j, k = j + 1 := ⟨k - 1, by omega⟩
      have hj : j < xs.length := by rw [HN.out]; omega
      obtain ⟨g0, rfl, g1, g2⟩ := HC.out j hj
      obtain ⟨x, hx⟩ : ∃ x, xs[j] = x := ⟨_, rfl⟩
      rw [hx] at g2
      have e1 : ((j : Int) + 1) - 1 = j := by omega
      have e2 : (0 : Int) < (j : Int) + 1 := by omega
      have e3 : (j : Int) < (n : Int) := by omega
      have e4 : (j : Int) + 1 ≤ (cap : Int) := by omega
      have hgd : xs.getD j 0 = x := by rw [List.getD_eq_getElem?_getD, List.getElem?_eq_getElem hj, hx]; rfl
      rw [trN, hgd] at A1
      by_cases hx0 : x = 0
      · rw [if_pos hx0] at A1
        have A2 : Aside (trN xs j = R) := A1
        subst hx0
        clear A1 hgd hx
        go_wp2_with fail
        go_roundg (gk - 1)
        case measure => omega
        case rel => exact ⟨j, by go_num, by omega, by omega, rfl, A2⟩
      · rw [if_neg hx0] at A1
        have d0 : (x == 0) = false := by simpa using hx0
        have H1 := Lib.hid A1
        clear A1 hx0 hgd hx
        go_wp2_with fail
        all_goals go_ret
        refine ⟨_, rfl, ?_, rfl, ?own⟩
        case own => first | rfl | (cases ao <;> rfl)
        unfold trF
        rw [HN.out, HR.out, ← H1.out]
        exact H4.out.take (j + 1) (by omega)
theorem trim_any (v : Value) (xs : List Int) (w : World) (h : NtR w v xs) :
    Calls Tryz.prog 86 #[v] w fun e w' => ∃ v', e = .returned v' ∧ NtR w v' (trF xs) ∧ w' = w :=
  (trim_own v xs w h).mono fun e w' ⟨v', h1, h2, h3, _⟩ => ⟨v', h1, h2, h3⟩
end
section
/- (Nb) Natural numbers of the reference: Compare. -/
open Go.RowKit

/-- The digits from the highest one on. -/
def cmL (xs ys : List Int) : Nat → Int
  | 0 => 0
  | k + 1 => if xs.getD k 0 < ys.getD k 0 then -1 else if ys.getD k 0 < xs.getD k 0 then 1 else cmL xs ys k
def cmF (xs ys : List Int) : Int := if xs.length = ys.length then cmL xs ys xs.length else if xs.length < ys.length then -1 else 1
theorem drew_below (w : World) (n : Nat) : Below w.heap.size w (w.drewN n) := ⟨rfl, rfl, rfl, Nat.le_refl _, fun _ _ => rfl⟩
set_option maxRecDepth 100000 in
set_option maxHeartbeats 2000000 in
theorem compare_any (v1 v2 : Value) (xs ys : List Int) (w : World) (h1 : NtR w v1 xs) (h2 : NtR w v2 ys) :
    Calls Tryz.prog 84 #[v1, v2] w fun e w' => e = .returned (.int .i64 (cmF xs ys)) ∧ Below w.heap.size w w' := by
  obtain ⟨u1, ao, ca, rfl, a2, a3, a4⟩ := h1
  obtain ⟨u2, bo, cb, rfl, b2, b3, b4⟩ := h2
  obtain ⟨n, hn⟩ : ∃ n, xs.length = n := ⟨_, rfl⟩
  obtain ⟨m, hm⟩ : ∃ m, ys.length = m := ⟨_, rfl⟩
  have HA := Lib.hid a4
  have HB := Lib.hid b4
  have haI : (n : Int) ≤ (ca : Int) := by omega
  have hbI : (m : Int) ≤ (cb : Int) := by omega
  have ha2 : (ca : Int) ≤ 9223372036854775807 := by omega
  have hb2 : (cb : Int) ≤ 9223372036854775807 := by omega
  unfold cmF
  rw [hn, hm]
  have HN := Lib.hid hn
  have HM := Lib.hid hm
  clear a2 a3 a4 b2 b3 b4 u1 u2 hn hm
  by_cases hnm : n = m
  · subst hnm
    have d0 : ((n : Int) != (n : Int)) = false := by simp
    rw [if_pos rfl]
    obtain ⟨R, hR⟩ : ∃ R, cmL xs ys n = R := ⟨_, rfl⟩
    rw [hR]
    have A0 : Aside (cmL xs ys n = R) := hR
    clear hR
    go_enter Tryz.func84, Tryz.ntmps84
    go_wp2_with fail
    go_loopg [5] n (fun g i wr => ∃ k : Nat, i = .int .i64 ((k : Int) - 1) ∧ k ≤ n ∧ k ≤ g ∧ Below w.heap.size w wr ∧ Aside (cmL xs ys k = R))
    case atStart => exact ⟨n, by go_num, Nat.le_refl _, Nat.le_refl _, Below.refl _ _, A0⟩
    case round =>
      clear A0
      obtain ⟨k, rfl, hk, hg, hb, A⟩ := hrel
      have A1 : cmL xs ys k = R := A
      rcases Nat.eq_zero_or_pos k with h0 | h0
      · subst h0
        have hR0 : Hid (R = 0) := Lib.hid (by rw [← A1]; rfl)
        clear A1 A
        have e0 : ((0 : Nat) : Int) - 1 = -1 := rfl
        rw [e0]
        go_wp2_with fail
        all_goals go_ret
        exact ⟨by rw [hR0.out]; rfl, hb⟩
      · obtain ⟨j, rfl⟩ : ∃ j, k = j + 1 := ⟨k - 1, by omega⟩
        have hj1 : j < xs.length := by rw [HN.out]; omega
        have hj2 : j < ys.length := by rw [HM.out]; omega
        obtain ⟨ga, rfl, ga1, ga2⟩ := HA.out j hj1
        obtain ⟨gb, rfl, gb1, gb2⟩ := HB.out j hj2
        obtain ⟨x, hx⟩ : ∃ x, xs[j] = x := ⟨_, rfl⟩
        obtain ⟨y, hy⟩ : ∃ y, ys[j] = y := ⟨_, rfl⟩
        rw [hx] at ga2
        rw [hy] at gb2
        have q1 : ∀ n, (wr.drewN n).cell? ⟨ga, j, none⟩ = some (.int .u32 x) := fun _ => (World.cell?_of_block (hb.block ga ga1)).trans ga2
        have q2 : ∀ n, (wr.drewN n).cell? ⟨gb, j, none⟩ = some (.int .u32 y) := fun _ => (World.cell?_of_block (hb.block gb gb1)).trans gb2
        have q3 : ∀ n m, ((wr.drewN n).drewN m).cell? ⟨ga, j, none⟩ = some (.int .u32 x) := fun _ _ => (World.cell?_of_block (hb.block ga ga1)).trans ga2
        have q4 : ∀ n m, ((wr.drewN n).drewN m).cell? ⟨gb, j, none⟩ = some (.int .u32 y) := fun _ _ => (World.cell?_of_block (hb.block gb gb1)).trans gb2
        have e0 : ((j + 1 : Nat) : Int) - 1 = j := by omega
        have e1 : (0 : Int) ≤ (j : Int) := by omega
        have e3 : (j : Int) < (n : Int) := by omega
        have hgx : xs.getD j 0 = x := by rw [List.getD_eq_getElem?_getD, List.getElem?_eq_getElem hj1, hx]; rfl
        have hgy : ys.getD j 0 = y := by rw [List.getD_eq_getElem?_getD, List.getElem?_eq_getElem hj2, hy]; rfl
        rw [cmL, hgx, hgy] at A1
        rw [e0]
        clear ga2 gb2 hgx hgy hx hy A e0
        by_cases hlt : x < y
        · rw [if_pos hlt] at A1
          have HR := Lib.hid A1
          clear A1
          go_wp2_with fail
          go_quiet (fail)
          go_wp2_with fail
          all_goals go_ret
          exact ⟨by rw [← HR.out]; rfl, ⟨hb.os, hb.tape, hb.output, hb.size, hb.block⟩⟩
        · rw [if_neg hlt] at A1
          have hle : y ≤ x := by omega
          clear hlt
          by_cases hgt : y < x
          · rw [if_pos hgt] at A1
            have HR := Lib.hid A1
            clear A1
            go_wp2_with fail
            go_quiet (fail)
            go_wp2_with fail
            go_quiet (fail)
            go_wp2_with fail
            all_goals go_ret
            exact ⟨by rw [← HR.out]; rfl, ⟨hb.os, hb.tape, hb.output, hb.size, hb.block⟩⟩
          · rw [if_neg hgt] at A1
            have hle2 : x ≤ y := by omega
            clear hgt
            have A2 : Aside (cmL xs ys j = R) := A1
            clear A1
            go_wp2_with fail
            go_quiet (fail)
            go_wp2_with fail
            go_quiet (fail)
            go_wp2_with fail
            go_roundg (gk - 1)
            case measure => omega
            case rel => exact ⟨j, by go_num, by omega, by omega, ⟨hb.os, hb.tape, hb.output, hb.size, hb.block⟩, A2⟩
  · have d0 : ((n : Int) != (m : Int)) = true := by simp; omega
    rw [if_neg hnm]
    by_cases hlt : n < m
    · rw [if_pos hlt]
      have e1 : (n : Int) < (m : Int) := by omega
      go_enter Tryz.func84, Tryz.ntmps84
      go_wp2_with fail
      all_goals go_ret
      exact ⟨rfl, Below.refl _ _⟩
    · rw [if_neg hlt]
      have e1 : ¬ (n : Int) < (m : Int) := by omega
      go_enter Tryz.func84, Tryz.ntmps84
      go_wp2_with fail
      all_goals go_ret
      exact ⟨rfl, Below.refl _ _⟩
end
section
/- (Nt) Natural numbers of the reference: Times. -/
open Go.RowKit

/-- Digits of a product, from the lowest one on. -/
def tmF (by' : Int) : List Int → Int → List Int
  | [], c => if 0 < c then [c] else []
  | x :: xs, c => (c + x * by') % 4294967296 :: tmF by' xs ((c + x * by') / 4294967296)
def uv (xs : List Int) : List Value := xs.map fun x => .int .u32 x
theorem infoW : (Tryz.prog.info? 134).map (fun i => (i.zero, i.size, i.bytes)) = some (some (.int .u32 0), 1, 4) := by kernel_rfl
theorem NtR.own {w : World} {B : Nat} {v : Value} {xs : List Int} (h : w.ownsRow B 134 1 v xs.length (uv xs)) (hu : U32 xs) : NtR w v xs := by
  refine ⟨hu, ?_⟩
  rcases h.2 with ⟨rfl, h0⟩ | ⟨g, cap, cur, e1, _⟩
  · exact ⟨none, 0, by rw [h0], by omega, by omega, fun i hi => absurd hi (by omega)⟩
  · subst e1
    have hl := own_len h
    refine ⟨_, _, rfl, hl.1, by omega, fun i hi => ⟨g, rfl, (h.lt g rfl).2, ?_⟩⟩
    rw [World.ownsRow.cellAt h i (by simp [uv]; exact hi)]
    simp [uv, List.getElem?_eq_getElem hi]
theorem u32_snoc {zs : List Int} (h : U32 zs) {d : Int} (h1 : 0 ≤ d) (h2 : d < 4294967296) : U32 (zs ++ [d]) := fun x hx => by
  rcases List.mem_append.1 hx with hx | hx
  · exact h x hx
  · obtain rfl := List.mem_singleton.1 hx; exact ⟨h1, h2⟩
set_option maxRecDepth 100000 in
set_option maxHeartbeats 2000000 in
theorem times_own (ao : Option Addr) (n cap : Nat) (xs : List Int) (y z : Int) (w : World) (h : NtR w (.slice ao n cap) xs) (hn : n ≤ 1000000000) (hy : 0 ≤ y ∧ y < 4294967296) (hz : 0 ≤ z ∧ z < 4294967296) :
    Calls Tryz.prog 82 #[.slice ao n cap, .int .u32 y, .int .u32 z] w fun e w' => ∃ v', e = .returned v' ∧ NtR w' v' (trF (tmF y xs z)) ∧ Below w.heap.size w w' ∧ ∀ g, v'.ownBlock = some g → w.heap.size ≤ g := by
  obtain ⟨j0, ji, jz0, jz1, jz2⟩ := info_parts infoW
  obtain ⟨T, hT⟩ : ∃ T, tmF y xs z = T := ⟨_, rfl⟩
  rw [hT]
  obtain ⟨u, ao', cap', e0, h2, h3, h4⟩ := id h
  injection e0 with e1 e2 e3
  subst e1 e3
  have HN := Lib.hid e2
  have HC := Lib.hid h4
  have HU := Lib.hid u
  have hnI : (n : Int) ≤ 1000000000 := by omega
  have hcI : (n : Int) ≤ (cap : Int) := by omega
  have hc2 : (cap : Int) ≤ 9223372036854775807 := by omega
  obtain ⟨hy0, hy1⟩ := hy
  obtain ⟨hz0, hz1⟩ := hz
  have A0 : Aside ([] ++ tmF y (xs.drop 0) z = T) := hT
  clear h2 h3 h4 u e2 h hT
  obtain ⟨B, hBw⟩ : ∃ B, B = w.heap.size := ⟨_, rfl⟩
  have R0 : (w.alloc (.cells #[] 134)).ownsRow B 134 1 (.slice (some ⟨w.heap.size, 0, none⟩) 0 0) 0 (uv []) := by
    have := World.ownsRow_lit (e := 134) (size := 1) w #[] 0 (Nat.le_refl _) (Nat.zero_le _) rfl
    exact own_keep this (by omega) fun _ _ => rfl
  have b0 : Below w.heap.size w (w.alloc (.cells #[] 134)) := bwY w _
  have S0 : B ≤ (w.alloc (.cells #[] 134)).heap.size := by simp; omega
  go_enter Tryz.func82, Tryz.ntmps82
  go_wp2_with fail
  go_loopg [7, 8, 9] (n + 2) (fun g o c i wr => ∃ (j m : Nat) (zs : List Int) (v' : Value) (q : Int), i = .int .i64 j ∧ c = .int .u64 q ∧ o = v' ∧ j ≤ n + 1 ∧ n + 2 - j ≤ g ∧ m ≤ j ∧ zs.length = m ∧ 0 ≤ q ∧ q < 4294967296 ∧ (n < j → q = 0) ∧ U32 zs ∧ wr.ownsRow B 134 1 v' m (uv zs) ∧ Below w.heap.size w wr ∧ B ≤ wr.heap.size ∧ Aside (zs ++ tmF y (xs.drop j) q = T))
  case atStart => exact ⟨0, 0, [], _, z, rfl, rfl, rfl, Nat.zero_le _, by omega, Nat.le_refl _, rfl, hz0, hz1, fun h => absurd h (by omega), fun x h => (by cases h), R0, b0, S0, A0⟩
  case round =>
    clear R0 b0 S0 A0
    obtain ⟨j, m, zs, v', q, rfl, rfl, hv', hj, hg, hm, hzl, hq0, hq1, hq2, hu, hrow, hbel, hBr, A⟩ := hrel
    obtain rfl := hv'.symm
    have A1 : zs ++ tmF y (xs.drop j) q = T := A
    have HU2 := Lib.hid hu
    have hvB : ∀ g, v'.ownBlock = some g → B ≤ g := fun g e => (hrow.lt g e).1
    by_cases hlt : j < n
    · have hjl : j < xs.length := by rw [← HN.out]; exact hlt
      obtain ⟨g0, rfl, g1, g2⟩ := HC.out j hjl
      obtain ⟨x, hx⟩ : ∃ x, xs[j] = x := ⟨_, rfl⟩
      rw [hx] at g2
      have hxr := HU.out x (hx ▸ List.getElem_mem hjl)
      have g3 : wr.cell? ⟨g0, j, none⟩ = some (.int .u32 x) := (World.cell?_of_block (hbel.block g0 g1)).trans g2
      rw [List.drop_eq_getElem_cons hjl, hx, tmF] at A1
      obtain ⟨p, hp⟩ : ∃ p, x * y = p := ⟨_, rfl⟩
      have hp0 : 0 ≤ p := by rw [← hp]; exact Int.mul_nonneg hxr.1 hy0
      have hp1 : p ≤ 4294967295 * 4294967295 := by rw [← hp]; exact Int.mul_le_mul (by omega) (by omega) hy0 (by decide)
      rw [hp] at A1
      have hjI : (j : Int) < (n : Int) := by omega
      have hx0 := hxr.1
      have hx1 := hxr.2
      obtain ⟨c2, hc2e⟩ : ∃ c2, q + p = c2 := ⟨_, rfl⟩
      rw [hc2e] at A1
      obtain ⟨d, hd⟩ : ∃ d, c2 % 4294967296 = d := ⟨_, rfl⟩
      obtain ⟨q2, hq2e⟩ : ∃ q2, c2 / 4294967296 = q2 := ⟨_, rfl⟩
      rw [hd, hq2e] at A1
      have f1 : IntKind.u64.wrap p = p := by rw [IntKind.wrap_u64]; omega
      have f2 : IntKind.u64.wrap c2 = c2 := by rw [IntKind.wrap_u64]; omega
      have f3 : IntKind.u32.wrap c2 = d := by rw [IntKind.wrap_u32]; omega
      have A2 : Aside ((zs ++ [d]) ++ tmF y (xs.drop (j + 1)) q2 = T) := by show _ = _; rw [← A1]; simp
      have hd0 : 0 ≤ d := by omega
      have hd1 : d < 4294967296 := by omega
      have hq20 : 0 ≤ q2 := by omega
      have hq21 : q2 < 4294967296 := by omega
      clear A1 A g2 hu
      have f4 : c2 / 4294967296 = q2 := hq2e
      go_wp2_with (at_builtin; refine wpList_append_own _ rfl (.tmp 37) (.tmp 40) 116 (by rfl) B 134 j0 (.int .u32 0) 1 4 Tryz.underlying116 ji jz0 jz1 jz2 rfl (by decide) _ m (uv zs) rfl (World.ownsRow.alloc hrow _) ⟨wr.heap.size, 0, none⟩ 1 1 [.int .u32 d] rfl rfl (cell_one_y _ _ _) (by intro u hu; simp at hu; subst hu; rfl) (by unfold maxLen; omega) (by omega) (by simp; omega) ?_; intro v3 w3 hrow3 hgr3 hgl3; clear hgl3; have hb3 := grown_bel hvB hgr3 hBr)
      have hrow3' : w3.ownsRow B 134 1 v3 (m + 1) (uv (zs ++ [d])) := by
        have := hrow3
        simpa [uv] using this
      go_roundg (gk - 1)
      case measure => omega
      case rel => exact ⟨j + 1, m + 1, zs ++ [d], v3, q2, by go_num, rfl, rfl, by omega, by omega, by omega, by simp [hzl], hq20, hq21, fun h => absurd h (by omega), u32_snoc HU2.out hd0 hd1, hrow3', hbel.trans (hb3.mono (by omega)), Nat.le_trans hBr hb3.size, A2⟩
    · have hdr : xs.drop j = [] := List.drop_of_length_le (by rw [← HN.out]; omega)
      rw [hdr, tmF] at A1
      by_cases hq : q = 0
      · subst hq
        rw [if_neg (by decide), List.append_nil] at A1
        have HT := Lib.hid A1
        have hjI : (n : Int) ≤ (j : Int) := by omega
        clear A1 A hdr hlt
        have htr := trim_own v' zs wr (NtR.own (by rw [hzl]; exact hrow) hu)
        go_wp2_with (go_at_call 86; refine htr.mono ?_; rintro e w4 ⟨v4, rfl, hv4, hw4, ho4⟩; obtain rfl := hw4.symm)
        all_goals go_ret
        exact ⟨_, rfl, HT.out ▸ hv4, hbel, fun g e => hBw ▸ hvB g (ho4 ▸ e)⟩
      · have hjn : j = n := by
          rcases Nat.lt_or_ge n j with h | h
          · exact absurd (hq2 h) hq
          · omega
        have hq3 : 0 < q := by omega
        rw [if_pos hq3] at A1
        have A2 : Aside ((zs ++ [q]) ++ tmF y (xs.drop (j + 1)) 0 = T) := by
          show _ = _
          rw [← A1, List.drop_of_length_le (by rw [← HN.out]; omega), tmF, if_neg (by decide), List.append_nil]
        have hjI : (n : Int) ≤ (j : Int) := by omega
        have f3 : IntKind.u32.wrap q = q := by rw [IntKind.wrap_u32]; omega
        have f4 : q / 4294967296 = 0 := by omega
        clear A1 A hdr hlt hq hu
        go_wp2_with (at_builtin; refine wpList_append_own _ rfl (.tmp 37) (.tmp 40) 116 (by rfl) B 134 j0 (.int .u32 0) 1 4 Tryz.underlying116 ji jz0 jz1 jz2 rfl (by decide) _ m (uv zs) rfl (World.ownsRow.alloc hrow _) ⟨wr.heap.size, 0, none⟩ 1 1 [.int .u32 q] rfl rfl (cell_one_y _ _ _) (by intro u hu; simp at hu; subst hu; rfl) (by unfold maxLen; omega) (by omega) (by simp; omega) ?_; intro v3 w3 hrow3 hgr3 hgl3; clear hgl3; have hb3 := grown_bel hvB hgr3 hBr)
        have hrow3' : w3.ownsRow B 134 1 v3 (m + 1) (uv (zs ++ [q])) := by
          have := hrow3
          simpa [uv] using this
        go_roundg (gk - 1)
        case measure => omega
        case rel => exact ⟨j + 1, m + 1, zs ++ [q], v3, 0, by go_num, rfl, rfl, by omega, by omega, by omega, by simp [hzl], by decide, by decide, fun _ => rfl, u32_snoc HU2.out hq0 hq1, hrow3', hbel.trans (hb3.mono (by omega)), Nat.le_trans hBr hb3.size, A2⟩
theorem times_any (ao : Option Addr) (n cap : Nat) (xs : List Int) (y z : Int) (w : World) (h : NtR w (.slice ao n cap) xs) (hn : n ≤ 1000000000) (hy : 0 ≤ y ∧ y < 4294967296) (hz : 0 ≤ z ∧ z < 4294967296) :
    Calls Tryz.prog 82 #[.slice ao n cap, .int .u32 y, .int .u32 z] w fun e w' => ∃ v', e = .returned v' ∧ NtR w' v' (trF (tmF y xs z)) ∧ Below w.heap.size w w' :=
  (times_own ao n cap xs y z w h hn hy hz).mono fun e w' ⟨v', h1, h2, h3, _⟩ => ⟨v', h1, h2, h3⟩
end
section
/- (Nq) Natural numbers of the reference: Add. Printed by gennq.py. -/
open Go.RowKit

/-- Digits of a sum, from the place j on; k of them, and the carry. -/
def adF (xs ys : List Int) : Nat → Nat → Int → List Int
  | 0, _, c => if 0 < c then [c] else []
  | k + 1, j, c => (c + xs.getD j 0 + ys.getD j 0) % 4294967296 :: adF xs ys k (j + 1) ((c + xs.getD j 0 + ys.getD j 0) / 4294967296)
def adS (xs ys : List Int) : List Int := trF (adF xs ys (max xs.length ys.length) 0 0)
set_option maxRecDepth 100000 in
set_option maxHeartbeats 4000000 in
theorem add_any (ao bo : Option Addr) (n1 cap1 n2 cap2 : Nat) (xs ys : List Int) (w : World) (h1 : NtR w (.slice ao n1 cap1) xs) (h2 : NtR w (.slice bo n2 cap2) ys) (hn1 : n1 ≤ 1000000000) (hn2 : n2 ≤ 1000000000) :
    Calls Tryz.prog 63 #[.slice ao n1 cap1, .slice bo n2 cap2] w fun e w' => ∃ v', e = .returned v' ∧ NtR w' v' (adS xs ys) ∧ Below w.heap.size w w' := by
  obtain ⟨j0, ji, jz0, jz1, jz2⟩ := info_parts infoW
  obtain ⟨N, hN⟩ : ∃ N, max xs.length ys.length = N := ⟨_, rfl⟩
  obtain ⟨T, hT⟩ : ∃ T, adF xs ys N 0 0 = T := ⟨_, rfl⟩
  unfold adS
  rw [hN, hT]
  obtain ⟨ux, ao', cx', e0, a2, a3, a4⟩ := id h1
  injection e0 with e1 e2 e3
  subst e1 e3
  obtain ⟨uy, bo', cy', e0, b2, b3, b4⟩ := id h2
  injection e0 with e1 e4 e3
  subst e1 e3
  have HN1 := Lib.hid e2
  have HN2 := Lib.hid e4
  have HX := Lib.hid a4
  have HY := Lib.hid b4
  have HUx := Lib.hid ux
  have HUy := Lib.hid uy
  have hN1 : n1 ≤ N := by omega
  have hN2 : n2 ≤ N := by omega
  have hN3 : N ≤ n1 ∨ N ≤ n2 := by omega
  have hnI1 : (n1 : Int) ≤ 1000000000 := by omega
  have hnI2 : (n2 : Int) ≤ 1000000000 := by omega
  have hcI1 : (n1 : Int) ≤ (cap1 : Int) := by omega
  have hcI2 : (n2 : Int) ≤ (cap2 : Int) := by omega
  have hcc1 : (cap1 : Int) ≤ 9223372036854775807 := by omega
  have hcc2 : (cap2 : Int) ≤ 9223372036854775807 := by omega
  have A0 : Aside ([] ++ adF xs ys (N - 0) 0 0 = T) := hT
  clear a2 a3 a4 b2 b3 b4 ux uy e2 e4 h1 h2 hT hN
  obtain ⟨B, hBw⟩ : ∃ B, B = w.heap.size := ⟨_, rfl⟩
  have R0 : (w.alloc (.cells #[] 134)).ownsRow B 134 1 (.slice (some ⟨w.heap.size, 0, none⟩) 0 0) 0 (uv []) := by
    have := World.ownsRow_lit (e := 134) (size := 1) w #[] 0 (Nat.le_refl _) (Nat.zero_le _) rfl
    exact own_keep this (by omega) fun _ _ => rfl
  have b0 : Below w.heap.size w (w.alloc (.cells #[] 134)) := bwY w _
  have S0 : B ≤ (w.alloc (.cells #[] 134)).heap.size := by simp; omega
  go_enter Tryz.func63, Tryz.ntmps63
  go_wp2_with fail
  go_loopg [5, 6, 7] (N + 2) (fun g o c i wr => ∃ (j m : Nat) (zs : List Int) (v' : Value) (q : Int), i = .int .i64 j ∧ c = .int .u64 q ∧ o = v' ∧ j ≤ N + 1 ∧ N + 2 - j ≤ g ∧ m ≤ j ∧ zs.length = m ∧ 0 ≤ q ∧ q < 4294967296 ∧ (N < j → q = 0) ∧ U32 zs ∧ wr.ownsRow B 134 1 v' m (uv zs) ∧ Below w.heap.size w wr ∧ B ≤ wr.heap.size ∧ Aside (zs ++ adF xs ys (N - j) j q = T))
  case atStart => exact ⟨0, 0, [], _, 0, rfl, rfl, rfl, Nat.zero_le _, by omega, Nat.le_refl _, rfl, by decide, by decide, fun _ => rfl, fun x h => (by cases h), R0, b0, S0, A0⟩
  case round =>
    clear R0 b0 S0 A0
    obtain ⟨j, m, zs, v', q, rfl, rfl, hv', hj, hg, hm, hzl, hq0, hq1, hq2, hu, hrow, hbel, hBr, A⟩ := hrel
    obtain rfl := hv'.symm
    have A1 : zs ++ adF xs ys (N - j) j q = T := A
    have HU2 := Lib.hid hu
    have hvB : ∀ g, v'.ownBlock = some g → B ≤ g := fun g e => (hrow.lt g e).1
    by_cases hn1 : j < n1
    · by_cases hn2 : j < n2
      · have hlx : j < xs.length := by rw [← HN1.out]; exact hn1
        obtain ⟨gx, rfl, x1, x2⟩ := HX.out j hlx
        obtain ⟨x, hx⟩ : ∃ x, xs[j] = x := ⟨_, rfl⟩
        rw [hx] at x2
        have rx := HUx.out x (hx ▸ List.getElem_mem hlx)
        have cx : wr.cell? ⟨gx, j, none⟩ = some (.int .u32 x) := (World.cell?_of_block (hbel.block gx x1)).trans x2
        have dx : xs.getD j 0 = x := by rw [List.getD_eq_getElem?_getD, List.getElem?_eq_getElem hlx, hx]; rfl
        have ix : (j : Int) < (n1 : Int) := by omega
        have px := rx.1
        have qx := rx.2
        clear x2
        have hly : j < ys.length := by rw [← HN2.out]; exact hn2
        obtain ⟨gy, rfl, y1, y2⟩ := HY.out j hly
        obtain ⟨y, hy⟩ : ∃ y, ys[j] = y := ⟨_, rfl⟩
        rw [hy] at y2
        have ry := HUy.out y (hy ▸ List.getElem_mem hly)
        have cy : wr.cell? ⟨gy, j, none⟩ = some (.int .u32 y) := (World.cell?_of_block (hbel.block gy y1)).trans y2
        have dy : ys.getD j 0 = y := by rw [List.getD_eq_getElem?_getD, List.getElem?_eq_getElem hly, hy]; rfl
        have iy : (j : Int) < (n2 : Int) := by omega
        have py := ry.1
        have qy := ry.2
        clear y2
        have hk : N - j = (N - (j + 1)) + 1 := by omega
        rw [hk, adF, dx, dy] at A1
        obtain ⟨s1, hs1⟩ : ∃ s1, q + x = s1 := ⟨_, rfl⟩
        obtain ⟨s2, hs2⟩ : ∃ s2, s1 + y = s2 := ⟨_, rfl⟩
        rw [hs1, hs2] at A1
        obtain ⟨d, hd⟩ : ∃ d, s2 % 4294967296 = d := ⟨_, rfl⟩
        obtain ⟨q2, hq2e⟩ : ∃ q2, s2 / 4294967296 = q2 := ⟨_, rfl⟩
        rw [hd, hq2e] at A1
        have f1 : IntKind.u64.wrap s1 = s1 := by rw [IntKind.wrap_u64]; omega
        have f2 : IntKind.u64.wrap s2 = s2 := by rw [IntKind.wrap_u64]; omega
        have f3 : IntKind.u32.wrap s2 = d := by rw [IntKind.wrap_u32]; omega
        have A2 : Aside ((zs ++ [d]) ++ adF xs ys (N - (j + 1)) (j + 1) q2 = T) := by show _ = _; rw [← A1]; simp
        have hd0 : 0 ≤ d := by omega
        have hd1 : d < 4294967296 := by omega
        have hq20 : 0 ≤ q2 := by omega
        have hq21 : q2 < 4294967296 := by omega
        clear A1 A hu
        go_wp2_with (at_builtin; refine wpList_append_own _ rfl (.tmp 47) (.tmp 50) 116 (by rfl) B 134 j0 (.int .u32 0) 1 4 Tryz.underlying116 ji jz0 jz1 jz2 rfl (by decide) _ m (uv zs) rfl (World.ownsRow.alloc hrow _) ⟨wr.heap.size, 0, none⟩ 1 1 [.int .u32 d] rfl rfl (cell_one_y _ _ _) (by intro u hu; simp at hu; subst hu; rfl) (by unfold maxLen; omega) (by omega) (by simp; omega) ?_; intro v3 w3 hrow3 hgr3 hgl3; clear hgl3; have hb3 := grown_bel hvB hgr3 hBr)
        have hrow3' : w3.ownsRow B 134 1 v3 (m + 1) (uv (zs ++ [d])) := by
          have := hrow3
          simpa [uv] using this
        go_roundg (gk - 1)
        case measure => omega
        case rel => exact ⟨j + 1, m + 1, zs ++ [d], v3, q2, by go_num, rfl, rfl, by omega, by omega, by omega, by simp [hzl], hq20, hq21, fun h => absurd h (by omega), u32_snoc HU2.out hd0 hd1, hrow3', hbel.trans (hb3.mono (by omega)), Nat.le_trans hBr hb3.size, A2⟩
      · have hlx : j < xs.length := by rw [← HN1.out]; exact hn1
        obtain ⟨gx, rfl, x1, x2⟩ := HX.out j hlx
        obtain ⟨x, hx⟩ : ∃ x, xs[j] = x := ⟨_, rfl⟩
        rw [hx] at x2
        have rx := HUx.out x (hx ▸ List.getElem_mem hlx)
        have cx : wr.cell? ⟨gx, j, none⟩ = some (.int .u32 x) := (World.cell?_of_block (hbel.block gx x1)).trans x2
        have dx : xs.getD j 0 = x := by rw [List.getD_eq_getElem?_getD, List.getElem?_eq_getElem hlx, hx]; rfl
        have ix : (j : Int) < (n1 : Int) := by omega
        have px := rx.1
        have qx := rx.2
        clear x2
        have dy : ys.getD j 0 = 0 := by rw [List.getD_eq_getElem?_getD, List.getElem?_eq_none (by rw [← HN2.out]; omega)]; rfl
        have iy : (n2 : Int) ≤ (j : Int) := by omega
        have hk : N - j = (N - (j + 1)) + 1 := by omega
        rw [hk, adF, dx, dy] at A1
        obtain ⟨s1, hs1⟩ : ∃ s1, q + x = s1 := ⟨_, rfl⟩
        obtain ⟨s2, hs2⟩ : ∃ s2, s1 = s2 := ⟨_, rfl⟩
        rw [hs1, Int.add_zero, hs2] at A1
        obtain ⟨d, hd⟩ : ∃ d, s2 % 4294967296 = d := ⟨_, rfl⟩
        obtain ⟨q2, hq2e⟩ : ∃ q2, s2 / 4294967296 = q2 := ⟨_, rfl⟩
        rw [hd, hq2e] at A1
        have f1 : IntKind.u64.wrap s1 = s1 := by rw [IntKind.wrap_u64]; omega
        have f2 : IntKind.u64.wrap s2 = s2 := by rw [IntKind.wrap_u64]; omega
        have f3 : IntKind.u32.wrap s2 = d := by rw [IntKind.wrap_u32]; omega
        have A2 : Aside ((zs ++ [d]) ++ adF xs ys (N - (j + 1)) (j + 1) q2 = T) := by show _ = _; rw [← A1]; simp
        have hd0 : 0 ≤ d := by omega
        have hd1 : d < 4294967296 := by omega
        have hq20 : 0 ≤ q2 := by omega
        have hq21 : q2 < 4294967296 := by omega
        clear A1 A hu
        go_wp2_with (at_builtin; refine wpList_append_own _ rfl (.tmp 47) (.tmp 50) 116 (by rfl) B 134 j0 (.int .u32 0) 1 4 Tryz.underlying116 ji jz0 jz1 jz2 rfl (by decide) _ m (uv zs) rfl (World.ownsRow.alloc hrow _) ⟨wr.heap.size, 0, none⟩ 1 1 [.int .u32 d] rfl rfl (cell_one_y _ _ _) (by intro u hu; simp at hu; subst hu; rfl) (by unfold maxLen; omega) (by omega) (by simp; omega) ?_; intro v3 w3 hrow3 hgr3 hgl3; clear hgl3; have hb3 := grown_bel hvB hgr3 hBr)
        have hrow3' : w3.ownsRow B 134 1 v3 (m + 1) (uv (zs ++ [d])) := by
          have := hrow3
          simpa [uv] using this
        go_roundg (gk - 1)
        case measure => omega
        case rel => exact ⟨j + 1, m + 1, zs ++ [d], v3, q2, by go_num, rfl, rfl, by omega, by omega, by omega, by simp [hzl], hq20, hq21, fun h => absurd h (by omega), u32_snoc HU2.out hd0 hd1, hrow3', hbel.trans (hb3.mono (by omega)), Nat.le_trans hBr hb3.size, A2⟩
    · by_cases hn2 : j < n2
      · have dx : xs.getD j 0 = 0 := by rw [List.getD_eq_getElem?_getD, List.getElem?_eq_none (by rw [← HN1.out]; omega)]; rfl
        have ix : (n1 : Int) ≤ (j : Int) := by omega
        have hly : j < ys.length := by rw [← HN2.out]; exact hn2
        obtain ⟨gy, rfl, y1, y2⟩ := HY.out j hly
        obtain ⟨y, hy⟩ : ∃ y, ys[j] = y := ⟨_, rfl⟩
        rw [hy] at y2
        have ry := HUy.out y (hy ▸ List.getElem_mem hly)
        have cy : wr.cell? ⟨gy, j, none⟩ = some (.int .u32 y) := (World.cell?_of_block (hbel.block gy y1)).trans y2
        have dy : ys.getD j 0 = y := by rw [List.getD_eq_getElem?_getD, List.getElem?_eq_getElem hly, hy]; rfl
        have iy : (j : Int) < (n2 : Int) := by omega
        have py := ry.1
        have qy := ry.2
        clear y2
        have hk : N - j = (N - (j + 1)) + 1 := by omega
        rw [hk, adF, dx, dy] at A1
        obtain ⟨s1, hs1⟩ : ∃ s1, q = s1 := ⟨_, rfl⟩
        obtain ⟨s2, hs2⟩ : ∃ s2, s1 + y = s2 := ⟨_, rfl⟩
        rw [Int.add_zero, hs1, hs2] at A1
        subst hs1
        obtain ⟨d, hd⟩ : ∃ d, s2 % 4294967296 = d := ⟨_, rfl⟩
        obtain ⟨q2, hq2e⟩ : ∃ q2, s2 / 4294967296 = q2 := ⟨_, rfl⟩
        rw [hd, hq2e] at A1
        have f1 : IntKind.u64.wrap q = q := by rw [IntKind.wrap_u64]; omega
        have f2 : IntKind.u64.wrap s2 = s2 := by rw [IntKind.wrap_u64]; omega
        have f3 : IntKind.u32.wrap s2 = d := by rw [IntKind.wrap_u32]; omega
        have A2 : Aside ((zs ++ [d]) ++ adF xs ys (N - (j + 1)) (j + 1) q2 = T) := by show _ = _; rw [← A1]; simp
        have hd0 : 0 ≤ d := by omega
        have hd1 : d < 4294967296 := by omega
        have hq20 : 0 ≤ q2 := by omega
        have hq21 : q2 < 4294967296 := by omega
        clear A1 A hu
        go_wp2_with (at_builtin; refine wpList_append_own _ rfl (.tmp 47) (.tmp 50) 116 (by rfl) B 134 j0 (.int .u32 0) 1 4 Tryz.underlying116 ji jz0 jz1 jz2 rfl (by decide) _ m (uv zs) rfl (World.ownsRow.alloc hrow _) ⟨wr.heap.size, 0, none⟩ 1 1 [.int .u32 d] rfl rfl (cell_one_y _ _ _) (by intro u hu; simp at hu; subst hu; rfl) (by unfold maxLen; omega) (by omega) (by simp; omega) ?_; intro v3 w3 hrow3 hgr3 hgl3; clear hgl3; have hb3 := grown_bel hvB hgr3 hBr)
        have hrow3' : w3.ownsRow B 134 1 v3 (m + 1) (uv (zs ++ [d])) := by
          have := hrow3
          simpa [uv] using this
        go_roundg (gk - 1)
        case measure => omega
        case rel => exact ⟨j + 1, m + 1, zs ++ [d], v3, q2, by go_num, rfl, rfl, by omega, by omega, by omega, by simp [hzl], hq20, hq21, fun h => absurd h (by omega), u32_snoc HU2.out hd0 hd1, hrow3', hbel.trans (hb3.mono (by omega)), Nat.le_trans hBr hb3.size, A2⟩
      · have ix : (n1 : Int) ≤ (j : Int) := by omega
        have iy : (n2 : Int) ≤ (j : Int) := by omega
        have hz : N - j = 0 := by omega
        rw [hz, adF] at A1
        by_cases hq : q = 0
        · subst hq
          rw [if_neg (by decide), List.append_nil] at A1
          have HT := Lib.hid A1
          clear A1 A
          have htr := trim_any v' zs wr (NtR.own (by rw [hzl]; exact hrow) hu)
          go_wp2_with (go_at_call 86; refine htr.mono ?_; rintro e w4 ⟨v4, rfl, hv4, hw4⟩; obtain rfl := hw4.symm)
          all_goals go_ret
          exact ⟨_, rfl, HT.out ▸ hv4, hbel⟩
        · have hjn : j = N := by
            rcases Nat.lt_or_ge N j with h | h
            · exact absurd (hq2 h) hq
            · omega
          have hq3 : 0 < q := by omega
          rw [if_pos hq3] at A1
          have A2 : Aside ((zs ++ [q]) ++ adF xs ys (N - (j + 1)) (j + 1) 0 = T) := by
            show _ = _
            rw [← A1, show N - (j + 1) = 0 by omega, adF, if_neg (by decide), List.append_nil]
          have f3 : IntKind.u32.wrap q = q := by rw [IntKind.wrap_u32]; omega
          have f4 : q / 4294967296 = 0 := by omega
          clear A1 A hq hu
          go_wp2_with (at_builtin; refine wpList_append_own _ rfl (.tmp 47) (.tmp 50) 116 (by rfl) B 134 j0 (.int .u32 0) 1 4 Tryz.underlying116 ji jz0 jz1 jz2 rfl (by decide) _ m (uv zs) rfl (World.ownsRow.alloc hrow _) ⟨wr.heap.size, 0, none⟩ 1 1 [.int .u32 q] rfl rfl (cell_one_y _ _ _) (by intro u hu; simp at hu; subst hu; rfl) (by unfold maxLen; omega) (by omega) (by simp; omega) ?_; intro v3 w3 hrow3 hgr3 hgl3; clear hgl3; have hb3 := grown_bel hvB hgr3 hBr)
          have hrow3' : w3.ownsRow B 134 1 v3 (m + 1) (uv (zs ++ [q])) := by
            have := hrow3
            simpa [uv] using this
          go_roundg (gk - 1)
          case measure => omega
          case rel => exact ⟨j + 1, m + 1, zs ++ [q], v3, 0, by go_num, rfl, rfl, by omega, by omega, by omega, by simp [hzl], by decide, by decide, fun _ => rfl, u32_snoc HU2.out hq0 hq1, hrow3', hbel.trans (hb3.mono (by omega)), Nat.le_trans hBr hb3.size, A2⟩
end
section
/- (Ns) Natural numbers of the reference: NatOf, Tens. -/
open Go.RowKit

theorem tmF_len (y : Int) : ∀ (xs : List Int) (c : Int), (tmF y xs c).length ≤ xs.length + 1
  | [], c => by rw [tmF]; split <;> simp
  | x :: xs, c => by rw [tmF]; simp; exact tmF_len y xs _
theorem trF_len (xs : List Int) : (trF xs).length ≤ xs.length := by
  unfold trF
  rw [List.length_take]
  omega
theorem NtR.form {w : World} {v : Value} {xs : List Int} (h : NtR w v xs) : ∃ ao cap, v = .slice ao xs.length cap := by
  obtain ⟨_, ao, cap, h, _⟩ := h
  exact ⟨ao, cap, h⟩
/-- Times a power of 10. -/
def teF : Nat → List Int → List Int
  | 0, xs => xs
  | k + 1, xs => teF k (trF (tmF 10 xs 0))
set_option maxRecDepth 100000 in
set_option maxHeartbeats 2000000 in
theorem tens_any (v : Value) (xs : List Int) (t : Nat) (w : World) (h : NtR w v xs) (hn : xs.length + t ≤ 1000000000) :
    Calls Tryz.prog 85 #[v, .int .i64 t] w fun e w' => ∃ v', e = .returned v' ∧ NtR w' v' (teF t xs) ∧ Below w.heap.size w w' := by
  obtain ⟨T, hT⟩ : ∃ T, teF t xs = T := ⟨_, rfl⟩
  rw [hT]
  have A0 : Aside (teF (t - 0) xs = T) := hT
  have htI : (t : Int) ≤ 1000000000 := by omega
  clear hT
  go_enter Tryz.func85, Tryz.ntmps85
  go_wp2_with fail
  go_loopg [0, 6] (t + 1) (fun g x i wr => ∃ (k : Nat) (ys : List Int) (v' : Value), i = .int .i64 k ∧ x = v' ∧ k ≤ t ∧ t + 1 - k ≤ g ∧ ys.length + (t - k) ≤ 1000000000 ∧ NtR wr v' ys ∧ Below w.heap.size w wr ∧ Aside (teF (t - k) ys = T))
  case atStart => exact ⟨0, xs, v, rfl, rfl, Nat.zero_le _, by omega, by omega, h, Below.refl _ _, A0⟩
  case round =>
    clear A0
    obtain ⟨k, ys, v', rfl, hv', hk, hg, hl, hy, hb, A⟩ := hrel
    obtain rfl := hv'.symm
    have A1 : teF (t - k) ys = T := A
    by_cases hlt : k < t
    · have e1 : t - k = (t - (k + 1)) + 1 := by omega
      rw [e1, teF] at A1
      have A2 : Aside (teF (t - (k + 1)) (trF (tmF 10 ys 0)) = T) := A1
      have hkI : (k : Int) < (t : Int) := by omega
      have hl2 := Nat.le_trans (trF_len (tmF 10 ys 0)) (tmF_len 10 ys 0)
      obtain ⟨ao, cap, rfl⟩ := hy.form
      have ht := times_any ao ys.length cap ys 10 0 wr hy (by omega) (by decide) (by decide)
      generalize hz : trF (tmF 10 ys 0) = zs at A2 hl2 ht
      clear A1 A hz
      go_wp2_with (go_at_call 82; refine ht.mono ?_; rintro e w4 ⟨v4, rfl, hv4, hb4⟩)
      go_roundg (gk - 1)
      case measure => omega
      case rel => exact ⟨k + 1, zs, v4, by go_num, rfl, by omega, by omega, by omega, hv4, bwY2 hb hb4, A2⟩
    · have e1 : t - k = 0 := by omega
      rw [e1, teF] at A1
      have HT := Lib.hid A1
      have hkI : (t : Int) ≤ (k : Int) := by omega
      clear A1 A hlt
      go_wp2_with fail
      all_goals go_ret
      exact ⟨_, rfl, HT.out ▸ hy, hb⟩
/-- A small number. -/
def noF (q : Int) : List Int := trF [q % 4294967296, q / 4294967296]
theorem natOf_any (q : Int) (w : World) (h0 : 0 ≤ q) (h1 : q < 18446744073709551616) :
    Calls Tryz.prog 87 #[.int .u64 q] w fun e w' => ∃ v', e = .returned v' ∧ NtR w' v' (noF q) ∧ Below w.heap.size w w' := by
  obtain ⟨a, ha⟩ : ∃ a, q % 4294967296 = a := ⟨_, rfl⟩
  obtain ⟨b, hb⟩ : ∃ b, q / 4294967296 = b := ⟨_, rfl⟩
  have f1 : IntKind.u32.wrap q = a := by rw [IntKind.wrap_u32]; omega
  have f2 : q / 4294967296 = b := hb
  have f3 : IntKind.u32.wrap b = b := by rw [IntKind.wrap_u32]; omega
  have hN : NtR (w.alloc (.cells #[.int .u32 a, .int .u32 b] 134)) (.slice (some ⟨w.heap.size, 0, none⟩) 2 2) [a, b] := by
    refine ⟨fun x hx => ?_, _, 2, rfl, by simp, by omega, fun i hi => ⟨w.heap.size, rfl, by simp, ?_⟩⟩
    · simp at hx
      rcases hx with rfl | rfl <;> omega
    · have h := heap_alloc_new w (.cells #[.int .u32 a, .int .u32 b] 134)
      have hi2 : i = 0 ∨ i = 1 := by simp at hi; omega
      rcases hi2 with rfl | rfl <;> (simp only [World.cell?, h]; rfl)
  have ht := trim_any _ _ _ hN
  have hR : noF q = trF [a, b] := by unfold noF; rw [ha, hb]
  rw [hR]
  clear hb ha hR hN
  go_enter Tryz.func87, Tryz.ntmps87
  go_wp2_with (go_at_call 86; refine ht.mono ?_; rintro e w4 ⟨v4, rfl, hv4, rfl⟩)
  all_goals go_ret
  exact ⟨_, rfl, hv4, bwY w _⟩
end
section
/- (Nh) Natural numbers of the reference: Shifted. -/
open Go.RowKit

/-- What an append to a row leaves, seen from the world ahead of the laid element. -/
theorem kid_grownN {w5 w7 : World} {o : Obj} {v : Value} {g : Nat} (hg : (w5.alloc o).grownBy w7 v.ownBlock) (hat : v.ownBlock = some g ∨ g = (w5.alloc o).heap.size) :
    (∀ g', g' < w5.heap.size → v.ownBlock ≠ some g' → w7.heap[g']? = w5.heap[g']?) ∧ w5.heap.size ≤ w7.heap.size ∧ (v.ownBlock = some g ∨ w5.heap.size ≤ g) := by
  refine ⟨fun g' h1 h2 => (hg.block g' (by simp; omega) (fun e => h2 e.symm)).trans (Below.heap_alloc _ _ _ h1), ?_, ?_⟩
  · have := hg.size
    simp at this
    omega
  · rcases hat with h | h
    · exact .inl h
    · right
      rw [h]
      simp
theorem trF_mem {xs : List Int} (h : U32 xs) : U32 (trF xs) := fun x hx => h x (List.mem_of_mem_take hx)
/-- Times a power of 2. -/
def shF (t : Nat) (xs : List Int) : List Int := trF (List.replicate (t / 32) 0 ++ trF (tmF (2 ^ (t % 32) % 4294967296) xs 0))
theorem uv_len (xs : List Int) : (uv xs).length = xs.length := by simp [uv]
set_option maxRecDepth 100000 in
set_option maxHeartbeats 2000000 in
theorem shifted_any (v : Value) (xs : List Int) (t : Nat) (w : World) (h : NtR w v xs) (hn : xs.length ≤ 1000000) (ht : t ≤ 100000) :
    Calls Tryz.prog 61 #[v, .int .i64 t] w fun e w' => ∃ v', e = .returned v' ∧ NtR w' v' (shF t xs) ∧ Below w.heap.size w w' := by
  obtain ⟨j0, ji, jz0, jz1, jz2⟩ := info_parts infoW
  unfold shF
  obtain ⟨k, hk⟩ : ∃ k : Nat, t / 32 = k := ⟨_, rfl⟩
  obtain ⟨r, hr⟩ : ∃ r : Nat, t % 32 = r := ⟨_, rfl⟩
  rw [hk, hr]
  have htI : (t : Int) ≤ 100000 := by omega
  have e1 : (t : Int).tdiv 32 = (k : Int) := by rw [Int.tdiv_eq_ediv_of_nonneg (by omega)]; omega
  have e2 : (t : Int).tmod 32 = (r : Int) := by rw [Int.tmod_eq_emod_of_nonneg (by omega)]; omega
  have hkI : (k : Int) ≤ 3125 := by omega
  have hrI : (r : Int) < 32 := by omega
  have hmk : ∀ w : World, (Instr.makeSlice 116 (.int .i64 (k : Int)) (.int .i64 (k : Int))).run Tryz.prog w = .ok (.slice (some ⟨w.heap.size, 0, none⟩) k k) (w.alloc (.cells (madeCells #[.int .u32 0] k) 134)) := fun w =>
    run_make_row' (P := Tryz.prog) 116 134 (.int .u32 0) 4 Tryz.underlying116 infoW rfl .i64 .i64 k (by omega) (by omega) w
  obtain ⟨B, hBw⟩ : ∃ B, B = w.heap.size := ⟨_, rfl⟩
  have hmc : (madeCells #[.int .u32 0] k).toList = uv (List.replicate k 0) := by
    apply List.ext_getElem
    · simp [madeCells, uv]
    · intro i h1 h2
      simp [madeCells, uv, Nat.mod_one]
  have R0 : (w.alloc (.cells (madeCells #[.int .u32 0] k) 134)).ownsRow B 134 1 (.slice (some ⟨w.heap.size, 0, none⟩) k k) k (uv (List.replicate k 0)) := by
    have := World.ownsRow_lit (e := 134) (size := 1) w (madeCells #[.int .u32 0] k) k (Nat.le_refl _) (by unfold maxLen; omega) (by simp [madeCells])
    rw [hmc] at this
    exact own_keep this (by omega) fun _ _ => rfl
  have b0 : Below w.heap.size w (w.alloc (.cells (madeCells #[.int .u32 0] k) 134)) := bwY w _
  have h1 := h.below b0
  have S0 : B ≤ (w.alloc (.cells (madeCells #[.int .u32 0] k) 134)).heap.size := by simp; omega
  obtain ⟨ao, cap, rfl⟩ := h.form
  have hY0 : (0 : Int) ≤ 2 ^ r % 4294967296 ∧ (2 : Int) ^ r % 4294967296 < 4294967296 := ⟨by omega, by omega⟩
  have htm := times_own ao xs.length cap xs (2 ^ r % 4294967296) 0 _ h1 (by omega) hY0 (by decide)
  have hl2 := Nat.le_trans (trF_len (tmF (2 ^ r % 4294967296) xs 0)) (tmF_len _ xs 0)
  generalize trF (tmF (2 ^ r % 4294967296) xs 0) = ps at htm hl2 ⊢
  obtain ⟨T, hT⟩ : ∃ T, List.replicate k 0 ++ ps = T := ⟨_, rfl⟩
  rw [hT]
  have HT := Lib.hid hT
  clear hT hmc h h1
  go_enter Tryz.func61, Tryz.ntmps61
  go_wp2_with (go_at_call 82; refine htm.mono ?_; rintro e w2 ⟨v2, rfl, hv2, hb2, ho2⟩; obtain ⟨po, pc, rfl⟩ := hv2.form)
  have R2 := own_bel R0 (Nat.le_refl _) hb2
  have b2 := bwY2 b0 hb2
  have S2 := Nat.le_trans S0 hb2.size
  have HO := Lib.hid ho2
  clear ho2
  obtain ⟨n, hnl⟩ : ∃ n, ps.length = n := ⟨_, rfl⟩
  have hnI : (n : Int) ≤ 1000001 := by omega
  obtain ⟨up, po', pc', e0, p2, p3, p4⟩ := id hv2
  injection e0 with e3 e4 e5
  subst e3 e5
  have HP := Lib.hid p4
  have HNl := Lib.hid hnl
  have hcI : (n : Int) ≤ (pc : Int) := by omega
  have HUp := Lib.hid up
  rw [hnl]
  have A0 : Aside (List.replicate k 0 ++ ps.drop 0 = T) := HT.out
  have U0 : U32 (List.replicate k 0) := fun x hx => by rw [List.eq_of_mem_replicate hx]; decide
  clear p2 p4 e4 up hv2 R0 b0 S0 htm hmk
  go_loopg [5, 7, 17] n (fun g o d i wr => ∃ (j m : Nat) (zs : List Int) (v' : Value), i = .int .i64 j ∧ o = v' ∧ j ≤ n ∧ n - j ≤ g ∧ m = k + j ∧ zs.length = m ∧ U32 zs ∧ wr.ownsRow B 134 1 v' m (uv zs) ∧ Below w.heap.size w wr ∧ B ≤ wr.heap.size ∧ (∀ g, v'.ownBlock = some g → g = w.heap.size ∨ w2.heap.size ≤ g) ∧ w2.heap.size ≤ wr.heap.size ∧ (∀ g, w.heap.size < g → g < w2.heap.size → wr.heap[g]? = w2.heap[g]?) ∧ Aside (zs ++ ps.drop j = T))
  case atStart => exact ⟨0, k, _, _, rfl, rfl, Nat.zero_le _, by omega, rfl, by simp, U0, R2, b2, S2, fun g e => .inl (by simpa [Value.ownBlock] using e.symm), Nat.le_refl _, fun _ _ _ => rfl, A0⟩
  case round =>
    clear R2 b2 S2 A0 U0
    obtain ⟨j, m, zs, v', rfl, hv', hj, hg, hmk, hzl, hu, hrow, hbel, hBr, hvb, hws, hkeep, A⟩ := hrel
    obtain rfl := hv'.symm
    have A1 : zs ++ ps.drop j = T := A
    have HU2 := Lib.hid hu
    have hmI : (m : Int) ≤ 2000000 := by omega
    have HMK := Lib.hid hmk
    clear hmk
    have hvB : ∀ g, v'.ownBlock = some g → B ≤ g := fun g e => (hrow.lt g e).1
    by_cases hlt : j < n
    · have hjl : j < ps.length := by rw [HNl.out]; exact hlt
      obtain ⟨g0, rfl, g1, g2⟩ := HP.out j hjl
      have hge := HO.out g0 rfl
      simp at hge
      obtain ⟨x, hx⟩ : ∃ x, ps[j] = x := ⟨_, rfl⟩
      rw [hx] at g2
      have hxr := HUp.out x (hx ▸ List.getElem_mem hjl)
      have g3 : wr.cell? ⟨g0, j, none⟩ = some (.int .u32 x) := (World.cell?_of_block (hkeep g0 (by omega) g1)).trans g2
      rw [List.drop_eq_getElem_cons hjl, hx] at A1
      have A2 : Aside ((zs ++ [x]) ++ ps.drop (j + 1) = T) := by show _ = _; rw [← A1]; simp
      have hjI : (j : Int) < (n : Int) := by omega
      have hx0 := hxr.1
      have hx1 := hxr.2
      clear A1 A g2 hu hx
      go_wp2_with (at_builtin; refine wpList_append_lies _ rfl (.tmp 21) (.tmp 23) 116 (by rfl) B 134 j0 (.int .u32 0) 1 4 Tryz.underlying116 ji jz0 jz1 jz2 rfl (by decide) _ m (uv zs) rfl (World.ownsRow.alloc hrow _) ⟨wr.heap.size, 0, none⟩ 1 1 [.int .u32 x] rfl rfl (cell_one_y _ _ _) (by intro u hu; simp at hu; subst hu; rfl) (by decide) (by unfold maxLen; omega) (by omega) (by simp; omega) _ rfl ?_; intro g3 cap3 w3 hrow3 hgr3 hat3 hlt3; have hb3 := grown_bel hvB hgr3 hBr)
      have hrow3' : w3.ownsRow B 134 1 (.slice (some ⟨g3, 0, none⟩) (m + 1) cap3) (m + 1) (uv (zs ++ [x])) := by
        have := hrow3
        simpa [uv] using this
      obtain ⟨q1, q2, q3⟩ := kid_grownN hgr3 hat3
      go_roundg (gk - 1)
      case measure => omega
      case rel => exact ⟨j + 1, m + 1, zs ++ [x], _, by go_num, rfl, by omega, by omega, by have := HMK.out; omega, by simp [hzl], u32_snoc HU2.out hx0 hx1, hrow3', hbel.trans (hb3.mono (by omega)), Nat.le_trans hBr hb3.size, fun g e => (by
        obtain rfl : g3 = g := by simpa [Value.ownBlock] using e
        rcases q3 with q3 | q3
        · exact hvb _ q3
        · exact .inr (Nat.le_trans hws q3)), Nat.le_trans hws q2, fun g e1 e2 => (q1 g (by omega) (fun e => by rcases hvb g e with h | h <;> omega)).trans (hkeep g e1 e2), A2⟩
    · have hdr : ps.drop j = [] := List.drop_of_length_le (by rw [HNl.out]; omega)
      rw [hdr, List.append_nil] at A1
      have HT2 := Lib.hid A1
      have hjI : (n : Int) ≤ (j : Int) := by omega
      clear A1 A hdr hlt
      have htr := trim_any v' zs wr (NtR.own (by rw [hzl]; exact hrow) hu)
      go_wp2_with (go_at_call 86; refine htr.mono ?_; rintro e w4 ⟨v4, rfl, hv4, hw4⟩; obtain rfl := hw4.symm)
      all_goals go_ret
      exact ⟨_, rfl, HT2.out ▸ hv4, hbel⟩
end
section
/- (Nl) The form of a double, and its least power. -/
open Go.RowKit

theorem double_any (w : World) : Calls Tryz.prog 39 #[] w fun e w' => e = .returned (.agg #[.int .i64 52, .int .u64 9218868437227405311]) ∧ Below w.heap.size w w' := by
  go_enter Tryz.func39, Tryz.ntmps39
  go_wp2
  have h := heap_alloc_new w (.cells #[.int .i64 52, .int .u64 9218868437227405311] 86)
  have c0 : (w.alloc (.cells #[.int .i64 52, .int .u64 9218868437227405311] 86)).cell? ⟨w.heap.size, 0, none⟩ = some (.int .i64 52) := by simp only [World.cell?, h]; rfl
  have c1 : (w.alloc (.cells #[.int .i64 52, .int .u64 9218868437227405311] 86)).cell? ⟨w.heap.size, 1, none⟩ = some (.int .u64 9218868437227405311) := by simp only [World.cell?, h]; rfl
  clear h
  refine bodyPost_ret (v := .agg #[.int .i64 52, .int .u64 9218868437227405311]) (by simp [results, Tryz.results39, go_sem, c0, c1]; try rfl) rfl ?_
  exact ⟨rfl, (Below.refl _ _).alloc (Nat.le_refl _) _⟩
theorem least_any (w : World) : Calls Tryz.prog 83 #[.agg #[.int .i64 52, .int .u64 9218868437227405311]] w fun e w' => e = .returned (.int .i64 1074) ∧ Below w.heap.size w w' := by
  have h := heap_alloc_new w (.cells #[.int .i64 52, .int .u64 9218868437227405311] 86)
  have c0 : (w.alloc (.cells #[.int .i64 52, .int .u64 9218868437227405311] 86)).cell? ⟨w.heap.size, 0, none⟩ = some (.int .i64 52) := by simp only [World.cell?, h]; rfl
  clear h
  go_enter Tryz.func83, Tryz.ntmps83
  go_wp2_with fail
  all_goals go_ret
  exact ⟨rfl, bwY w _⟩
end
section
/- (Fa) Numbers of the reference: Times2. -/
open Go.RowKit

theorem noF_len (q : Int) : (noF q).length ≤ 2 := by
  unfold noF
  have := trF_len [q % 4294967296, q / 4294967296]
  simpa using this
/-- The number with a code, times 2 to the power of 1074. -/
def t2F (k : Nat) (f : Int) : List Int := if k = 0 then noF f else shF (k - 1) (noF (f + 4503599627370496))
theorem and52 (q : Int) (h0 : 0 ≤ q) (h1 : q < 18446744073709551616) : bits .and .u64 q 4503599627370495 = q % 4503599627370496 :=
  bits_mask .u64 64 (by decide) (fun n a b => by rw [IntKind.wrap_u64]; omega) 52 (by decide) q h0 h1
set_option maxRecDepth 100000 in
set_option maxHeartbeats 2000000 in
theorem times2_any (q : Int) (k : Nat) (f : Int) (w : World) (h0 : 0 ≤ q) (h1 : q < 9223372036854775808) (hk : q / 4503599627370496 = k) (hf : q % 4503599627370496 = f) :
    Calls Tryz.prog 62 #[.agg #[.int .i64 52, .int .u64 9218868437227405311], .int .u64 q] w fun e w' => ∃ v', e = .returned v' ∧ NtR w' v' (t2F k f) ∧ Below w.heap.size w w' := by
  have ha := and52 q h0 (by omega)
  rw [hf] at ha
  have hkI : (k : Int) ≤ 2047 := by omega
  have hf0 : 0 ≤ f := by omega
  have hf1 : f < 4503599627370496 := by omega
  have b0 : Below w.heap.size w (w.alloc (.cells #[.int .i64 52, .int .u64 9218868437227405311] 86)) := bwY w _
  have cN : ∀ n, ((w.alloc (.cells #[.int .i64 52, .int .u64 9218868437227405311] 86)).drewN n).cell? ⟨w.heap.size, 0, none⟩ = some (.int .i64 52) := fun n => by
    have := heap_alloc_new w (.cells #[.int .i64 52, .int .u64 9218868437227405311] 86)
    show (w.alloc (.cells #[.int .i64 52, .int .u64 9218868437227405311] 86)).cell? ⟨w.heap.size, 0, none⟩ = _
    simp only [World.cell?, this]; rfl
  have bN : ∀ n, Below w.heap.size w ((w.alloc (.cells #[.int .i64 52, .int .u64 9218868437227405311] 86)).drewN n) := fun n => ⟨b0.os, b0.tape, b0.output, b0.size, b0.block⟩
  unfold t2F
  by_cases hk0 : k = 0
  · rw [if_pos hk0]
    have d0 : ((k : Int) == 0) = true := by simp; omega
    clear hk0
    have hn := fun n => natOf_any f ((w.alloc (.cells #[.int .i64 52, .int .u64 9218868437227405311] 86)).drewN n) hf0 (by omega)
    clear hf
    go_enter Tryz.func62, Tryz.ntmps62
    go_wp2_with fail
    go_quiet (fail)
    go_wp2_with (go_at_call 87; refine (hn _).mono ?_; rintro e w3 ⟨v3, rfl, hv3, hb3⟩)
    all_goals go_ret
    exact ⟨_, rfl, hv3, bwY2 (bN _) hb3⟩
  · obtain ⟨j, rfl⟩ : ∃ j, k = j + 1 := ⟨k - 1, by omega⟩
    rw [if_neg hk0, Nat.add_sub_cancel]
    have e1 : ((j + 1 : Nat) : Int) = (j : Int) + 1 := by omega
    have d0 : (((j + 1 : Nat) : Int) == 0) = false := by simp; omega
    have hn := fun n => natOf_any (f + 4503599627370496) ((w.alloc (.cells #[.int .i64 52, .int .u64 9218868437227405311] 86)).drewN n) (by omega) (by omega)
    have hl := noF_len (f + 4503599627370496)
    have hwr : IntKind.u64.wrap (f + 4503599627370496) = f + 4503599627370496 := by rw [IntKind.wrap_u64]; omega
    generalize noF (f + 4503599627370496) = xs at hn hl ⊢
    clear hf
    go_enter Tryz.func62, Tryz.ntmps62
    go_wp2_with fail
    go_quiet (fail)
    go_wp2_with (first
      | (go_at_call 87; refine (hn _).mono ?_; rintro e w3 ⟨v3, rfl, hv3, hb3⟩)
      | (go_at_call 61; refine (shifted_any v3 xs j w3 hv3 (by omega) (by omega)).mono ?_; rintro e w4 ⟨v4, rfl, hv4, hb4⟩))
    all_goals go_ret
    exact ⟨_, rfl, hv4, bwY2 (bwY2 (bN _) hb3) hb4⟩
end
section
/- (Nk) Numbers of the reference: a decimal number against half a natural one. -/
open Go.RowKit

/-- The number of the first k digits. -/
def xF (d : ByteArray) : Nat → List Int
  | 0 => []
  | k + 1 => trF (tmF 10 (xF d k) ((bAt d k - 48) % 256))
theorem xF_len (d : ByteArray) : ∀ k, (xF d k).length ≤ k
  | 0 => Nat.le_refl _
  | k + 1 => by
    rw [xF]
    have h1 := trF_len (tmF 10 (xF d k) ((bAt d k - 48) % 256))
    have h2 := tmF_len 10 (xF d k) ((bAt d k - 48) % 256)
    have h3 := xF_len d k
    omega
theorem teF_len : ∀ (t : Nat) (xs : List Int), (teF t xs).length ≤ xs.length + t
  | 0, xs => Nat.le_refl _
  | t + 1, xs => by
    rw [teF]
    have h1 := teF_len t (trF (tmF 10 xs 0))
    have h2 := trF_len (tmF 10 xs 0)
    have h3 := tmF_len 10 xs 0
    omega
theorem shF_len (t : Nat) (xs : List Int) : (shF t xs).length ≤ xs.length + 1 + t / 32 := by
  unfold shF
  have h1 := trF_len (List.replicate (t / 32) 0 ++ trF (tmF (2 ^ (t % 32) % 4294967296) xs 0))
  have h2 := trF_len (tmF (2 ^ (t % 32) % 4294967296) xs 0)
  have h3 := tmF_len (2 ^ (t % 32) % 4294967296) xs 0
  rw [List.length_append, List.length_replicate] at h1
  omega
def agF (d : ByteArray) (p : Int) (hs : List Int) : Int :=
  if 0 ≤ p then cmF (teF p.toNat (shF 1075 (xF d d.size))) hs else cmF (shF 1075 (xF d d.size)) (teF (-p).toNat hs)
set_option maxRecDepth 100000 in
set_option maxHeartbeats 2000000 in
theorem against_any (d : ByteArray) (p : Int) (hv : Value) (hs : List Int) (w : World) (h : NtR w hv hs) (hd : d.size ≤ 10000) (hp0 : -200000 ≤ p) (hp1 : p ≤ 200000) (hl : hs.length ≤ 100000) :
    Calls Tryz.prog 60 #[.agg #[.int .i64 52, .int .u64 9218868437227405311], .agg #[.string d, .int .i64 p], hv] w fun e w' => e = .returned (.int .i64 (agF d p hs)) ∧ Below w.heap.size w w' := by
  obtain ⟨R, hR⟩ : ∃ R, agF d p hs = R := ⟨_, rfl⟩
  rw [hR]
  have HR := Lib.hid hR
  clear hR
  obtain ⟨w2, hw2⟩ : ∃ w2, (w.alloc (.cells #[.int .i64 52, .int .u64 9218868437227405311] 86)).alloc (.cells #[.string d, .int .i64 p] 81) = w2 := ⟨_, rfl⟩
  have hD : w2.heap[w.heap.size + 1]? = some (.cells #[.string d, .int .i64 p] 81) := by
    rw [← hw2]
    have := heap_alloc_new (w.alloc (.cells #[.int .i64 52, .int .u64 9218868437227405311] 86)) (.cells #[.string d, .int .i64 p] 81)
    simpa using this
  have hF : w2.heap[w.heap.size]? = some (.cells #[.int .i64 52, .int .u64 9218868437227405311] 86) := by
    rw [← hw2]
    exact (Below.heap_alloc _ _ _ (by simp)).trans (heap_alloc_new w _)
  have b0 : Below w.heap.size w w2 := by rw [← hw2]; exact bwY2 (bwY w _) (bwY _ _)
  have hz2 : w2.heap.size = w.heap.size + 2 := by rw [← hw2]; simp
  have h2 := h.below b0
  have cells : ∀ wx, Below w2.heap.size w2 wx → wx.cell? ⟨w.heap.size, 0, none⟩ = some (.int .i64 52) ∧ wx.cell? ⟨w.heap.size, 1, none⟩ = some (.int .u64 9218868437227405311) ∧ wx.cell? ⟨w.heap.size + 1, 0, none⟩ = some (.string d) ∧ wx.cell? ⟨w.heap.size + 1, 1, none⟩ = some (.int .i64 p) := fun wx hb => by
    have e1 := (hb.block w.heap.size (by omega)).trans hF
    have e2 := (hb.block (w.heap.size + 1) (by omega)).trans hD
    simp [World.cell?, e1, e2]
  have HC := Lib.hid cells
  have c0 := cells w2 (Below.refl _ _)
  obtain ⟨c1, c2, c3, c4⟩ := c0
  obtain ⟨n, hn⟩ : ∃ n, d.size = n := ⟨_, rfl⟩
  have HN := Lib.hid hn
  have hnI : (n : Int) ≤ 10000 := by omega
  have hdi : ∀ j, j < n → j < d.size := fun j hj => by omega
  have HDI := Lib.hid hdi
  have HW2 := Lib.hid hw2
  clear cells hD hF h
  go_enter Tryz.func60, Tryz.ntmps60
  go_wp2_with fail
  have b3 : Below w2.heap.size w2 (w2.alloc (.cells #[] 134)) := bwY w2 _
  have n3 : NtR (w2.alloc (.cells #[] 134)) (.slice (some ⟨w.heap.size + 2, 0, none⟩) 0 0) (xF d 0) := ⟨fun x hx => (by cases hx), _, 0, rfl, Nat.le_refl _, by decide, fun i hi => absurd hi (Nat.not_lt_zero _)⟩
  clear hw2 c1 c2 c3 c4
  go_loopg [7, 13] n (fun g x c wr => ∃ (j : Nat) (v' : Value), c = .int .i64 j ∧ x = v' ∧ j ≤ n ∧ n - j ≤ g ∧ NtR wr v' (xF d j) ∧ Below w2.heap.size w2 wr)
  case atStart => exact ⟨0, _, rfl, rfl, Nat.zero_le _, by omega, n3, b3⟩
  case round =>
    clear n3 b3
    obtain ⟨j, v', rfl, hv', hj, hg, hx, hb⟩ := hrel
    obtain rfl := hv'.symm
    obtain ⟨c1, c2, c3, c4⟩ := HC.out wr hb
    by_cases hlt : j < n
    · have hjd := HDI.out j hlt
      have hjI : (j : Int) < (n : Int) := by omega
      have hjI2 : (j : Int) < (d.size : Int) := by omega
      have hbt := bAt_lt hjd
      obtain ⟨X, hX⟩ : ∃ X, (d[j].toNat : Int) = X := ⟨_, rfl⟩
      rw [hX] at hbt
      obtain ⟨y, hy⟩ : ∃ y, (X - 48) % 256 = y := ⟨_, rfl⟩
      have f1 : IntKind.u8.wrap (X - 48) = y := by rw [IntKind.wrap_u8]; exact hy
      have f2 : IntKind.u32.wrap y = y := by rw [IntKind.wrap_u32]; omega
      have hxl := xF_len d j
      obtain ⟨ao, cap, rfl⟩ := hx.form
      have ht := times_any ao (xF d j).length cap (xF d j) 10 y wr hx (by omega) (by decide) (by omega)
      have e1 : trF (tmF 10 (xF d j) y) = xF d (j + 1) := by rw [xF, hbt, hy]
      rw [e1] at ht
      clear e1 hxl hbt hy hx
      generalize (xF d j).length = m at ht ⊢
      go_wp2_with (go_at_call 82; refine ht.mono ?_; rintro e w4 ⟨v4, rfl, hv4, hb4⟩)
      go_roundg (gk - 1)
      case measure => omega
      case rel => exact ⟨j + 1, v4, by go_num, rfl, by omega, by omega, hv4, bwY2 hb hb4⟩
    · have hjn : j = n := by omega
      subst hjn
      have hjI : (j : Int) ≤ (j : Int) := by omega
      have hle := least_any wr
      have hxl := xF_len d j
      obtain ⟨xs, hxs⟩ : ∃ xs, xF d j = xs := ⟨_, rfl⟩
      rw [hxs] at hx hxl
      have hsl := shF_len 1075 xs
      have hsh : ∀ w5, NtR w5 v' xs → Calls Tryz.prog 61 #[v', .int .i64 1075] w5 fun e w' => ∃ v'', e = .returned v'' ∧ NtR w' v'' (shF 1075 xs) ∧ Below w5.heap.size w5 w' := fun w5 h5 => shifted_any v' xs 1075 w5 h5 (by omega) (by omega)
      have hR := HR.out
      unfold agF at hR
      rw [HN.out, hxs] at hR
      generalize shF 1075 xs = ys at hsl hsh hR
      by_cases hp : 0 ≤ p
      · obtain ⟨t, rfl⟩ := Int.eq_ofNat_of_zero_le hp
        rw [if_pos hp, Int.toNat_natCast] at hR
        have htl := teF_len t ys
        have HR2 := Lib.hid hR
        clear hR
        go_wp2_with (first
          | (go_at_call 83; refine hle.mono ?_; rintro e w5 ⟨rfl, hb5⟩; have hx5 := hx.below hb5; have bx5 := bwY2 hb hb5)
          | (go_at_call 61; refine (hsh _ hx5).mono ?_; rintro e w6 ⟨v6, rfl, hv6, hb6⟩; have bx6 := bwY2 bx5 hb6; obtain ⟨c1, c2, c3, c4⟩ := HC.out w6 bx6)
          | (go_at_call 85; refine (tens_any v6 ys t w6 hv6 (by omega)).mono ?_; rintro e w7 ⟨v7, rfl, hv7, hb7⟩; have bx7 := bwY2 bx6 hb7)
          | (go_at_call 84; refine (compare_any v7 hv _ hs w7 hv7 (h2.below bx7)).mono ?_; rintro e w8 ⟨rfl, hb8⟩))
        all_goals go_ret
        exact ⟨by rw [HR2.out]; rfl, bwY2 b0 (bwY2 bx7 hb8)⟩
      · obtain ⟨t, ht⟩ := Int.eq_ofNat_of_zero_le (show 0 ≤ -p by omega)
        obtain rfl : p = -(t : Int) := by omega
        rw [if_neg hp, Int.neg_neg, Int.toNat_natCast] at hR
        have e1 : (- -(t : Int)) = t := Int.neg_neg _
        have e2 : -(t : Int) < 0 := by omega
        have HR2 := Lib.hid hR
        clear hR ht hp
        go_wp2_with (first
          | (go_at_call 83; refine hle.mono ?_; rintro e w5 ⟨rfl, hb5⟩; have hx5 := hx.below hb5; have bx5 := bwY2 hb hb5)
          | (go_at_call 61; refine (hsh _ hx5).mono ?_; rintro e w6 ⟨v6, rfl, hv6, hb6⟩; have bx6 := bwY2 bx5 hb6; obtain ⟨c1, c2, c3, c4⟩ := HC.out w6 bx6)
          | (go_at_call 85; refine (tens_any hv hs t w6 (h2.below bx6) (by omega)).mono ?_; rintro e w7 ⟨v7, rfl, hv7, hb7⟩; have bx7 := bwY2 bx6 hb7)
          | (go_at_call 84; refine (compare_any v6 v7 ys _ w7 (hv6.below hb7) hv7).mono ?_; rintro e w8 ⟨rfl, hb8⟩))
        all_goals go_ret
        exact ⟨by rw [HR2.out]; rfl, bwY2 b0 (bwY2 bx7 hb8)⟩
end
end Go.Proofs.YtjbffgjclnjkoaaGreatDoor
