/- Comparing by the units of UTF-16: the loop. (Printed by gencv.py.) -/
import Derived.Test.YtbnnjjilkpdanaaDoorCu
import Derived.Test.YtbnnjjilkpdanaaDoorGl
namespace Go.Proofs.YtbnnjjilkpdanaaDoor
open Go.RowKit
set_option linter.unusedVariables false

/-- What stands for the first of two characters where they are compared. -/
def rxU (r q : Int) : Int := if selfU q && !selfU r then hiU r else r
/-- The comparison from two places on. -/
def cmpU (a b : ByteArray) : Nat → Nat → Nat → Int
  | 0, _, _ => 0
  | g + 1, i, j =>
    if a.size ≤ i ∨ b.size ≤ j then cmpB ((a.size - i : Nat) : Int) ((b.size - j : Nat) : Int)
    else if bAt a i < 128 ∨ bAt b j < 128 then (if bAt a i = bAt b j then cmpU a b g (i + 1) (j + 1) else cmpB (bAt a i) (bAt b j))
    else if rxU (runeN a i) (runeN b j) ≠ rxU (runeN b j) (runeN a i) then cmpB (rxU (runeN a i) (runeN b j)) (rxU (runeN b j) (runeN a i))
    else if (invU (rxU (runeN a i) (runeN b j)) (stepN a i) || invU (rxU (runeN b j) (runeN a i)) (stepN b j)) = true ∧ bAt a i ≠ bAt b j then cmpB (bAt a i) (bAt b j)
    else cmpU a b g (i + stepN a i) (j + stepN b j)

theorem bytes_below {w w' : World} {b : Nat} {s : ByteArray} (h : Lib.Bytes w b 0 s) (hb : Below w.heap.size w w') : Lib.Bytes w' b 0 s := by
  intro i hi
  have := h i hi
  exact (hb.cell (World.block_lt_of_cell? w _ this)).trans this
theorem fuel_pos {m k : Nat} (h : m < k) : ∃ g, k = g + 1 := ⟨k - 1, by omega⟩
theorem bw {w a b : World} (h : Below w.heap.size w a) (k : Below a.heap.size a b) : Below w.heap.size w b := Below.trans h (Below.mono k h.size)
theorem step_fit (s : ByteArray) (i : Nat) (h : i < s.size) : i + stepN s i ≤ s.size ∧ 1 ≤ stepN s i := by
  have := uw_fit s i
  unfold stepN
  split
  · omega
  · rename_i hu; have := this hu; omega
theorem decode_m (a : ByteArray) (i m b cap : Nat) (w : World) (hm : i + m = a.size) (h0 : 0 < m) (hT : Tabs w) (hB : Lib.Bytes w b 0 a) (r : Int) (k : Nat) (hr : (runeN a i : Int) = r) (hk : stepN a i = k) :
    Calls Tryd.prog 49 #[.slice (some ⟨b, i, none⟩) m cap] w fun e w' => e = .returned (.tuple #[.int .i32 r, .int .i64 k]) ∧ Below w.heap.size w w' := by
  have h := decode_from a i b cap w (by omega) hT hB
  have e : a.size - i = m := by omega
  rw [e, hr, hk] at h
  exact h
theorem cell_b {w : World} {b : Nat} {s : ByteArray} (h : Lib.Bytes w b 0 s) {i : Nat} (hi : i < s.size) (X : Int) (hX : bAt s i = X) : w.cell? ⟨b, i, none⟩ = some (.int .u8 X) := by
  have := h i hi
  rw [Nat.zero_add] at this
  rw [this, ← hX]; unfold bAt; rw [dif_pos hi]

/-- The steps of the comparison. -/
theorem cmp_steps {a b : ByteArray} {g i j m n : Nat} {R X Y r q : Int} {sx sy : Nat} (A : Aside (cmpU a b (g + 1) i j = R)) (hm : i + m = a.size) (hn : j + n = b.size) (hm0 : 0 < m) (hn0 : 0 < n)
    (hX : bAt a i = X) (hY : bAt b j = Y) (hr : (runeN a i : Int) = r) (hq : (runeN b j : Int) = q) (hsx : stepN a i = sx) (hsy : stepN b j = sy) :
    ((X < 128 ∨ Y < 128) → X = Y → Aside (cmpU a b g (i + 1) (j + 1) = R)) ∧ ((X < 128 ∨ Y < 128) → X ≠ Y → cmpB X Y = R) ∧
    (¬ (X < 128 ∨ Y < 128) → rxU r q ≠ rxU q r → cmpB (rxU r q) (rxU q r) = R) ∧
    (¬ (X < 128 ∨ Y < 128) → rxU r q = rxU q r → (invU (rxU r q) sx || invU (rxU q r) sy) = true → X ≠ Y → cmpB X Y = R) ∧
    (¬ (X < 128 ∨ Y < 128) → rxU r q = rxU q r → ¬ ((invU (rxU r q) sx || invU (rxU q r) sy) = true ∧ X ≠ Y) → Aside (cmpU a b g (i + sx) (j + sy) = R)) := by
  have A' : cmpU a b (g + 1) i j = R := A
  subst hX hY hr hq hsx hsy
  unfold cmpU at A'
  rw [if_neg (by omega)] at A'
  refine ⟨fun h1 h2 => ?_, fun h1 h2 => ?_, fun h1 h2 => ?_, fun h1 h2 h3 h4 => ?_, fun h1 h2 h3 => ?_⟩
  · rw [if_pos h1, if_pos h2] at A'; exact A'
  · rw [if_pos h1, if_neg h2] at A'; exact A'
  · rw [if_neg h1, if_pos h2] at A'; exact A'
  · rw [if_neg h1, if_neg (fun h => h h2), if_pos ⟨h3, h4⟩] at A'; exact A'
  · rw [if_neg h1, if_neg (fun h => h h2), if_neg h3] at A'; exact A'

set_option maxRecDepth 100000 in
set_option maxHeartbeats 12000000 in
theorem cmp_any (a b : ByteArray) (ba bb ca cb : Nat) (w : World) (hca : a.size ≤ ca) (hcb : b.size ≤ cb) (hsa : ca ≤ maxLen) (hsb : cb ≤ maxLen) (hT : Tabs w) (hA : Lib.Bytes w ba 0 a) (hB : Lib.Bytes w bb 0 b) :
    Calls Tryd.prog 35 #[.slice (some ⟨ba, 0, none⟩) a.size ca, .slice (some ⟨bb, 0, none⟩) b.size cb] w fun e w' => e = .returned (.int .i64 (cmpU a b (a.size + 1) 0 0)) ∧ Below w.heap.size w w' := by
  obtain ⟨R, HR⟩ : ∃ R, Hid (cmpU a b (a.size + 1) 0 0 = R) := ⟨_, Lib.hid rfl⟩
  rw [HR.out]
  have A0 : Aside (cmpU a b (a.size + 1) 0 0 = R) := HR.out
  unfold maxLen at hsa hsb
  go_enter Tryd.func35, Tryd.ntmps35
  go_wp2_with fail
  go_loopg [0, 1] (a.size + 1) (fun g x y wr => ∃ i j m n cx cy oi oj : Nat, i + m = a.size ∧ j + n = b.size ∧ (m = 0 ∨ oi = i) ∧ (n = 0 ∨ oj = j) ∧ x = .slice (some ⟨ba, oi, none⟩) m cx ∧ y = .slice (some ⟨bb, oj, none⟩) n cy ∧ m ≤ cx ∧ n ≤ cy ∧ cx ≤ 9223372036854775807 ∧ cy ≤ 9223372036854775807 ∧ Below w.heap.size w wr ∧ m < g ∧ Aside (cmpU a b g i j = R))
  case atStart => exact ⟨0, 0, a.size, b.size, ca, cb, 0, 0, by omega, by omega, Or.inr rfl, Or.inr rfl, rfl, rfl, hca, hcb, by omega, by omega, Below.refl _ _, by omega, A0⟩
  case round =>
    obtain ⟨i, j, m, n, cx, cy, oi, oj, hm, hn, hoi, hoj, rfl, rfl, hcx, hcy, hx, hy, hbl, hg, A⟩ := hrel
    obtain ⟨g, hgk⟩ := fuel_pos hg
    subst hgk
    by_cases hm0 : m = 0
    · have E : Hid (cmpB (0 : Int) (n : Int) = R) := Lib.hid (by
        have A' : cmpU a b (g + 1) i j = R := A
        rw [← A']; unfold cmpU
        rw [if_pos (by omega)]
        have e1 : a.size - i = 0 := by omega
        have e2 : b.size - j = n := by omega
        rw [e1, e2]; rfl)
      subst hm0
      clear A
      go_wp2_with fail
      refine (cmp_int _ _ _).mono ?_
      rintro e w1 ⟨rfl, rfl⟩
      go_wp2_with fail
      all_goals go_ret
      exact ⟨by rw [← E.out]; first | done | rfl, hbl⟩
    by_cases hn0 : n = 0
    · have E : Hid (cmpB (m : Int) (0 : Int) = R) := Lib.hid (by
        have A' : cmpU a b (g + 1) i j = R := A
        rw [← A']; unfold cmpU
        rw [if_pos (by omega)]
        have e1 : a.size - i = m := by omega
        have e2 : b.size - j = 0 := by omega
        rw [e1, e2]; rfl)
      subst hn0
      have hmz : ((m : Int) == 0) = false := by simp; omega
      clear A
      go_wp2_with fail
      refine (cmp_int _ _ _).mono ?_
      rintro e w1 ⟨rfl, rfl⟩
      go_wp2_with fail
      all_goals go_ret
      exact ⟨by rw [← E.out]; first | done | rfl, hbl⟩
    have hoi' : i = oi := by omega
    subst hoi'
    have hoj' : j = oj := by omega
    subst hoj'
    have hmz : ((m : Int) == 0) = false := by simp; omega
    have hnz : ((n : Int) == 0) = false := by simp; omega
    have hmp : (0 : Int) < (m : Int) := by omega
    have hnp : (0 : Int) < (n : Int) := by omega
    have hm1 : (1 : Int) ≤ (m : Int) := by omega
    have hn1 : (1 : Int) ≤ (n : Int) := by omega
    clear hoi hoj
    obtain ⟨X, hX⟩ : ∃ X, bAt a i = X := ⟨_, rfl⟩
    obtain ⟨Y, hY⟩ : ∃ Y, bAt b j = Y := ⟨_, rfl⟩
    obtain ⟨r, hr⟩ : ∃ r : Int, (runeN a i : Int) = r := ⟨_, rfl⟩
    obtain ⟨q, hq⟩ : ∃ q : Int, (runeN b j : Int) = q := ⟨_, rfl⟩
    obtain ⟨sx, hsx⟩ : ∃ k, stepN a i = k := ⟨_, rfl⟩
    obtain ⟨sy, hsy⟩ : ∃ k, stepN b j = k := ⟨_, rfl⟩
    have S := cmp_steps A hm hn (by omega) (by omega) hX hY hr hq hsx hsy
    obtain ⟨S1, S2, S3, S4, S5⟩ := S
    have hTr := hT.below hbl
    have hAr := bytes_below hA hbl
    have hBr := bytes_below hB hbl
    have c1 := cell_b hAr (show i < a.size by omega) X hX
    have c2 := cell_b hBr (show j < b.size by omega) Y hY
    have fx := step_fit a i (by omega)
    have fy := step_fit b j (by omega)
    rw [hsx] at fx
    rw [hsy] at fy
    have dx := fun w h1 h2 => decode_m a i m ba cx w hm (by omega) h1 h2 r sx hr hsx
    have dy := fun w h1 h2 => decode_m b j n bb cy w hn (by omega) h1 h2 q sy hq hsy
    have HX := Lib.hid hX
    have HY := Lib.hid hY
    clear A hX hY hr hq hsx hsy
    by_cases hX1 : X < 128
    · by_cases hXY : X = Y
      · have E := Lib.hid (S1 (Or.inl hX1) hXY)
        have hxy : (X == Y) = true := by simpa using hXY
        clear S1 S2 S3 S4 S5 hXY dx dy fx fy
        go_wp2_with fail
        go_quiet (fail)
        go_wp2_with fail
        go_quiet (fail)
        go_wp2_with fail
        all_goals go_roundg g
        all_goals first | omega | skip
        all_goals exact ⟨i + 1, j + 1, m - 1, n - 1, _, _, _, _, by omega, by omega, by omega, by omega, rfl, rfl, by omega, by omega, by omega, by omega, bdN hbl _, by omega, E.out⟩
      · have E := Lib.hid (S2 (Or.inl hX1) hXY)
        have hxy : (X == Y) = false := by simpa using hXY
        clear S1 S2 S3 S4 S5 hXY dx dy fx fy
        go_wp2_with fail
        go_quiet (fail)
        go_wp2_with fail
        have k1 : (wr.drewN nq).cell? ⟨ba, i, none⟩ = some (.int .u8 X) := c1
        have k2 : (wr.drewN nq).cell? ⟨bb, j, none⟩ = some (.int .u8 Y) := c2
        have k3 : Below w.heap.size w (wr.drewN nq) := bdN hbl nq
        generalize wr.drewN nq = wq at k1 k2 k3 ⊢
        go_quiet ((go_at_call 54; exact Calls.quiet_of_same (cmp_byte _ _ _)))
        go_wp2_with fail
        all_goals go_ret
        exact ⟨by rw [← E.out]; first | done | rfl, bdN k3 _⟩
    by_cases hY1 : Y < 128
    · by_cases hXY : X = Y
      · exfalso; omega
      · have E := Lib.hid (S2 (Or.inr hY1) hXY)
        have hxy : (X == Y) = false := by simpa using hXY
        clear S1 S2 S3 S4 S5 hXY dx dy fx fy
        go_wp2_with fail
        go_quiet (fail)
        go_wp2_with fail
        have k1 : (wr.drewN nq).cell? ⟨ba, i, none⟩ = some (.int .u8 X) := c1
        have k2 : (wr.drewN nq).cell? ⟨bb, j, none⟩ = some (.int .u8 Y) := c2
        have k3 : Below w.heap.size w (wr.drewN nq) := bdN hbl nq
        generalize wr.drewN nq = wq at k1 k2 k3 ⊢
        go_quiet ((go_at_call 54; exact Calls.quiet_of_same (cmp_byte _ _ _)))
        go_wp2_with fail
        all_goals go_ret
        exact ⟨by rw [← E.out]; first | done | rfl, bdN k3 _⟩
    have hno : ¬ (X < 128 ∨ Y < 128) := by omega
    have T3 := S3 hno
    have T4 := S4 hno
    have T5 := S5 hno
    clear S1 S2 S3 S4 S5 hno
    obtain ⟨s1, hs1⟩ : ∃ s, selfU r = s := ⟨_, rfl⟩
    obtain ⟨s2, hs2⟩ : ∃ s, selfU q = s := ⟨_, rfl⟩
    have P1 : rxU r q = if s2 && !s1 then hiU r else r := by unfold rxU; rw [hs1, hs2]
    have P2 : rxU q r = if s1 && !s2 then hiU q else q := by unfold rxU; rw [hs1, hs2]
    obtain ⟨P, hP⟩ : ∃ P, rxU r q = P := ⟨_, rfl⟩
    obtain ⟨Q, hQ⟩ : ∃ Q, rxU q r = Q := ⟨_, rfl⟩
    rw [hP] at P1
    rw [hQ] at P2
    simp only [hP, hQ] at T3 T4 T5
    have hf1 := hs1
    have hf2 := hs2
    have HS1 := Lib.hid hs1
    have HS2 := Lib.hid hs2
    clear hs1 hs2 hP hQ hf1 hf2
    obtain ⟨v1, hv1⟩ : ∃ v, invU P sx = v := ⟨_, rfl⟩
    obtain ⟨v2, hv2⟩ : ∃ v, invU Q sy = v := ⟨_, rfl⟩
    rw [hv1, hv2] at T4 T5
    have HV1 := Lib.hid hv1
    have HV2 := Lib.hid hv2
    clear hv1 hv2
    have fx1 : (sx : Int) ≤ (m : Int) := by omega
    have fy1 : (sy : Int) ≤ (n : Int) := by omega
    have fx2 : sx ≤ m ∧ 1 ≤ sx := by omega
    have fy2 : sy ≤ n ∧ 1 ≤ sy := by omega
    clear fx fy
    cases s1 <;> cases s2
    · simp only [Bool.and_true, Bool.not_false, if_false, Bool.false_eq_true] at P1 P2
      have HP1 := Lib.hid P1
      have HP2 := Lib.hid P2
      clear P1 P2
      by_cases hPQ : P = Q
      · obtain rfl : Q = q := HP2.out
        obtain rfl : P = r := HP1.out
        have U4 := T4 hPQ
        have U5 := T5 hPQ
        have hpq : (P == Q) = true := by simpa using hPQ
        clear T3 T4 T5 hPQ
        by_cases hv : (v1 || v2) = true ∧ X ≠ Y
        · have E := Lib.hid (U4 hv.1 hv.2)
          have hxy : (X == Y) = false := by simpa using hv.2
          have hvv := hv.1
          clear U4 U5 hv
          cases v1
          · as_aux_lemma =>
              obtain rfl : v2 = true := by simpa using hvv
              clear hvv
              go_wp2_with fail
              refine (dx _ hTr hAr).mono ?_
              rintro e w1 ⟨rfl, hb1⟩
              have hbl1 := bw hbl hb1
              have hT1 := hT.below hbl1
              have hA1 := bytes_below hA hbl1
              have hB1 := bytes_below hB hbl1
              go_wp2_with fail
              refine (dy _ hT1 hB1).mono ?_
              rintro e w2 ⟨rfl, hb2⟩
              have hbl2 := bw hbl1 hb2
              have d1 := cell_b (bytes_below hA hbl2) (show i < a.size by omega) X HX.out
              have d2 := cell_b (bytes_below hB hbl2) (show j < b.size by omega) Y HY.out
              go_wp2_with fail
              refine (self_any _ _).mono ?_
              rw [HS1.out]
              rintro e w3 ⟨rfl, hww3⟩
              obtain rfl := hww3.symm
              go_wp2_with fail
              refine (self_any _ _).mono ?_
              rw [HS2.out]
              rintro e w4 ⟨rfl, hww4⟩
              obtain rfl := hww4.symm
              go_wp2_with fail
              refine (inv_any _ _ _).mono ?_
              rw [HV1.out]
              rintro e w6 ⟨rfl, hww6⟩
              obtain rfl := hww6.symm
              go_wp2_with fail
              refine (inv_any _ _ _).mono ?_
              rw [HV2.out]
              rintro e w7 ⟨rfl, hww7⟩
              obtain rfl := hww7.symm
              go_wp2_with fail
              go_quiet (fail)
              go_wp2_with fail
              have k1 : (w2.drewN nq).cell? ⟨ba, i, none⟩ = some (.int .u8 X) := d1
              have k2 : (w2.drewN nq).cell? ⟨bb, j, none⟩ = some (.int .u8 Y) := d2
              have k3 : Below w.heap.size w (w2.drewN nq) := bdN hbl2 nq
              generalize w2.drewN nq = wq at k1 k2 k3 ⊢
              go_quiet ((go_at_call 54; exact Calls.quiet_of_same (cmp_byte _ _ _)))
              go_wp2_with fail
              all_goals go_ret
              exact ⟨by rw [← E.out]; first | done | rfl, bdN k3 _⟩
          · as_aux_lemma =>
              clear hvv
              go_wp2_with fail
              refine (dx _ hTr hAr).mono ?_
              rintro e w1 ⟨rfl, hb1⟩
              have hbl1 := bw hbl hb1
              have hT1 := hT.below hbl1
              have hA1 := bytes_below hA hbl1
              have hB1 := bytes_below hB hbl1
              go_wp2_with fail
              refine (dy _ hT1 hB1).mono ?_
              rintro e w2 ⟨rfl, hb2⟩
              have hbl2 := bw hbl1 hb2
              have d1 := cell_b (bytes_below hA hbl2) (show i < a.size by omega) X HX.out
              have d2 := cell_b (bytes_below hB hbl2) (show j < b.size by omega) Y HY.out
              go_wp2_with fail
              refine (self_any _ _).mono ?_
              rw [HS1.out]
              rintro e w3 ⟨rfl, hww3⟩
              obtain rfl := hww3.symm
              go_wp2_with fail
              refine (self_any _ _).mono ?_
              rw [HS2.out]
              rintro e w4 ⟨rfl, hww4⟩
              obtain rfl := hww4.symm
              go_wp2_with fail
              refine (inv_any _ _ _).mono ?_
              rw [HV1.out]
              rintro e w6 ⟨rfl, hww6⟩
              obtain rfl := hww6.symm
              go_wp2_with fail
              go_quiet (fail)
              go_wp2_with fail
              have k1 : (w2.drewN nq).cell? ⟨ba, i, none⟩ = some (.int .u8 X) := d1
              have k2 : (w2.drewN nq).cell? ⟨bb, j, none⟩ = some (.int .u8 Y) := d2
              have k3 : Below w.heap.size w (w2.drewN nq) := bdN hbl2 nq
              generalize w2.drewN nq = wq at k1 k2 k3 ⊢
              go_quiet ((go_at_call 54; exact Calls.quiet_of_same (cmp_byte _ _ _)))
              go_wp2_with fail
              all_goals go_ret
              exact ⟨by rw [← E.out]; first | done | rfl, bdN k3 _⟩
        · have E := Lib.hid (U5 hv)
          clear U4 U5
          cases v1
          · cases v2
            · as_aux_lemma =>
                clear hv
                go_wp2_with fail
                refine (dx _ hTr hAr).mono ?_
                rintro e w1 ⟨rfl, hb1⟩
                have hbl1 := bw hbl hb1
                have hT1 := hT.below hbl1
                have hA1 := bytes_below hA hbl1
                have hB1 := bytes_below hB hbl1
                go_wp2_with fail
                refine (dy _ hT1 hB1).mono ?_
                rintro e w2 ⟨rfl, hb2⟩
                have hbl2 := bw hbl1 hb2
                have d1 := cell_b (bytes_below hA hbl2) (show i < a.size by omega) X HX.out
                have d2 := cell_b (bytes_below hB hbl2) (show j < b.size by omega) Y HY.out
                go_wp2_with fail
                refine (self_any _ _).mono ?_
                rw [HS1.out]
                rintro e w3 ⟨rfl, hww3⟩
                obtain rfl := hww3.symm
                go_wp2_with fail
                refine (self_any _ _).mono ?_
                rw [HS2.out]
                rintro e w4 ⟨rfl, hww4⟩
                obtain rfl := hww4.symm
                go_wp2_with fail
                refine (inv_any _ _ _).mono ?_
                rw [HV1.out]
                rintro e w6 ⟨rfl, hww6⟩
                obtain rfl := hww6.symm
                go_wp2_with fail
                refine (inv_any _ _ _).mono ?_
                rw [HV2.out]
                rintro e w7 ⟨rfl, hww7⟩
                obtain rfl := hww7.symm
                go_wp2_with fail
                go_quiet (fail)
                go_wp2_with fail
                all_goals go_roundg g
                all_goals first | omega | skip
                all_goals exact ⟨i + sx, j + sy, m - sx, n - sy, _, _, _, _, by omega, by omega, by omega, by omega, rfl, rfl, by omega, by omega, by omega, by omega, bdN hbl2 _, by omega, E.out⟩
            · as_aux_lemma =>
                obtain hxy0 : X = Y := by simpa using hv
                have hxy : (X == Y) = true := by simpa using hxy0
                clear hv hxy0
                go_wp2_with fail
                refine (dx _ hTr hAr).mono ?_
                rintro e w1 ⟨rfl, hb1⟩
                have hbl1 := bw hbl hb1
                have hT1 := hT.below hbl1
                have hA1 := bytes_below hA hbl1
                have hB1 := bytes_below hB hbl1
                go_wp2_with fail
                refine (dy _ hT1 hB1).mono ?_
                rintro e w2 ⟨rfl, hb2⟩
                have hbl2 := bw hbl1 hb2
                have d1 := cell_b (bytes_below hA hbl2) (show i < a.size by omega) X HX.out
                have d2 := cell_b (bytes_below hB hbl2) (show j < b.size by omega) Y HY.out
                go_wp2_with fail
                refine (self_any _ _).mono ?_
                rw [HS1.out]
                rintro e w3 ⟨rfl, hww3⟩
                obtain rfl := hww3.symm
                go_wp2_with fail
                refine (self_any _ _).mono ?_
                rw [HS2.out]
                rintro e w4 ⟨rfl, hww4⟩
                obtain rfl := hww4.symm
                go_wp2_with fail
                refine (inv_any _ _ _).mono ?_
                rw [HV1.out]
                rintro e w6 ⟨rfl, hww6⟩
                obtain rfl := hww6.symm
                go_wp2_with fail
                refine (inv_any _ _ _).mono ?_
                rw [HV2.out]
                rintro e w7 ⟨rfl, hww7⟩
                obtain rfl := hww7.symm
                go_wp2_with fail
                go_quiet (fail)
                go_wp2_with fail
                go_quiet (fail)
                go_wp2_with fail
                all_goals go_roundg g
                all_goals first | omega | skip
                all_goals exact ⟨i + sx, j + sy, m - sx, n - sy, _, _, _, _, by omega, by omega, by omega, by omega, rfl, rfl, by omega, by omega, by omega, by omega, bdN hbl2 _, by omega, E.out⟩
          · as_aux_lemma =>
              obtain hxy0 : X = Y := by simpa using hv
              have hxy : (X == Y) = true := by simpa using hxy0
              clear hv hxy0
              go_wp2_with fail
              refine (dx _ hTr hAr).mono ?_
              rintro e w1 ⟨rfl, hb1⟩
              have hbl1 := bw hbl hb1
              have hT1 := hT.below hbl1
              have hA1 := bytes_below hA hbl1
              have hB1 := bytes_below hB hbl1
              go_wp2_with fail
              refine (dy _ hT1 hB1).mono ?_
              rintro e w2 ⟨rfl, hb2⟩
              have hbl2 := bw hbl1 hb2
              have d1 := cell_b (bytes_below hA hbl2) (show i < a.size by omega) X HX.out
              have d2 := cell_b (bytes_below hB hbl2) (show j < b.size by omega) Y HY.out
              go_wp2_with fail
              refine (self_any _ _).mono ?_
              rw [HS1.out]
              rintro e w3 ⟨rfl, hww3⟩
              obtain rfl := hww3.symm
              go_wp2_with fail
              refine (self_any _ _).mono ?_
              rw [HS2.out]
              rintro e w4 ⟨rfl, hww4⟩
              obtain rfl := hww4.symm
              go_wp2_with fail
              refine (inv_any _ _ _).mono ?_
              rw [HV1.out]
              rintro e w6 ⟨rfl, hww6⟩
              obtain rfl := hww6.symm
              go_wp2_with fail
              go_quiet (fail)
              go_wp2_with fail
              go_quiet (fail)
              go_wp2_with fail
              all_goals go_roundg g
              all_goals first | omega | skip
              all_goals exact ⟨i + sx, j + sy, m - sx, n - sy, _, _, _, _, by omega, by omega, by omega, by omega, rfl, rfl, by omega, by omega, by omega, by omega, bdN hbl2 _, by omega, E.out⟩
      · as_aux_lemma =>
          obtain rfl : Q = q := HP2.out
          obtain rfl : P = r := HP1.out
          have E := Lib.hid (T3 hPQ)
          have hpq : (P == Q) = false := by simpa using hPQ
          clear T3 T4 T5 hPQ
          go_wp2_with fail
          refine (dx _ hTr hAr).mono ?_
          rintro e w1 ⟨rfl, hb1⟩
          have hbl1 := bw hbl hb1
          have hT1 := hT.below hbl1
          have hA1 := bytes_below hA hbl1
          have hB1 := bytes_below hB hbl1
          go_wp2_with fail
          refine (dy _ hT1 hB1).mono ?_
          rintro e w2 ⟨rfl, hb2⟩
          have hbl2 := bw hbl1 hb2
          have d1 := cell_b (bytes_below hA hbl2) (show i < a.size by omega) X HX.out
          have d2 := cell_b (bytes_below hB hbl2) (show j < b.size by omega) Y HY.out
          go_wp2_with fail
          refine (self_any _ _).mono ?_
          rw [HS1.out]
          rintro e w3 ⟨rfl, hww3⟩
          obtain rfl := hww3.symm
          go_wp2_with fail
          refine (self_any _ _).mono ?_
          rw [HS2.out]
          rintro e w4 ⟨rfl, hww4⟩
          obtain rfl := hww4.symm
          go_wp2_with fail
          refine (cmp_rune _ _ _).mono ?_
          rintro e w6 ⟨rfl, rfl⟩
          go_wp2_with fail
          all_goals go_ret
          exact ⟨by rw [← E.out]; first | done | rfl, hbl2⟩
    · simp only [Bool.and_true, Bool.and_false, Bool.not_true, Bool.not_false, if_true, if_false, Bool.false_eq_true] at P1 P2
      have HP1 := Lib.hid P1
      have HP2 := Lib.hid P2
      clear P1 P2
      by_cases hPQ : P = Q
      · obtain rfl : Q = q := HP2.out
        have U4 := T4 hPQ
        have U5 := T5 hPQ
        have hpq : (P == Q) = true := by simpa using hPQ
        clear T3 T4 T5 hPQ
        by_cases hv : (v1 || v2) = true ∧ X ≠ Y
        · have E := Lib.hid (U4 hv.1 hv.2)
          have hxy : (X == Y) = false := by simpa using hv.2
          have hvv := hv.1
          clear U4 U5 hv
          cases v1
          · as_aux_lemma =>
              obtain rfl : v2 = true := by simpa using hvv
              clear hvv
              go_wp2_with fail
              refine (dx _ hTr hAr).mono ?_
              rintro e w1 ⟨rfl, hb1⟩
              have hbl1 := bw hbl hb1
              have hT1 := hT.below hbl1
              have hA1 := bytes_below hA hbl1
              have hB1 := bytes_below hB hbl1
              go_wp2_with fail
              refine (dy _ hT1 hB1).mono ?_
              rintro e w2 ⟨rfl, hb2⟩
              have hbl2 := bw hbl1 hb2
              have d1 := cell_b (bytes_below hA hbl2) (show i < a.size by omega) X HX.out
              have d2 := cell_b (bytes_below hB hbl2) (show j < b.size by omega) Y HY.out
              go_wp2_with fail
              refine (self_any _ _).mono ?_
              rw [HS1.out]
              rintro e w3 ⟨rfl, hww3⟩
              obtain rfl := hww3.symm
              go_wp2_with fail
              refine (self_any _ _).mono ?_
              rw [HS2.out]
              rintro e w4 ⟨rfl, hww4⟩
              obtain rfl := hww4.symm
              go_wp2_with fail
              refine (enc_any _ _).mono ?_
              rw [← HP1.out]
              rintro e w5 ⟨rfl, hww5⟩
              obtain rfl := hww5.symm
              go_wp2_with fail
              refine (inv_any _ _ _).mono ?_
              rw [HV1.out]
              rintro e w6 ⟨rfl, hww6⟩
              obtain rfl := hww6.symm
              go_wp2_with fail
              refine (inv_any _ _ _).mono ?_
              rw [HV2.out]
              rintro e w7 ⟨rfl, hww7⟩
              obtain rfl := hww7.symm
              go_wp2_with fail
              go_quiet (fail)
              go_wp2_with fail
              have k1 : (w2.drewN nq).cell? ⟨ba, i, none⟩ = some (.int .u8 X) := d1
              have k2 : (w2.drewN nq).cell? ⟨bb, j, none⟩ = some (.int .u8 Y) := d2
              have k3 : Below w.heap.size w (w2.drewN nq) := bdN hbl2 nq
              generalize w2.drewN nq = wq at k1 k2 k3 ⊢
              go_quiet ((go_at_call 54; exact Calls.quiet_of_same (cmp_byte _ _ _)))
              go_wp2_with fail
              all_goals go_ret
              exact ⟨by rw [← E.out]; first | done | rfl, bdN k3 _⟩
          · as_aux_lemma =>
              clear hvv
              go_wp2_with fail
              refine (dx _ hTr hAr).mono ?_
              rintro e w1 ⟨rfl, hb1⟩
              have hbl1 := bw hbl hb1
              have hT1 := hT.below hbl1
              have hA1 := bytes_below hA hbl1
              have hB1 := bytes_below hB hbl1
              go_wp2_with fail
              refine (dy _ hT1 hB1).mono ?_
              rintro e w2 ⟨rfl, hb2⟩
              have hbl2 := bw hbl1 hb2
              have d1 := cell_b (bytes_below hA hbl2) (show i < a.size by omega) X HX.out
              have d2 := cell_b (bytes_below hB hbl2) (show j < b.size by omega) Y HY.out
              go_wp2_with fail
              refine (self_any _ _).mono ?_
              rw [HS1.out]
              rintro e w3 ⟨rfl, hww3⟩
              obtain rfl := hww3.symm
              go_wp2_with fail
              refine (self_any _ _).mono ?_
              rw [HS2.out]
              rintro e w4 ⟨rfl, hww4⟩
              obtain rfl := hww4.symm
              go_wp2_with fail
              refine (enc_any _ _).mono ?_
              rw [← HP1.out]
              rintro e w5 ⟨rfl, hww5⟩
              obtain rfl := hww5.symm
              go_wp2_with fail
              refine (inv_any _ _ _).mono ?_
              rw [HV1.out]
              rintro e w6 ⟨rfl, hww6⟩
              obtain rfl := hww6.symm
              go_wp2_with fail
              go_quiet (fail)
              go_wp2_with fail
              have k1 : (w2.drewN nq).cell? ⟨ba, i, none⟩ = some (.int .u8 X) := d1
              have k2 : (w2.drewN nq).cell? ⟨bb, j, none⟩ = some (.int .u8 Y) := d2
              have k3 : Below w.heap.size w (w2.drewN nq) := bdN hbl2 nq
              generalize w2.drewN nq = wq at k1 k2 k3 ⊢
              go_quiet ((go_at_call 54; exact Calls.quiet_of_same (cmp_byte _ _ _)))
              go_wp2_with fail
              all_goals go_ret
              exact ⟨by rw [← E.out]; first | done | rfl, bdN k3 _⟩
        · have E := Lib.hid (U5 hv)
          clear U4 U5
          cases v1
          · cases v2
            · as_aux_lemma =>
                clear hv
                go_wp2_with fail
                refine (dx _ hTr hAr).mono ?_
                rintro e w1 ⟨rfl, hb1⟩
                have hbl1 := bw hbl hb1
                have hT1 := hT.below hbl1
                have hA1 := bytes_below hA hbl1
                have hB1 := bytes_below hB hbl1
                go_wp2_with fail
                refine (dy _ hT1 hB1).mono ?_
                rintro e w2 ⟨rfl, hb2⟩
                have hbl2 := bw hbl1 hb2
                have d1 := cell_b (bytes_below hA hbl2) (show i < a.size by omega) X HX.out
                have d2 := cell_b (bytes_below hB hbl2) (show j < b.size by omega) Y HY.out
                go_wp2_with fail
                refine (self_any _ _).mono ?_
                rw [HS1.out]
                rintro e w3 ⟨rfl, hww3⟩
                obtain rfl := hww3.symm
                go_wp2_with fail
                refine (self_any _ _).mono ?_
                rw [HS2.out]
                rintro e w4 ⟨rfl, hww4⟩
                obtain rfl := hww4.symm
                go_wp2_with fail
                refine (enc_any _ _).mono ?_
                rw [← HP1.out]
                rintro e w5 ⟨rfl, hww5⟩
                obtain rfl := hww5.symm
                go_wp2_with fail
                refine (inv_any _ _ _).mono ?_
                rw [HV1.out]
                rintro e w6 ⟨rfl, hww6⟩
                obtain rfl := hww6.symm
                go_wp2_with fail
                refine (inv_any _ _ _).mono ?_
                rw [HV2.out]
                rintro e w7 ⟨rfl, hww7⟩
                obtain rfl := hww7.symm
                go_wp2_with fail
                go_quiet (fail)
                go_wp2_with fail
                all_goals go_roundg g
                all_goals first | omega | skip
                all_goals exact ⟨i + sx, j + sy, m - sx, n - sy, _, _, _, _, by omega, by omega, by omega, by omega, rfl, rfl, by omega, by omega, by omega, by omega, bdN hbl2 _, by omega, E.out⟩
            · as_aux_lemma =>
                obtain hxy0 : X = Y := by simpa using hv
                have hxy : (X == Y) = true := by simpa using hxy0
                clear hv hxy0
                go_wp2_with fail
                refine (dx _ hTr hAr).mono ?_
                rintro e w1 ⟨rfl, hb1⟩
                have hbl1 := bw hbl hb1
                have hT1 := hT.below hbl1
                have hA1 := bytes_below hA hbl1
                have hB1 := bytes_below hB hbl1
                go_wp2_with fail
                refine (dy _ hT1 hB1).mono ?_
                rintro e w2 ⟨rfl, hb2⟩
                have hbl2 := bw hbl1 hb2
                have d1 := cell_b (bytes_below hA hbl2) (show i < a.size by omega) X HX.out
                have d2 := cell_b (bytes_below hB hbl2) (show j < b.size by omega) Y HY.out
                go_wp2_with fail
                refine (self_any _ _).mono ?_
                rw [HS1.out]
                rintro e w3 ⟨rfl, hww3⟩
                obtain rfl := hww3.symm
                go_wp2_with fail
                refine (self_any _ _).mono ?_
                rw [HS2.out]
                rintro e w4 ⟨rfl, hww4⟩
                obtain rfl := hww4.symm
                go_wp2_with fail
                refine (enc_any _ _).mono ?_
                rw [← HP1.out]
                rintro e w5 ⟨rfl, hww5⟩
                obtain rfl := hww5.symm
                go_wp2_with fail
                refine (inv_any _ _ _).mono ?_
                rw [HV1.out]
                rintro e w6 ⟨rfl, hww6⟩
                obtain rfl := hww6.symm
                go_wp2_with fail
                refine (inv_any _ _ _).mono ?_
                rw [HV2.out]
                rintro e w7 ⟨rfl, hww7⟩
                obtain rfl := hww7.symm
                go_wp2_with fail
                go_quiet (fail)
                go_wp2_with fail
                go_quiet (fail)
                go_wp2_with fail
                all_goals go_roundg g
                all_goals first | omega | skip
                all_goals exact ⟨i + sx, j + sy, m - sx, n - sy, _, _, _, _, by omega, by omega, by omega, by omega, rfl, rfl, by omega, by omega, by omega, by omega, bdN hbl2 _, by omega, E.out⟩
          · as_aux_lemma =>
              obtain hxy0 : X = Y := by simpa using hv
              have hxy : (X == Y) = true := by simpa using hxy0
              clear hv hxy0
              go_wp2_with fail
              refine (dx _ hTr hAr).mono ?_
              rintro e w1 ⟨rfl, hb1⟩
              have hbl1 := bw hbl hb1
              have hT1 := hT.below hbl1
              have hA1 := bytes_below hA hbl1
              have hB1 := bytes_below hB hbl1
              go_wp2_with fail
              refine (dy _ hT1 hB1).mono ?_
              rintro e w2 ⟨rfl, hb2⟩
              have hbl2 := bw hbl1 hb2
              have d1 := cell_b (bytes_below hA hbl2) (show i < a.size by omega) X HX.out
              have d2 := cell_b (bytes_below hB hbl2) (show j < b.size by omega) Y HY.out
              go_wp2_with fail
              refine (self_any _ _).mono ?_
              rw [HS1.out]
              rintro e w3 ⟨rfl, hww3⟩
              obtain rfl := hww3.symm
              go_wp2_with fail
              refine (self_any _ _).mono ?_
              rw [HS2.out]
              rintro e w4 ⟨rfl, hww4⟩
              obtain rfl := hww4.symm
              go_wp2_with fail
              refine (enc_any _ _).mono ?_
              rw [← HP1.out]
              rintro e w5 ⟨rfl, hww5⟩
              obtain rfl := hww5.symm
              go_wp2_with fail
              refine (inv_any _ _ _).mono ?_
              rw [HV1.out]
              rintro e w6 ⟨rfl, hww6⟩
              obtain rfl := hww6.symm
              go_wp2_with fail
              go_quiet (fail)
              go_wp2_with fail
              go_quiet (fail)
              go_wp2_with fail
              all_goals go_roundg g
              all_goals first | omega | skip
              all_goals exact ⟨i + sx, j + sy, m - sx, n - sy, _, _, _, _, by omega, by omega, by omega, by omega, rfl, rfl, by omega, by omega, by omega, by omega, bdN hbl2 _, by omega, E.out⟩
      · as_aux_lemma =>
          obtain rfl : Q = q := HP2.out
          have E := Lib.hid (T3 hPQ)
          have hpq : (P == Q) = false := by simpa using hPQ
          clear T3 T4 T5 hPQ
          go_wp2_with fail
          refine (dx _ hTr hAr).mono ?_
          rintro e w1 ⟨rfl, hb1⟩
          have hbl1 := bw hbl hb1
          have hT1 := hT.below hbl1
          have hA1 := bytes_below hA hbl1
          have hB1 := bytes_below hB hbl1
          go_wp2_with fail
          refine (dy _ hT1 hB1).mono ?_
          rintro e w2 ⟨rfl, hb2⟩
          have hbl2 := bw hbl1 hb2
          have d1 := cell_b (bytes_below hA hbl2) (show i < a.size by omega) X HX.out
          have d2 := cell_b (bytes_below hB hbl2) (show j < b.size by omega) Y HY.out
          go_wp2_with fail
          refine (self_any _ _).mono ?_
          rw [HS1.out]
          rintro e w3 ⟨rfl, hww3⟩
          obtain rfl := hww3.symm
          go_wp2_with fail
          refine (self_any _ _).mono ?_
          rw [HS2.out]
          rintro e w4 ⟨rfl, hww4⟩
          obtain rfl := hww4.symm
          go_wp2_with fail
          refine (enc_any _ _).mono ?_
          rw [← HP1.out]
          rintro e w5 ⟨rfl, hww5⟩
          obtain rfl := hww5.symm
          go_wp2_with fail
          refine (cmp_rune _ _ _).mono ?_
          rintro e w6 ⟨rfl, rfl⟩
          go_wp2_with fail
          all_goals go_ret
          exact ⟨by rw [← E.out]; first | done | rfl, hbl2⟩
    · simp only [Bool.and_true, Bool.and_false, Bool.not_true, Bool.not_false, if_true, if_false, Bool.false_eq_true] at P1 P2
      have HP1 := Lib.hid P1
      have HP2 := Lib.hid P2
      clear P1 P2
      by_cases hPQ : P = Q
      · obtain rfl : P = r := HP1.out
        have U4 := T4 hPQ
        have U5 := T5 hPQ
        have hpq : (P == Q) = true := by simpa using hPQ
        clear T3 T4 T5 hPQ
        by_cases hv : (v1 || v2) = true ∧ X ≠ Y
        · have E := Lib.hid (U4 hv.1 hv.2)
          have hxy : (X == Y) = false := by simpa using hv.2
          have hvv := hv.1
          clear U4 U5 hv
          cases v1
          · as_aux_lemma =>
              obtain rfl : v2 = true := by simpa using hvv
              clear hvv
              go_wp2_with fail
              refine (dx _ hTr hAr).mono ?_
              rintro e w1 ⟨rfl, hb1⟩
              have hbl1 := bw hbl hb1
              have hT1 := hT.below hbl1
              have hA1 := bytes_below hA hbl1
              have hB1 := bytes_below hB hbl1
              go_wp2_with fail
              refine (dy _ hT1 hB1).mono ?_
              rintro e w2 ⟨rfl, hb2⟩
              have hbl2 := bw hbl1 hb2
              have d1 := cell_b (bytes_below hA hbl2) (show i < a.size by omega) X HX.out
              have d2 := cell_b (bytes_below hB hbl2) (show j < b.size by omega) Y HY.out
              go_wp2_with fail
              refine (self_any _ _).mono ?_
              rw [HS1.out]
              rintro e w3 ⟨rfl, hww3⟩
              obtain rfl := hww3.symm
              go_wp2_with fail
              refine (self_any _ _).mono ?_
              rw [HS2.out]
              rintro e w4 ⟨rfl, hww4⟩
              obtain rfl := hww4.symm
              go_wp2_with fail
              refine (enc_any _ _).mono ?_
              rw [← HP2.out]
              rintro e w5 ⟨rfl, hww5⟩
              obtain rfl := hww5.symm
              go_wp2_with fail
              refine (inv_any _ _ _).mono ?_
              rw [HV1.out]
              rintro e w6 ⟨rfl, hww6⟩
              obtain rfl := hww6.symm
              go_wp2_with fail
              refine (inv_any _ _ _).mono ?_
              rw [HV2.out]
              rintro e w7 ⟨rfl, hww7⟩
              obtain rfl := hww7.symm
              go_wp2_with fail
              go_quiet (fail)
              go_wp2_with fail
              have k1 : (w2.drewN nq).cell? ⟨ba, i, none⟩ = some (.int .u8 X) := d1
              have k2 : (w2.drewN nq).cell? ⟨bb, j, none⟩ = some (.int .u8 Y) := d2
              have k3 : Below w.heap.size w (w2.drewN nq) := bdN hbl2 nq
              generalize w2.drewN nq = wq at k1 k2 k3 ⊢
              go_quiet ((go_at_call 54; exact Calls.quiet_of_same (cmp_byte _ _ _)))
              go_wp2_with fail
              all_goals go_ret
              exact ⟨by rw [← E.out]; first | done | rfl, bdN k3 _⟩
          · as_aux_lemma =>
              clear hvv
              go_wp2_with fail
              refine (dx _ hTr hAr).mono ?_
              rintro e w1 ⟨rfl, hb1⟩
              have hbl1 := bw hbl hb1
              have hT1 := hT.below hbl1
              have hA1 := bytes_below hA hbl1
              have hB1 := bytes_below hB hbl1
              go_wp2_with fail
              refine (dy _ hT1 hB1).mono ?_
              rintro e w2 ⟨rfl, hb2⟩
              have hbl2 := bw hbl1 hb2
              have d1 := cell_b (bytes_below hA hbl2) (show i < a.size by omega) X HX.out
              have d2 := cell_b (bytes_below hB hbl2) (show j < b.size by omega) Y HY.out
              go_wp2_with fail
              refine (self_any _ _).mono ?_
              rw [HS1.out]
              rintro e w3 ⟨rfl, hww3⟩
              obtain rfl := hww3.symm
              go_wp2_with fail
              refine (self_any _ _).mono ?_
              rw [HS2.out]
              rintro e w4 ⟨rfl, hww4⟩
              obtain rfl := hww4.symm
              go_wp2_with fail
              refine (enc_any _ _).mono ?_
              rw [← HP2.out]
              rintro e w5 ⟨rfl, hww5⟩
              obtain rfl := hww5.symm
              go_wp2_with fail
              refine (inv_any _ _ _).mono ?_
              rw [HV1.out]
              rintro e w6 ⟨rfl, hww6⟩
              obtain rfl := hww6.symm
              go_wp2_with fail
              go_quiet (fail)
              go_wp2_with fail
              have k1 : (w2.drewN nq).cell? ⟨ba, i, none⟩ = some (.int .u8 X) := d1
              have k2 : (w2.drewN nq).cell? ⟨bb, j, none⟩ = some (.int .u8 Y) := d2
              have k3 : Below w.heap.size w (w2.drewN nq) := bdN hbl2 nq
              generalize w2.drewN nq = wq at k1 k2 k3 ⊢
              go_quiet ((go_at_call 54; exact Calls.quiet_of_same (cmp_byte _ _ _)))
              go_wp2_with fail
              all_goals go_ret
              exact ⟨by rw [← E.out]; first | done | rfl, bdN k3 _⟩
        · have E := Lib.hid (U5 hv)
          clear U4 U5
          cases v1
          · cases v2
            · as_aux_lemma =>
                clear hv
                go_wp2_with fail
                refine (dx _ hTr hAr).mono ?_
                rintro e w1 ⟨rfl, hb1⟩
                have hbl1 := bw hbl hb1
                have hT1 := hT.below hbl1
                have hA1 := bytes_below hA hbl1
                have hB1 := bytes_below hB hbl1
                go_wp2_with fail
                refine (dy _ hT1 hB1).mono ?_
                rintro e w2 ⟨rfl, hb2⟩
                have hbl2 := bw hbl1 hb2
                have d1 := cell_b (bytes_below hA hbl2) (show i < a.size by omega) X HX.out
                have d2 := cell_b (bytes_below hB hbl2) (show j < b.size by omega) Y HY.out
                go_wp2_with fail
                refine (self_any _ _).mono ?_
                rw [HS1.out]
                rintro e w3 ⟨rfl, hww3⟩
                obtain rfl := hww3.symm
                go_wp2_with fail
                refine (self_any _ _).mono ?_
                rw [HS2.out]
                rintro e w4 ⟨rfl, hww4⟩
                obtain rfl := hww4.symm
                go_wp2_with fail
                refine (enc_any _ _).mono ?_
                rw [← HP2.out]
                rintro e w5 ⟨rfl, hww5⟩
                obtain rfl := hww5.symm
                go_wp2_with fail
                refine (inv_any _ _ _).mono ?_
                rw [HV1.out]
                rintro e w6 ⟨rfl, hww6⟩
                obtain rfl := hww6.symm
                go_wp2_with fail
                refine (inv_any _ _ _).mono ?_
                rw [HV2.out]
                rintro e w7 ⟨rfl, hww7⟩
                obtain rfl := hww7.symm
                go_wp2_with fail
                go_quiet (fail)
                go_wp2_with fail
                all_goals go_roundg g
                all_goals first | omega | skip
                all_goals exact ⟨i + sx, j + sy, m - sx, n - sy, _, _, _, _, by omega, by omega, by omega, by omega, rfl, rfl, by omega, by omega, by omega, by omega, bdN hbl2 _, by omega, E.out⟩
            · as_aux_lemma =>
                obtain hxy0 : X = Y := by simpa using hv
                have hxy : (X == Y) = true := by simpa using hxy0
                clear hv hxy0
                go_wp2_with fail
                refine (dx _ hTr hAr).mono ?_
                rintro e w1 ⟨rfl, hb1⟩
                have hbl1 := bw hbl hb1
                have hT1 := hT.below hbl1
                have hA1 := bytes_below hA hbl1
                have hB1 := bytes_below hB hbl1
                go_wp2_with fail
                refine (dy _ hT1 hB1).mono ?_
                rintro e w2 ⟨rfl, hb2⟩
                have hbl2 := bw hbl1 hb2
                have d1 := cell_b (bytes_below hA hbl2) (show i < a.size by omega) X HX.out
                have d2 := cell_b (bytes_below hB hbl2) (show j < b.size by omega) Y HY.out
                go_wp2_with fail
                refine (self_any _ _).mono ?_
                rw [HS1.out]
                rintro e w3 ⟨rfl, hww3⟩
                obtain rfl := hww3.symm
                go_wp2_with fail
                refine (self_any _ _).mono ?_
                rw [HS2.out]
                rintro e w4 ⟨rfl, hww4⟩
                obtain rfl := hww4.symm
                go_wp2_with fail
                refine (enc_any _ _).mono ?_
                rw [← HP2.out]
                rintro e w5 ⟨rfl, hww5⟩
                obtain rfl := hww5.symm
                go_wp2_with fail
                refine (inv_any _ _ _).mono ?_
                rw [HV1.out]
                rintro e w6 ⟨rfl, hww6⟩
                obtain rfl := hww6.symm
                go_wp2_with fail
                refine (inv_any _ _ _).mono ?_
                rw [HV2.out]
                rintro e w7 ⟨rfl, hww7⟩
                obtain rfl := hww7.symm
                go_wp2_with fail
                go_quiet (fail)
                go_wp2_with fail
                go_quiet (fail)
                go_wp2_with fail
                all_goals go_roundg g
                all_goals first | omega | skip
                all_goals exact ⟨i + sx, j + sy, m - sx, n - sy, _, _, _, _, by omega, by omega, by omega, by omega, rfl, rfl, by omega, by omega, by omega, by omega, bdN hbl2 _, by omega, E.out⟩
          · as_aux_lemma =>
              obtain hxy0 : X = Y := by simpa using hv
              have hxy : (X == Y) = true := by simpa using hxy0
              clear hv hxy0
              go_wp2_with fail
              refine (dx _ hTr hAr).mono ?_
              rintro e w1 ⟨rfl, hb1⟩
              have hbl1 := bw hbl hb1
              have hT1 := hT.below hbl1
              have hA1 := bytes_below hA hbl1
              have hB1 := bytes_below hB hbl1
              go_wp2_with fail
              refine (dy _ hT1 hB1).mono ?_
              rintro e w2 ⟨rfl, hb2⟩
              have hbl2 := bw hbl1 hb2
              have d1 := cell_b (bytes_below hA hbl2) (show i < a.size by omega) X HX.out
              have d2 := cell_b (bytes_below hB hbl2) (show j < b.size by omega) Y HY.out
              go_wp2_with fail
              refine (self_any _ _).mono ?_
              rw [HS1.out]
              rintro e w3 ⟨rfl, hww3⟩
              obtain rfl := hww3.symm
              go_wp2_with fail
              refine (self_any _ _).mono ?_
              rw [HS2.out]
              rintro e w4 ⟨rfl, hww4⟩
              obtain rfl := hww4.symm
              go_wp2_with fail
              refine (enc_any _ _).mono ?_
              rw [← HP2.out]
              rintro e w5 ⟨rfl, hww5⟩
              obtain rfl := hww5.symm
              go_wp2_with fail
              refine (inv_any _ _ _).mono ?_
              rw [HV1.out]
              rintro e w6 ⟨rfl, hww6⟩
              obtain rfl := hww6.symm
              go_wp2_with fail
              go_quiet (fail)
              go_wp2_with fail
              go_quiet (fail)
              go_wp2_with fail
              all_goals go_roundg g
              all_goals first | omega | skip
              all_goals exact ⟨i + sx, j + sy, m - sx, n - sy, _, _, _, _, by omega, by omega, by omega, by omega, rfl, rfl, by omega, by omega, by omega, by omega, bdN hbl2 _, by omega, E.out⟩
      · as_aux_lemma =>
          obtain rfl : P = r := HP1.out
          have E := Lib.hid (T3 hPQ)
          have hpq : (P == Q) = false := by simpa using hPQ
          clear T3 T4 T5 hPQ
          go_wp2_with fail
          refine (dx _ hTr hAr).mono ?_
          rintro e w1 ⟨rfl, hb1⟩
          have hbl1 := bw hbl hb1
          have hT1 := hT.below hbl1
          have hA1 := bytes_below hA hbl1
          have hB1 := bytes_below hB hbl1
          go_wp2_with fail
          refine (dy _ hT1 hB1).mono ?_
          rintro e w2 ⟨rfl, hb2⟩
          have hbl2 := bw hbl1 hb2
          have d1 := cell_b (bytes_below hA hbl2) (show i < a.size by omega) X HX.out
          have d2 := cell_b (bytes_below hB hbl2) (show j < b.size by omega) Y HY.out
          go_wp2_with fail
          refine (self_any _ _).mono ?_
          rw [HS1.out]
          rintro e w3 ⟨rfl, hww3⟩
          obtain rfl := hww3.symm
          go_wp2_with fail
          refine (self_any _ _).mono ?_
          rw [HS2.out]
          rintro e w4 ⟨rfl, hww4⟩
          obtain rfl := hww4.symm
          go_wp2_with fail
          refine (enc_any _ _).mono ?_
          rw [← HP2.out]
          rintro e w5 ⟨rfl, hww5⟩
          obtain rfl := hww5.symm
          go_wp2_with fail
          refine (cmp_rune _ _ _).mono ?_
          rintro e w6 ⟨rfl, rfl⟩
          go_wp2_with fail
          all_goals go_ret
          exact ⟨by rw [← E.out]; first | done | rfl, hbl2⟩
    · simp only [Bool.and_false, Bool.not_true, if_false, Bool.false_eq_true] at P1 P2
      have HP1 := Lib.hid P1
      have HP2 := Lib.hid P2
      clear P1 P2
      by_cases hPQ : P = Q
      · obtain rfl : Q = q := HP2.out
        obtain rfl : P = r := HP1.out
        have U4 := T4 hPQ
        have U5 := T5 hPQ
        have hpq : (P == Q) = true := by simpa using hPQ
        clear T3 T4 T5 hPQ
        by_cases hv : (v1 || v2) = true ∧ X ≠ Y
        · have E := Lib.hid (U4 hv.1 hv.2)
          have hxy : (X == Y) = false := by simpa using hv.2
          have hvv := hv.1
          clear U4 U5 hv
          cases v1
          · as_aux_lemma =>
              obtain rfl : v2 = true := by simpa using hvv
              clear hvv
              go_wp2_with fail
              refine (dx _ hTr hAr).mono ?_
              rintro e w1 ⟨rfl, hb1⟩
              have hbl1 := bw hbl hb1
              have hT1 := hT.below hbl1
              have hA1 := bytes_below hA hbl1
              have hB1 := bytes_below hB hbl1
              go_wp2_with fail
              refine (dy _ hT1 hB1).mono ?_
              rintro e w2 ⟨rfl, hb2⟩
              have hbl2 := bw hbl1 hb2
              have d1 := cell_b (bytes_below hA hbl2) (show i < a.size by omega) X HX.out
              have d2 := cell_b (bytes_below hB hbl2) (show j < b.size by omega) Y HY.out
              go_wp2_with fail
              refine (self_any _ _).mono ?_
              rw [HS1.out]
              rintro e w3 ⟨rfl, hww3⟩
              obtain rfl := hww3.symm
              go_wp2_with fail
              refine (self_any _ _).mono ?_
              rw [HS2.out]
              rintro e w4 ⟨rfl, hww4⟩
              obtain rfl := hww4.symm
              go_wp2_with fail
              refine (inv_any _ _ _).mono ?_
              rw [HV1.out]
              rintro e w6 ⟨rfl, hww6⟩
              obtain rfl := hww6.symm
              go_wp2_with fail
              refine (inv_any _ _ _).mono ?_
              rw [HV2.out]
              rintro e w7 ⟨rfl, hww7⟩
              obtain rfl := hww7.symm
              go_wp2_with fail
              go_quiet (fail)
              go_wp2_with fail
              have k1 : (w2.drewN nq).cell? ⟨ba, i, none⟩ = some (.int .u8 X) := d1
              have k2 : (w2.drewN nq).cell? ⟨bb, j, none⟩ = some (.int .u8 Y) := d2
              have k3 : Below w.heap.size w (w2.drewN nq) := bdN hbl2 nq
              generalize w2.drewN nq = wq at k1 k2 k3 ⊢
              go_quiet ((go_at_call 54; exact Calls.quiet_of_same (cmp_byte _ _ _)))
              go_wp2_with fail
              all_goals go_ret
              exact ⟨by rw [← E.out]; first | done | rfl, bdN k3 _⟩
          · as_aux_lemma =>
              clear hvv
              go_wp2_with fail
              refine (dx _ hTr hAr).mono ?_
              rintro e w1 ⟨rfl, hb1⟩
              have hbl1 := bw hbl hb1
              have hT1 := hT.below hbl1
              have hA1 := bytes_below hA hbl1
              have hB1 := bytes_below hB hbl1
              go_wp2_with fail
              refine (dy _ hT1 hB1).mono ?_
              rintro e w2 ⟨rfl, hb2⟩
              have hbl2 := bw hbl1 hb2
              have d1 := cell_b (bytes_below hA hbl2) (show i < a.size by omega) X HX.out
              have d2 := cell_b (bytes_below hB hbl2) (show j < b.size by omega) Y HY.out
              go_wp2_with fail
              refine (self_any _ _).mono ?_
              rw [HS1.out]
              rintro e w3 ⟨rfl, hww3⟩
              obtain rfl := hww3.symm
              go_wp2_with fail
              refine (self_any _ _).mono ?_
              rw [HS2.out]
              rintro e w4 ⟨rfl, hww4⟩
              obtain rfl := hww4.symm
              go_wp2_with fail
              refine (inv_any _ _ _).mono ?_
              rw [HV1.out]
              rintro e w6 ⟨rfl, hww6⟩
              obtain rfl := hww6.symm
              go_wp2_with fail
              go_quiet (fail)
              go_wp2_with fail
              have k1 : (w2.drewN nq).cell? ⟨ba, i, none⟩ = some (.int .u8 X) := d1
              have k2 : (w2.drewN nq).cell? ⟨bb, j, none⟩ = some (.int .u8 Y) := d2
              have k3 : Below w.heap.size w (w2.drewN nq) := bdN hbl2 nq
              generalize w2.drewN nq = wq at k1 k2 k3 ⊢
              go_quiet ((go_at_call 54; exact Calls.quiet_of_same (cmp_byte _ _ _)))
              go_wp2_with fail
              all_goals go_ret
              exact ⟨by rw [← E.out]; first | done | rfl, bdN k3 _⟩
        · have E := Lib.hid (U5 hv)
          clear U4 U5
          cases v1
          · cases v2
            · as_aux_lemma =>
                clear hv
                go_wp2_with fail
                refine (dx _ hTr hAr).mono ?_
                rintro e w1 ⟨rfl, hb1⟩
                have hbl1 := bw hbl hb1
                have hT1 := hT.below hbl1
                have hA1 := bytes_below hA hbl1
                have hB1 := bytes_below hB hbl1
                go_wp2_with fail
                refine (dy _ hT1 hB1).mono ?_
                rintro e w2 ⟨rfl, hb2⟩
                have hbl2 := bw hbl1 hb2
                have d1 := cell_b (bytes_below hA hbl2) (show i < a.size by omega) X HX.out
                have d2 := cell_b (bytes_below hB hbl2) (show j < b.size by omega) Y HY.out
                go_wp2_with fail
                refine (self_any _ _).mono ?_
                rw [HS1.out]
                rintro e w3 ⟨rfl, hww3⟩
                obtain rfl := hww3.symm
                go_wp2_with fail
                refine (self_any _ _).mono ?_
                rw [HS2.out]
                rintro e w4 ⟨rfl, hww4⟩
                obtain rfl := hww4.symm
                go_wp2_with fail
                refine (inv_any _ _ _).mono ?_
                rw [HV1.out]
                rintro e w6 ⟨rfl, hww6⟩
                obtain rfl := hww6.symm
                go_wp2_with fail
                refine (inv_any _ _ _).mono ?_
                rw [HV2.out]
                rintro e w7 ⟨rfl, hww7⟩
                obtain rfl := hww7.symm
                go_wp2_with fail
                go_quiet (fail)
                go_wp2_with fail
                all_goals go_roundg g
                all_goals first | omega | skip
                all_goals exact ⟨i + sx, j + sy, m - sx, n - sy, _, _, _, _, by omega, by omega, by omega, by omega, rfl, rfl, by omega, by omega, by omega, by omega, bdN hbl2 _, by omega, E.out⟩
            · as_aux_lemma =>
                obtain hxy0 : X = Y := by simpa using hv
                have hxy : (X == Y) = true := by simpa using hxy0
                clear hv hxy0
                go_wp2_with fail
                refine (dx _ hTr hAr).mono ?_
                rintro e w1 ⟨rfl, hb1⟩
                have hbl1 := bw hbl hb1
                have hT1 := hT.below hbl1
                have hA1 := bytes_below hA hbl1
                have hB1 := bytes_below hB hbl1
                go_wp2_with fail
                refine (dy _ hT1 hB1).mono ?_
                rintro e w2 ⟨rfl, hb2⟩
                have hbl2 := bw hbl1 hb2
                have d1 := cell_b (bytes_below hA hbl2) (show i < a.size by omega) X HX.out
                have d2 := cell_b (bytes_below hB hbl2) (show j < b.size by omega) Y HY.out
                go_wp2_with fail
                refine (self_any _ _).mono ?_
                rw [HS1.out]
                rintro e w3 ⟨rfl, hww3⟩
                obtain rfl := hww3.symm
                go_wp2_with fail
                refine (self_any _ _).mono ?_
                rw [HS2.out]
                rintro e w4 ⟨rfl, hww4⟩
                obtain rfl := hww4.symm
                go_wp2_with fail
                refine (inv_any _ _ _).mono ?_
                rw [HV1.out]
                rintro e w6 ⟨rfl, hww6⟩
                obtain rfl := hww6.symm
                go_wp2_with fail
                refine (inv_any _ _ _).mono ?_
                rw [HV2.out]
                rintro e w7 ⟨rfl, hww7⟩
                obtain rfl := hww7.symm
                go_wp2_with fail
                go_quiet (fail)
                go_wp2_with fail
                go_quiet (fail)
                go_wp2_with fail
                all_goals go_roundg g
                all_goals first | omega | skip
                all_goals exact ⟨i + sx, j + sy, m - sx, n - sy, _, _, _, _, by omega, by omega, by omega, by omega, rfl, rfl, by omega, by omega, by omega, by omega, bdN hbl2 _, by omega, E.out⟩
          · as_aux_lemma =>
              obtain hxy0 : X = Y := by simpa using hv
              have hxy : (X == Y) = true := by simpa using hxy0
              clear hv hxy0
              go_wp2_with fail
              refine (dx _ hTr hAr).mono ?_
              rintro e w1 ⟨rfl, hb1⟩
              have hbl1 := bw hbl hb1
              have hT1 := hT.below hbl1
              have hA1 := bytes_below hA hbl1
              have hB1 := bytes_below hB hbl1
              go_wp2_with fail
              refine (dy _ hT1 hB1).mono ?_
              rintro e w2 ⟨rfl, hb2⟩
              have hbl2 := bw hbl1 hb2
              have d1 := cell_b (bytes_below hA hbl2) (show i < a.size by omega) X HX.out
              have d2 := cell_b (bytes_below hB hbl2) (show j < b.size by omega) Y HY.out
              go_wp2_with fail
              refine (self_any _ _).mono ?_
              rw [HS1.out]
              rintro e w3 ⟨rfl, hww3⟩
              obtain rfl := hww3.symm
              go_wp2_with fail
              refine (self_any _ _).mono ?_
              rw [HS2.out]
              rintro e w4 ⟨rfl, hww4⟩
              obtain rfl := hww4.symm
              go_wp2_with fail
              refine (inv_any _ _ _).mono ?_
              rw [HV1.out]
              rintro e w6 ⟨rfl, hww6⟩
              obtain rfl := hww6.symm
              go_wp2_with fail
              go_quiet (fail)
              go_wp2_with fail
              go_quiet (fail)
              go_wp2_with fail
              all_goals go_roundg g
              all_goals first | omega | skip
              all_goals exact ⟨i + sx, j + sy, m - sx, n - sy, _, _, _, _, by omega, by omega, by omega, by omega, rfl, rfl, by omega, by omega, by omega, by omega, bdN hbl2 _, by omega, E.out⟩
      · as_aux_lemma =>
          obtain rfl : Q = q := HP2.out
          obtain rfl : P = r := HP1.out
          have E := Lib.hid (T3 hPQ)
          have hpq : (P == Q) = false := by simpa using hPQ
          clear T3 T4 T5 hPQ
          go_wp2_with fail
          refine (dx _ hTr hAr).mono ?_
          rintro e w1 ⟨rfl, hb1⟩
          have hbl1 := bw hbl hb1
          have hT1 := hT.below hbl1
          have hA1 := bytes_below hA hbl1
          have hB1 := bytes_below hB hbl1
          go_wp2_with fail
          refine (dy _ hT1 hB1).mono ?_
          rintro e w2 ⟨rfl, hb2⟩
          have hbl2 := bw hbl1 hb2
          have d1 := cell_b (bytes_below hA hbl2) (show i < a.size by omega) X HX.out
          have d2 := cell_b (bytes_below hB hbl2) (show j < b.size by omega) Y HY.out
          go_wp2_with fail
          refine (self_any _ _).mono ?_
          rw [HS1.out]
          rintro e w3 ⟨rfl, hww3⟩
          obtain rfl := hww3.symm
          go_wp2_with fail
          refine (self_any _ _).mono ?_
          rw [HS2.out]
          rintro e w4 ⟨rfl, hww4⟩
          obtain rfl := hww4.symm
          go_wp2_with fail
          refine (cmp_rune _ _ _).mono ?_
          rintro e w6 ⟨rfl, rfl⟩
          go_wp2_with fail
          all_goals go_ret
          exact ⟨by rw [← E.out]; first | done | rfl, hbl2⟩
end Go.Proofs.YtbnnjjilkpdanaaDoor
