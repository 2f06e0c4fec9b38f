/- Joined texts: Nn, Nm, No. -/
import Derived.Test.YtjbffgjclnjkoaaGreatDoorDw
import Derived.Test.YtjbffgjclnjkoaaGreatDoorHe
import Derived.Test.YtjbffgjclnjkoaaGreatDoorA1
import Derived.RegionTactic
import Derived.BigRegion
import Derived.Test.YtjbffgjclnjkoaaGreatDoorKw
namespace Go.Proofs.YtjbffgjclnjkoaaGreatDoor
set_option linter.unusedVariables false
set_option linter.unusedSimpArgs false
section
/- (Nn) Numbers of the reference: DecimalOf. Printed by gennn.py. -/
open Go.RowKit

/-- One byte ahead of the exponent. -/
def d1S (c : Int) (ds : List Int) (p : Int) (b : Bool) : List Int × Int × Bool :=
  if c = 46 then (ds, p, true)
  else if 48 ≤ c ∧ c ≤ 57 then (if 0 < ds.length ∨ c ≠ 48 then ds ++ [c] else ds, if b then p - 1 else p, b)
  else (ds, p, b)
def d1F (s : ByteArray) : Nat → Nat → List Int → Int → Bool → List Int × Int × Nat
  | 0, i, ds, p, _ => (ds, p, i)
  | g + 1, i, ds, p, b => if i < s.size ∧ bAt s i ≠ 101 ∧ bAt s i ≠ 69 then d1F s g (i + 1) (d1S (bAt s i) ds p b).1 (d1S (bAt s i) ds p b).2.1 (d1S (bAt s i) ds p b).2.2 else (ds, p, i)
/-- One byte of the exponent. -/
def d2S (c e : Int) (dn : Bool) : Int × Bool := (if 48 ≤ c ∧ c ≤ 57 then min (10 * e + (c - 48)) 100000 else e, if c = 45 then true else dn)
def d2F (s : ByteArray) : Nat → Nat → Int → Bool → Int × Bool
  | 0, _, e, dn => (e, dn)
  | g + 1, i, e, dn => if i < s.size then d2F s g (i + 1) (d2S (bAt s i) e dn).1 (d2S (bAt s i) e dn).2 else (e, dn)
/-- Digits, power, sign. -/
def dcF (s : ByteArray) : List Int × Int × Bool :=
  ((d1F s s.size 0 [] 0 false).1, (d1F s s.size 0 [] 0 false).2.1 + (if (d2F s (s.size - (d1F s s.size 0 [] 0 false).2.2) (d1F s s.size 0 [] 0 false).2.2 0 false).2 then -(d2F s (s.size - (d1F s s.size 0 [] 0 false).2.2) (d1F s s.size 0 [] 0 false).2.2 0 false).1 else (d2F s (s.size - (d1F s s.size 0 [] 0 false).2.2) (d1F s s.size 0 [] 0 false).2.2 0 false).1),
    decide (0 < s.size) && decide (bAt s 0 = 45))
theorem d1F_end (s : ByteArray) (g i : Nat) (ds : List Int) (p : Int) (b : Bool) (h : ¬ (i < s.size ∧ bAt s i ≠ 101 ∧ bAt s i ≠ 69)) : d1F s g i ds p b = (ds, p, i) := by
  cases g with
  | zero => rfl
  | succ g => rw [d1F, if_neg h]
theorem d2F_end (s : ByteArray) (g i : Nat) (e : Int) (dn : Bool) (h : ¬ i < s.size) : d2F s g i e dn = (e, dn) := by
  cases g with
  | zero => rfl
  | succ g => rw [d2F, if_neg h]
set_option maxRecDepth 100000 in
set_option maxHeartbeats 8000000 in
theorem decimal_any (s : ByteArray) (w : World) (hs : s.size ≤ 10000) :
    Calls Tryz.prog 38 #[.string s] w fun e w' => (∃ ds p b, e = .returned (.tuple #[.agg #[.string (txt ds), .int .i64 p], .bool b]) ∧ (ds, p, b) = dcF s ∧ ds.length ≤ 10000 ∧ -200000 ≤ p ∧ p ≤ 200000) ∧ Below w.heap.size w w' := by
  obtain ⟨i0, hi, hz0, hz1, hz2⟩ := info_parts Tryz.infoU8
  obtain ⟨w1, hw1⟩ : ∃ w1, w.alloc (.cells #[.string ⟨#[]⟩, .int .i64 0] 81) = w1 := ⟨_, rfl⟩
  have hC1 : w1.heap[w.heap.size]? = some (.cells #[.string ⟨#[]⟩, .int .i64 0] 81) := by rw [← hw1]; exact heap_alloc_new w _
  have hz1' : w1.heap.size = w.heap.size + 1 := by rw [← hw1]; simp
  have b1 : Below w.heap.size w w1 := by rw [← hw1]; exact (Below.refl _ _).alloc (Nat.le_refl _) _
  obtain ⟨B, hBa, hBb⟩ : ∃ B, B ≤ w1.heap.size ∧ w1.heap.size ≤ B := ⟨_, Nat.le_refl _, Nat.le_refl _⟩
  have hbs0 := (bs_zero w1).mono hBa
  obtain ⟨T, hT⟩ : ∃ T, d1F s s.size 0 [] 0 false = T := ⟨_, rfl⟩
  have A0 : Aside (d1F s s.size 0 [] 0 false = T) := hT
  obtain ⟨mb, hmb⟩ : ∃ mb, (decide (0 < s.size) && decide (bAt s 0 = 45)) = mb := ⟨_, rfl⟩
  have HZ1 := Lib.hid hz1'
  have HC1 := Lib.hid hC1
  have HDC : Hid (∀ e dn, d2F s (s.size - T.2.2) T.2.2 0 false = (e, dn) → (T.1, T.2.1 + (if dn then -e else e), mb) = dcF s) := Lib.hid fun e dn h => by
    unfold dcF
    rw [hT, h, hmb]
  have hsI : (s.size : Int) ≤ 10000 := by omega
  have HMB := Lib.hid hmb
  clear hz1' hC1 hT hmb
  go_enter Tryz.func38, Tryz.ntmps38
  go_upto_region 1 with fail
  go_cut [4] from 11 to 18 (fun v wx => v = .bool mb ∧ wx = w1)
  case first =>
    by_cases h0 : 0 < s.size
    · have hb0 := bAt_lt h0
      have h0I : (0 : Int) < (s.size : Int) := by omega
      obtain ⟨X, hX⟩ : ∃ X, (s[0].toNat : Int) = X := ⟨_, rfl⟩
      rw [hX] at hb0
      have hmb := HMB.out
      rw [hb0] at hmb
      clear hb0
      by_cases h45 : X = 45
      · obtain rfl : true = mb := by rw [← hmb]; simp [h0, h45]
        subst h45
        clear hmb
        go_wp2_with fail
        go_meet
        exact ⟨rfl, rfl⟩
      · obtain rfl : false = mb := by rw [← hmb]; simp [h45]
        have d45 : (X == 45) = false := by simpa using h45
        clear hmb h45
        go_wp2_with fail
        go_meet
        exact ⟨rfl, rfl⟩
    · obtain rfl : false = mb := by rw [← HMB.out]; simp [h0]
      have h0I : (s.size : Int) ≤ 0 := by omega
      clear h0
      go_wp2_with fail
      go_meet
      exact ⟨rfl, rfl⟩
  case rest =>
  obtain ⟨rfl, hwc⟩ := hcut
  obtain rfl := hwc.symm
  go_wp2_with fail
  go_loopg [5, 6, 7, 8] (s.size) (fun g v pw bh i wr => ∃ (k : Nat) (v' : Value) (ds : List Int) (p : Int) (b : Bool), i = .int .i64 k ∧ v' = v ∧ pw = .int .i64 p ∧ bh = .bool b ∧ k ≤ s.size ∧ s.size - k ≤ g ∧ Bs wr B v' ds ∧ ds.length ≤ k ∧ -(k : Int) ≤ p ∧ p ≤ 0 ∧ Below w1.heap.size w1 wr ∧ Aside (d1F s g k ds p b = T))
  case atStart => exact ⟨0, _, [], 0, false, rfl, rfl, rfl, rfl, Nat.zero_le _, Nat.le_refl _, hbs0, by simp, by decide, by decide, (Below.refl _ _).alloc (Nat.le_refl _) _, A0⟩
  case round =>
    clear A0 hbs0 hw1
    obtain ⟨k, v, ds, p, b, rfl, rfl, rfl, rfl, hk, hg, hbs, hll, hp0, hp1, hbel, A⟩ := hrel
    have hBr := hbel.size
    by_cases hkt : k < s.size
    · have hkI : (k : Int) < (s.size : Int) := by omega
      have hb := bAt_lt hkt
      have hbd0 := bAt_nonneg s k
      have hbd1 := bAt_le s k
      obtain ⟨X, hX⟩ : ∃ X, (s[k].toNat : Int) = X := ⟨_, rfl⟩
      rw [hX] at hb
      rw [hb] at hbd0 hbd1
      by_cases h101 : X = 101
      · subst h101
        have HA2 : Hid ((ds, p, k) = T) := Lib.hid (by have A1 := A; unfold Aside at A1; rw [d1F_end s gk k ds p b (by rw [hb]; omega)] at A1; exact A1)
        obtain ⟨D2, hD2⟩ : ∃ D2, d2F s (s.size - k) k 0 false = D2 := ⟨_, rfl⟩
        have A2 : Aside (d2F s (s.size - k) k 0 false = D2) := hD2
        have HF : Hid ((ds, p + (if D2.2 then -D2.1 else D2.1), mb) = dcF s) := Lib.hid (by
          have h1 := HDC.out D2.1 D2.2
          rw [← HA2.out] at h1
          exact h1 hD2)
        clear A hD2
        go_wp2_with fail
        go_loopg [8, 9, 10] (s.size + 1) (fun g i e dn wx => ∃ (m : Nat) (ex : Int) (d : Bool), i = .int .i64 m ∧ e = .int .i64 ex ∧ dn = .bool d ∧ m ≤ s.size ∧ s.size + 1 - m ≤ g ∧ 0 ≤ ex ∧ ex ≤ 100000 ∧ wx = wr ∧ Aside (d2F s (s.size - m) m ex d = D2))
        case atStart => exact ⟨k, 0, false, rfl, rfl, rfl, by omega, by omega, by decide, by decide, rfl, A2⟩
        case round =>
          clear A2
          obtain ⟨m, ex, d, rfl, rfl, rfl, hm, hmg, hx0, hx1, hwx, A⟩ := hrel
          subst hwx
          by_cases hmt : m < s.size
          · have hmI : (m : Int) < (s.size : Int) := by omega
            have hb := bAt_lt hmt
            obtain ⟨Y, hY⟩ : ∃ Y, (s[m].toNat : Int) = Y := ⟨_, rfl⟩
            rw [hY] at hb
            have A1 : d2F s (s.size - m) m ex d = D2 := A
            rw [show s.size - m = (s.size - (m + 1)) + 1 by omega, d2F, if_pos hmt, hb] at A1
            clear A hb
            by_cases h45 : Y = 45
            · have e2 : d2S Y ex d = (ex, true) := by unfold d2S; rw [if_neg (by omega), if_pos h45]
              rw [e2] at A1
              have A2 : Aside (d2F s (s.size - (m + 1)) (m + 1) ex true = D2) := A1
              subst h45
              clear A1 e2
              go_wp2_with fail
              go_roundg (gk - 1)
              case measure => omega
              case rel => exact ⟨m + 1, ex, true, by go_num, rfl, rfl, by omega, by omega, hx0, hx1, rfl, A2⟩
            have d45 : (Y == 45) = false := by simpa using h45
            by_cases hdg : 48 ≤ Y ∧ Y ≤ 57
            · obtain ⟨ey, hey⟩ : ∃ ey, min (10 * ex + (Y - 48)) 100000 = ey := ⟨_, rfl⟩
              have e2 : d2S Y ex d = (ey, d) := by unfold d2S; rw [if_pos hdg, if_neg h45, hey]
              rw [e2] at A1
              have A2 : Aside (d2F s (s.size - (m + 1)) (m + 1) ey d = D2) := A1
              obtain ⟨g48, g57⟩ := hdg
              have f1 : IntKind.u8.wrap (Y - 48) = Y - 48 := by rw [IntKind.wrap_u8]; omega
              have f2 : IntKind.i64.wrap (Y - 48) = Y - 48 := by rw [IntKind.wrap_i64]; omega
              have hey0 : 0 ≤ ey := by omega
              have hey1 : ey ≤ 100000 := by omega
              clear A1 e2 h45
              by_cases hmin : 10 * ex + (Y - 48) ≤ 100000
              · have hmn : 10 * ex + (Y - 48) = ey := by omega
                go_wp2_with fail
                go_roundg (gk - 1)
                case measure => omega
                case rel => exact ⟨m + 1, ey, d, by go_num, by first | rfl | (rw [← hmn]; rfl) | (congr 1; omega), rfl, by omega, by omega, hey0, hey1, rfl, A2⟩
              · have hmn : 100000 = ey := by omega
                have hmin2 : (100000 : Int) < 10 * ex + (Y - 48) := by omega
                subst hmn
                clear hmin
                go_wp2_with fail
                go_roundg (gk - 1)
                case measure => omega
                case rel => exact ⟨m + 1, 100000, d, by go_num, by first | rfl | (congr 1; omega), rfl, by omega, by omega, hey0, hey1, rfl, A2⟩
            · have e2 : d2S Y ex d = (ex, d) := by unfold d2S; rw [if_neg hdg, if_neg h45]
              rw [e2] at A1
              have A2 : Aside (d2F s (s.size - (m + 1)) (m + 1) ex d = D2) := A1
              clear A1 e2 h45
              by_cases h48 : 48 ≤ Y
              · have h57 : 57 < Y := by omega
                clear hdg
                go_wp2_with fail
                go_roundg (gk - 1)
                case measure => omega
                case rel => exact ⟨m + 1, ex, d, by go_num, rfl, rfl, by omega, by omega, hx0, hx1, rfl, A2⟩
              · have h48' : Y < 48 := by omega
                clear hdg h48
                go_wp2_with fail
                go_roundg (gk - 1)
                case measure => omega
                case rel => exact ⟨m + 1, ex, d, by go_num, rfl, rfl, by omega, by omega, hx0, hx1, rfl, A2⟩
          · have hmI : (s.size : Int) ≤ (m : Int) := by omega
            have A1 : d2F s (s.size - m) m ex d = D2 := A
            rw [d2F_end s _ m ex d hmt] at A1
            have HD2 := Lib.hid A1
            clear A A1 hmt
            have hcv := bs_str hbs
            have hR : wr.heap[w.heap.size]? = some (.cells #[.string ⟨#[]⟩, .int .i64 0] 81) := (hbel.block _ (by have := HZ1.out; omega)).trans HC1.out
            have k0 : wr.frozen? ⟨w.heap.size, 0, none⟩ = false := by simp [World.frozen?, hR]
            have k1 : wr.cell? ⟨w.heap.size, 0, none⟩ = some (.string ⟨#[]⟩) := by simp [World.cell?, hR]
            have k2 : wr.cell? ⟨w.heap.size, 1, none⟩ = some (.int .i64 0) := by simp [World.cell?, hR]
            have k3 : wr.frozen? ⟨w.heap.size, 1, none⟩ = false := by simp [World.frozen?, hR]
            cases d
            case false =>
              have HR2 := HF.out
              rw [← HD2.out] at HR2
              have HV : Hid ((ds, p + ex, mb) = dcF s) := Lib.hid (by simpa using HR2)
              clear HR2
              go_wp2_with fail
              have hh := heap_setCell (o := 1) (heap_setCell (o := 0) hR (.string (txt ds))) (.int .i64 (p + ex))
              refine bodyPost_ret (v := .tuple #[.agg #[.string (txt ds), .int .i64 (p + ex)], .bool mb]) (by simp [results, Tryz.results38, go_sem, World.cell?, hh]; try rfl) rfl ?_
              exact ⟨⟨ds, p + ex, mb, rfl, HV.out, by omega, by omega, by omega⟩, ((Below.trans b1 (hbel.mono (by have := HZ1.out; omega))).setCell (Nat.le_refl _) _).setCell (Nat.le_refl _) _⟩
            case true =>
              have HR2 := HF.out
              rw [← HD2.out] at HR2
              have HV : Hid ((ds, p + -ex, mb) = dcF s) := Lib.hid (by simpa using HR2)
              clear HR2
              go_wp2_with fail
              have hh := heap_setCell (o := 1) (heap_setCell (o := 0) hR (.string (txt ds))) (.int .i64 (p + -ex))
              refine bodyPost_ret (v := .tuple #[.agg #[.string (txt ds), .int .i64 (p + -ex)], .bool mb]) (by simp [results, Tryz.results38, go_sem, World.cell?, hh]; try rfl) rfl ?_
              exact ⟨⟨ds, p + -ex, mb, rfl, HV.out, by omega, by omega, by omega⟩, ((Below.trans b1 (hbel.mono (by have := HZ1.out; omega))).setCell (Nat.le_refl _) _).setCell (Nat.le_refl _) _⟩
      by_cases h69 : X = 69
      · subst h69
        have HA2 : Hid ((ds, p, k) = T) := Lib.hid (by have A1 := A; unfold Aside at A1; rw [d1F_end s gk k ds p b (by rw [hb]; omega)] at A1; exact A1)
        obtain ⟨D2, hD2⟩ : ∃ D2, d2F s (s.size - k) k 0 false = D2 := ⟨_, rfl⟩
        have A2 : Aside (d2F s (s.size - k) k 0 false = D2) := hD2
        have HF : Hid ((ds, p + (if D2.2 then -D2.1 else D2.1), mb) = dcF s) := Lib.hid (by
          have h1 := HDC.out D2.1 D2.2
          rw [← HA2.out] at h1
          exact h1 hD2)
        clear A hD2 h101
        go_wp2_with fail
        go_loopg [8, 9, 10] (s.size + 1) (fun g i e dn wx => ∃ (m : Nat) (ex : Int) (d : Bool), i = .int .i64 m ∧ e = .int .i64 ex ∧ dn = .bool d ∧ m ≤ s.size ∧ s.size + 1 - m ≤ g ∧ 0 ≤ ex ∧ ex ≤ 100000 ∧ wx = wr ∧ Aside (d2F s (s.size - m) m ex d = D2))
        case atStart => exact ⟨k, 0, false, rfl, rfl, rfl, by omega, by omega, by decide, by decide, rfl, A2⟩
        case round =>
          clear A2
          obtain ⟨m, ex, d, rfl, rfl, rfl, hm, hmg, hx0, hx1, hwx, A⟩ := hrel
          subst hwx
          by_cases hmt : m < s.size
          · have hmI : (m : Int) < (s.size : Int) := by omega
            have hb := bAt_lt hmt
            obtain ⟨Y, hY⟩ : ∃ Y, (s[m].toNat : Int) = Y := ⟨_, rfl⟩
            rw [hY] at hb
            have A1 : d2F s (s.size - m) m ex d = D2 := A
            rw [show s.size - m = (s.size - (m + 1)) + 1 by omega, d2F, if_pos hmt, hb] at A1
            clear A hb
            by_cases h45 : Y = 45
            · have e2 : d2S Y ex d = (ex, true) := by unfold d2S; rw [if_neg (by omega), if_pos h45]
              rw [e2] at A1
              have A2 : Aside (d2F s (s.size - (m + 1)) (m + 1) ex true = D2) := A1
              subst h45
              clear A1 e2
              go_wp2_with fail
              go_roundg (gk - 1)
              case measure => omega
              case rel => exact ⟨m + 1, ex, true, by go_num, rfl, rfl, by omega, by omega, hx0, hx1, rfl, A2⟩
            have d45 : (Y == 45) = false := by simpa using h45
            by_cases hdg : 48 ≤ Y ∧ Y ≤ 57
            · obtain ⟨ey, hey⟩ : ∃ ey, min (10 * ex + (Y - 48)) 100000 = ey := ⟨_, rfl⟩
              have e2 : d2S Y ex d = (ey, d) := by unfold d2S; rw [if_pos hdg, if_neg h45, hey]
              rw [e2] at A1
              have A2 : Aside (d2F s (s.size - (m + 1)) (m + 1) ey d = D2) := A1
              obtain ⟨g48, g57⟩ := hdg
              have f1 : IntKind.u8.wrap (Y - 48) = Y - 48 := by rw [IntKind.wrap_u8]; omega
              have f2 : IntKind.i64.wrap (Y - 48) = Y - 48 := by rw [IntKind.wrap_i64]; omega
              have hey0 : 0 ≤ ey := by omega
              have hey1 : ey ≤ 100000 := by omega
              clear A1 e2 h45
              by_cases hmin : 10 * ex + (Y - 48) ≤ 100000
              · have hmn : 10 * ex + (Y - 48) = ey := by omega
                go_wp2_with fail
                go_roundg (gk - 1)
                case measure => omega
                case rel => exact ⟨m + 1, ey, d, by go_num, by first | rfl | (rw [← hmn]; rfl) | (congr 1; omega), rfl, by omega, by omega, hey0, hey1, rfl, A2⟩
              · have hmn : 100000 = ey := by omega
                have hmin2 : (100000 : Int) < 10 * ex + (Y - 48) := by omega
                subst hmn
                clear hmin
                go_wp2_with fail
                go_roundg (gk - 1)
                case measure => omega
                case rel => exact ⟨m + 1, 100000, d, by go_num, by first | rfl | (congr 1; omega), rfl, by omega, by omega, hey0, hey1, rfl, A2⟩
            · have e2 : d2S Y ex d = (ex, d) := by unfold d2S; rw [if_neg hdg, if_neg h45]
              rw [e2] at A1
              have A2 : Aside (d2F s (s.size - (m + 1)) (m + 1) ex d = D2) := A1
              clear A1 e2 h45
              by_cases h48 : 48 ≤ Y
              · have h57 : 57 < Y := by omega
                clear hdg
                go_wp2_with fail
                go_roundg (gk - 1)
                case measure => omega
                case rel => exact ⟨m + 1, ex, d, by go_num, rfl, rfl, by omega, by omega, hx0, hx1, rfl, A2⟩
              · have h48' : Y < 48 := by omega
                clear hdg h48
                go_wp2_with fail
                go_roundg (gk - 1)
                case measure => omega
                case rel => exact ⟨m + 1, ex, d, by go_num, rfl, rfl, by omega, by omega, hx0, hx1, rfl, A2⟩
          · have hmI : (s.size : Int) ≤ (m : Int) := by omega
            have A1 : d2F s (s.size - m) m ex d = D2 := A
            rw [d2F_end s _ m ex d hmt] at A1
            have HD2 := Lib.hid A1
            clear A A1 hmt
            have hcv := bs_str hbs
            have hR : wr.heap[w.heap.size]? = some (.cells #[.string ⟨#[]⟩, .int .i64 0] 81) := (hbel.block _ (by have := HZ1.out; omega)).trans HC1.out
            have k0 : wr.frozen? ⟨w.heap.size, 0, none⟩ = false := by simp [World.frozen?, hR]
            have k1 : wr.cell? ⟨w.heap.size, 0, none⟩ = some (.string ⟨#[]⟩) := by simp [World.cell?, hR]
            have k2 : wr.cell? ⟨w.heap.size, 1, none⟩ = some (.int .i64 0) := by simp [World.cell?, hR]
            have k3 : wr.frozen? ⟨w.heap.size, 1, none⟩ = false := by simp [World.frozen?, hR]
            cases d
            case false =>
              have HR2 := HF.out
              rw [← HD2.out] at HR2
              have HV : Hid ((ds, p + ex, mb) = dcF s) := Lib.hid (by simpa using HR2)
              clear HR2
              go_wp2_with fail
              have hh := heap_setCell (o := 1) (heap_setCell (o := 0) hR (.string (txt ds))) (.int .i64 (p + ex))
              refine bodyPost_ret (v := .tuple #[.agg #[.string (txt ds), .int .i64 (p + ex)], .bool mb]) (by simp [results, Tryz.results38, go_sem, World.cell?, hh]; try rfl) rfl ?_
              exact ⟨⟨ds, p + ex, mb, rfl, HV.out, by omega, by omega, by omega⟩, ((Below.trans b1 (hbel.mono (by have := HZ1.out; omega))).setCell (Nat.le_refl _) _).setCell (Nat.le_refl _) _⟩
            case true =>
              have HR2 := HF.out
              rw [← HD2.out] at HR2
              have HV : Hid ((ds, p + -ex, mb) = dcF s) := Lib.hid (by simpa using HR2)
              clear HR2
              go_wp2_with fail
              have hh := heap_setCell (o := 1) (heap_setCell (o := 0) hR (.string (txt ds))) (.int .i64 (p + -ex))
              refine bodyPost_ret (v := .tuple #[.agg #[.string (txt ds), .int .i64 (p + -ex)], .bool mb]) (by simp [results, Tryz.results38, go_sem, World.cell?, hh]; try rfl) rfl ?_
              exact ⟨⟨ds, p + -ex, mb, rfl, HV.out, by omega, by omega, by omega⟩, ((Below.trans b1 (hbel.mono (by have := HZ1.out; omega))).setCell (Nat.le_refl _) _).setCell (Nat.le_refl _) _⟩
      have d101 : (X != 101) = true := by simpa using h101
      have d69 : (X != 69) = true := by simpa using h69
      have A1 : d1F s gk k ds p b = T := A
      rw [show gk = (gk - 1) + 1 by omega, d1F, if_pos ⟨hkt, by rw [hb]; exact h101, by rw [hb]; exact h69⟩, hb] at A1
      clear A hb h101 h69
      have hdsI : (ds.length : Int) ≤ (k : Int) := by omega
      by_cases h46 : X = 46
      · have e : d1S X ds p b = (ds, p, true) := by unfold d1S; rw [if_pos h46]
        rw [e] at A1
        have A2 : Aside (d1F s (gk - 1) (k + 1) ds p true = T) := A1
        subst h46
        clear A1 e
        go_wp2_with fail
        go_roundg (gk - 1)
        case measure => omega
        case rel => exact ⟨k + 1, v, ds, p, true, by go_num, rfl, rfl, rfl, by omega, by omega, hbs, by omega, by omega, hp1, hbel, A2⟩
      have d46 : (X == 46) = false := by simpa using h46
      by_cases hdg : 48 ≤ X ∧ X ≤ 57
      · obtain ⟨g48, g57⟩ := id hdg
        obtain ⟨ao, cap, hv, hcc, hcm⟩ := hbs.form
        obtain ⟨n, hn⟩ : ∃ n, ds.length = n := ⟨_, rfl⟩
        rw [hn] at hv
        subst hv
        have hdl : ds.length ≤ 10000 := by omega
        obtain ⟨q, hq⟩ : ∃ q, (if b then p - 1 else p) = q := ⟨_, rfl⟩
        have hq0 : -((k : Int) + 1) ≤ q := by rw [← hq]; split <;> omega
        have hq1 : q ≤ 0 := by rw [← hq]; split <;> omega
        have hB2 := Nat.le_trans hBa hBr
        by_cases hn0 : 0 < ds.length
        · have e : d1S X ds p b = (ds ++ [X], q, b) := by unfold d1S; rw [if_neg h46, if_pos hdg, if_pos (.inl hn0), hq]
          rw [e] at A1
          have A2 : Aside (d1F s (gk - 1) (k + 1) (ds ++ [X]) q b = T) := A1
          have hnI : (0 : Int) < (n : Int) := by omega
          have hnP : 0 < n := by omega
          have hnE : n ≠ 0 := by omega
          have hll2 : ds.length + 1 ≤ k + 1 := by omega
          clear A1 e hdg h46 hn0 hn
          have hbx := bwY2 hbel (bwY wr (.cells #[.int .u8 X] 5))
          cases b
          all_goals
            (first | (have hqe : p - 1 = q := hq) | (have hqe : p = q := hq))
            clear hq
            go_wp2_with (first | (at_builtin; refine wpList_append_bs _ rfl (.tmp 63) (.tmp 67) 54 54 (by rfl) B i0 Tryz.underlying54 hi hz0 hz1 hz2 _ _ rfl (Bs.alloc hbs _) _ [X] rfl (by intro x hx; simp at hx; omega) (src_lit Tryz.underlying54 _ [X] 1 rfl _ _ hz1 _ rfl) (by first | omega | (simp; omega) | (simp only [List.length_append, sub_len, bl_len, List.length_cons, List.length_nil]; omega)) (by first | assumption | omega | (simp; omega)) ?_; intro v3 w3 hb3 ha3))
            go_roundg (gk - 1)
            case measure => omega
            case rel => exact ⟨k + 1, v3, ds ++ [X], q, _, by go_num, rfl, by first | rfl | (rw [← hqe]), rfl, by omega, by omega, hb3, (by first | (simp; omega) | simp), by omega, hq1, Below.trans hbel ((bwY wr _).mono hBr |>.trans ((ha3.below (hbs.alloc _) (by simp; omega)).mono hBb)), A2⟩
        · obtain rfl : ds = [] := List.eq_nil_of_length_eq_zero (by omega)
          obtain rfl : n = 0 := hn.symm
          by_cases h48 : X = 48
          · have e : d1S X [] p b = ([], q, b) := by unfold d1S; rw [if_neg h46, if_pos hdg, if_neg (by simp; exact h48), hq]
            rw [e] at A1
            have A2 : Aside (d1F s (gk - 1) (k + 1) [] q b = T) := A1
            subst h48
            clear A1 e hdg h46
            cases b
            all_goals
              (first | (have hqe : p - 1 = q := hq) | (have hqe : p = q := hq))
              clear hq
              go_wp2_with fail
              go_roundg (gk - 1)
              case measure => omega
              case rel => exact ⟨k + 1, _, [], q, _, by go_num, rfl, by first | rfl | (rw [← hqe]), rfl, by omega, by omega, hbs, by simp, by omega, hq1, hbel, A2⟩
          · have e : d1S X [] p b = ([] ++ [X], q, b) := by unfold d1S; rw [if_neg h46, if_pos hdg, if_pos (.inr h48), hq]
            rw [e] at A1
            have A2 : Aside (d1F s (gk - 1) (k + 1) ([] ++ [X]) q b = T) := A1
            have d48 : (X != 48) = true := by simpa using h48
            clear A1 e hdg h46 h48
            cases b
            all_goals
              (first | (have hqe : p - 1 = q := hq) | (have hqe : p = q := hq))
              clear hq
              go_wp2_with (first | (at_builtin; refine wpList_append_bs _ rfl (.tmp 63) (.tmp 67) 54 54 (by rfl) B i0 Tryz.underlying54 hi hz0 hz1 hz2 _ _ rfl (Bs.alloc hbs _) _ [X] rfl (by intro x hx; simp at hx; omega) (src_lit Tryz.underlying54 _ [X] 1 rfl _ _ hz1 _ rfl) (by simp) (by first | assumption | omega | (simp; omega)) ?_; intro v3 w3 hb3 ha3))
              go_roundg (gk - 1)
              case measure => omega
              case rel => exact ⟨k + 1, v3, [] ++ [X], q, _, by go_num, rfl, by first | rfl | (rw [← hqe]), rfl, by omega, by omega, hb3, (by first | (simp; omega) | simp), by omega, hq1, Below.trans hbel ((bwY wr _).mono hBr |>.trans ((ha3.below (hbs.alloc _) (by simp; omega)).mono hBb)), A2⟩
      · have e : d1S X ds p b = (ds, p, b) := by unfold d1S; rw [if_neg h46, if_neg hdg]
        rw [e] at A1
        have A2 : Aside (d1F s (gk - 1) (k + 1) ds p b = T) := A1
        clear A1 e h46
        by_cases h48 : 48 ≤ X
        · have h57 : 57 < X := by omega
          clear hdg
          go_wp2_with fail
          go_roundg (gk - 1)
          case measure => omega
          case rel => exact ⟨k + 1, v, ds, p, b, by go_num, rfl, rfl, rfl, by omega, by omega, hbs, by omega, by omega, hp1, hbel, A2⟩
        · have h48' : X < 48 := by omega
          clear hdg h48
          go_wp2_with fail
          go_roundg (gk - 1)
          case measure => omega
          case rel => exact ⟨k + 1, v, ds, p, b, by go_num, rfl, rfl, rfl, by omega, by omega, hbs, by omega, by omega, hp1, hbel, A2⟩
    · have hkI : (s.size : Int) ≤ (k : Int) := by omega
      have HA2 : Hid ((ds, p, k) = T) := Lib.hid (by have A1 := A; unfold Aside at A1; rw [d1F_end s gk k ds p b (by omega)] at A1; exact A1)
      obtain ⟨D2, hD2⟩ : ∃ D2, d2F s (s.size - k) k 0 false = D2 := ⟨_, rfl⟩
      have A2 : Aside (d2F s (s.size - k) k 0 false = D2) := hD2
      have HF : Hid ((ds, p + (if D2.2 then -D2.1 else D2.1), mb) = dcF s) := Lib.hid (by
        have h1 := HDC.out D2.1 D2.2
        rw [← HA2.out] at h1
        exact h1 hD2)
      clear A hD2 hkt
      go_wp2_with fail
      go_loopg [8, 9, 10] (s.size + 1) (fun g i e dn wx => ∃ (m : Nat) (ex : Int) (d : Bool), i = .int .i64 m ∧ e = .int .i64 ex ∧ dn = .bool d ∧ m ≤ s.size ∧ s.size + 1 - m ≤ g ∧ 0 ≤ ex ∧ ex ≤ 100000 ∧ wx = wr ∧ Aside (d2F s (s.size - m) m ex d = D2))
      case atStart => exact ⟨k, 0, false, rfl, rfl, rfl, by omega, by omega, by decide, by decide, rfl, A2⟩
      case round =>
        clear A2
        obtain ⟨m, ex, d, rfl, rfl, rfl, hm, hmg, hx0, hx1, hwx, A⟩ := hrel
        subst hwx
        by_cases hmt : m < s.size
        · have hmI : (m : Int) < (s.size : Int) := by omega
          have hb := bAt_lt hmt
          obtain ⟨Y, hY⟩ : ∃ Y, (s[m].toNat : Int) = Y := ⟨_, rfl⟩
          rw [hY] at hb
          have A1 : d2F s (s.size - m) m ex d = D2 := A
          rw [show s.size - m = (s.size - (m + 1)) + 1 by omega, d2F, if_pos hmt, hb] at A1
          clear A hb
          by_cases h45 : Y = 45
          · have e2 : d2S Y ex d = (ex, true) := by unfold d2S; rw [if_neg (by omega), if_pos h45]
            rw [e2] at A1
            have A2 : Aside (d2F s (s.size - (m + 1)) (m + 1) ex true = D2) := A1
            subst h45
            clear A1 e2
            go_wp2_with fail
            go_roundg (gk - 1)
            case measure => omega
            case rel => exact ⟨m + 1, ex, true, by go_num, rfl, rfl, by omega, by omega, hx0, hx1, rfl, A2⟩
          have d45 : (Y == 45) = false := by simpa using h45
          by_cases hdg : 48 ≤ Y ∧ Y ≤ 57
          · obtain ⟨ey, hey⟩ : ∃ ey, min (10 * ex + (Y - 48)) 100000 = ey := ⟨_, rfl⟩
            have e2 : d2S Y ex d = (ey, d) := by unfold d2S; rw [if_pos hdg, if_neg h45, hey]
            rw [e2] at A1
            have A2 : Aside (d2F s (s.size - (m + 1)) (m + 1) ey d = D2) := A1
            obtain ⟨g48, g57⟩ := hdg
            have f1 : IntKind.u8.wrap (Y - 48) = Y - 48 := by rw [IntKind.wrap_u8]; omega
            have f2 : IntKind.i64.wrap (Y - 48) = Y - 48 := by rw [IntKind.wrap_i64]; omega
            have hey0 : 0 ≤ ey := by omega
            have hey1 : ey ≤ 100000 := by omega
            clear A1 e2 h45
            by_cases hmin : 10 * ex + (Y - 48) ≤ 100000
            · have hmn : 10 * ex + (Y - 48) = ey := by omega
              go_wp2_with fail
              go_roundg (gk - 1)
              case measure => omega
              case rel => exact ⟨m + 1, ey, d, by go_num, by first | rfl | (rw [← hmn]; rfl) | (congr 1; omega), rfl, by omega, by omega, hey0, hey1, rfl, A2⟩
            · have hmn : 100000 = ey := by omega
              have hmin2 : (100000 : Int) < 10 * ex + (Y - 48) := by omega
              subst hmn
              clear hmin
              go_wp2_with fail
              go_roundg (gk - 1)
              case measure => omega
              case rel => exact ⟨m + 1, 100000, d, by go_num, by first | rfl | (congr 1; omega), rfl, by omega, by omega, hey0, hey1, rfl, A2⟩
          · have e2 : d2S Y ex d = (ex, d) := by unfold d2S; rw [if_neg hdg, if_neg h45]
            rw [e2] at A1
            have A2 : Aside (d2F s (s.size - (m + 1)) (m + 1) ex d = D2) := A1
            clear A1 e2 h45
            by_cases h48 : 48 ≤ Y
            · have h57 : 57 < Y := by omega
              clear hdg
              go_wp2_with fail
              go_roundg (gk - 1)
              case measure => omega
              case rel => exact ⟨m + 1, ex, d, by go_num, rfl, rfl, by omega, by omega, hx0, hx1, rfl, A2⟩
            · have h48' : Y < 48 := by omega
              clear hdg h48
              go_wp2_with fail
              go_roundg (gk - 1)
              case measure => omega
              case rel => exact ⟨m + 1, ex, d, by go_num, rfl, rfl, by omega, by omega, hx0, hx1, rfl, A2⟩
        · have hmI : (s.size : Int) ≤ (m : Int) := by omega
          have A1 : d2F s (s.size - m) m ex d = D2 := A
          rw [d2F_end s _ m ex d hmt] at A1
          have HD2 := Lib.hid A1
          clear A A1 hmt
          have hcv := bs_str hbs
          have hR : wr.heap[w.heap.size]? = some (.cells #[.string ⟨#[]⟩, .int .i64 0] 81) := (hbel.block _ (by have := HZ1.out; omega)).trans HC1.out
          have k0 : wr.frozen? ⟨w.heap.size, 0, none⟩ = false := by simp [World.frozen?, hR]
          have k1 : wr.cell? ⟨w.heap.size, 0, none⟩ = some (.string ⟨#[]⟩) := by simp [World.cell?, hR]
          have k2 : wr.cell? ⟨w.heap.size, 1, none⟩ = some (.int .i64 0) := by simp [World.cell?, hR]
          have k3 : wr.frozen? ⟨w.heap.size, 1, none⟩ = false := by simp [World.frozen?, hR]
          cases d
          case false =>
            have HR2 := HF.out
            rw [← HD2.out] at HR2
            have HV : Hid ((ds, p + ex, mb) = dcF s) := Lib.hid (by simpa using HR2)
            clear HR2
            go_wp2_with fail
            have hh := heap_setCell (o := 1) (heap_setCell (o := 0) hR (.string (txt ds))) (.int .i64 (p + ex))
            refine bodyPost_ret (v := .tuple #[.agg #[.string (txt ds), .int .i64 (p + ex)], .bool mb]) (by simp [results, Tryz.results38, go_sem, World.cell?, hh]; try rfl) rfl ?_
            exact ⟨⟨ds, p + ex, mb, rfl, HV.out, by omega, by omega, by omega⟩, ((Below.trans b1 (hbel.mono (by have := HZ1.out; omega))).setCell (Nat.le_refl _) _).setCell (Nat.le_refl _) _⟩
          case true =>
            have HR2 := HF.out
            rw [← HD2.out] at HR2
            have HV : Hid ((ds, p + -ex, mb) = dcF s) := Lib.hid (by simpa using HR2)
            clear HR2
            go_wp2_with fail
            have hh := heap_setCell (o := 1) (heap_setCell (o := 0) hR (.string (txt ds))) (.int .i64 (p + -ex))
            refine bodyPost_ret (v := .tuple #[.agg #[.string (txt ds), .int .i64 (p + -ex)], .bool mb]) (by simp [results, Tryz.results38, go_sem, World.cell?, hh]; try rfl) rfl ?_
            exact ⟨⟨ds, p + -ex, mb, rfl, HV.out, by omega, by omega, by omega⟩, ((Below.trans b1 (hbel.mono (by have := HZ1.out; omega))).setCell (Nat.le_refl _) _).setCell (Nat.le_refl _) _⟩
end
section
/- (Nm) Numbers of the reference: Nearest. Printed by gennm.py. -/
open Go.RowKit

theorem t2F_len (k : Nat) (f : Int) (hk : k ≤ 3000) : (t2F k f).length ≤ 200 := by
  unfold t2F
  split
  · have := noF_len f; omega
  · have h1 := noF_len (f + 4503599627370496)
    have h2 := shF_len (k - 1) (noF (f + 4503599627370496))
    omega
theorem adF_len (xs ys : List Int) : ∀ (k j : Nat) (c : Int), (adF xs ys k j c).length ≤ k + 1
  | 0, j, c => by rw [adF]; split <;> simp
  | k + 1, j, c => by rw [adF]; simp; exact adF_len xs ys k _ _
theorem adS_len (xs ys : List Int) : (adS xs ys).length ≤ max xs.length ys.length + 1 := by
  unfold adS
  exact Nat.le_trans (trF_len _) (adF_len xs ys _ _ _)
/-- The number with a code. -/
def cdF (q : Int) : List Int := t2F (q / 4503599627370496).toNat (q % 4503599627370496)
theorem cdF_len (q : Int) (h0 : 0 ≤ q) (h1 : q < 9223372036854775808) : (cdF q).length ≤ 200 := t2F_len _ _ (by omega)
theorem code_any (q : Int) (w : World) (h0 : 0 ≤ q) (h1 : q < 9223372036854775808) :
    Calls Tryz.prog 62 #[.agg #[.int .i64 52, .int .u64 9218868437227405311], .int .u64 q] w fun e w' => ∃ v', e = .returned v' ∧ NtR w' v' (cdF q) ∧ Below w.heap.size w w' :=
  times2_any q _ _ w h0 h1 (by omega) rfl
/-- A decimal number against the number with a code. -/
def hfF (d : ByteArray) (p q : Int) : Int := agF d p (shF 1 (cdF q))
/-- Halving. -/
inductive NrR (d : ByteArray) (p : Int) : Int → Int → Int → Prop
  | stop {lo hi} : hi ≤ lo → NrR d p lo hi lo
  | up {lo hi r} : lo < hi → 0 ≤ hfF d p (lo + (hi - lo + 1) / 2) → NrR d p (lo + (hi - lo + 1) / 2) hi r → NrR d p lo hi r
  | down {lo hi r} : lo < hi → hfF d p (lo + (hi - lo + 1) / 2) < 0 → NrR d p lo (lo + (hi - lo + 1) / 2 - 1) r → NrR d p lo hi r
theorem NrR.det {d : ByteArray} {p lo hi r : Int} (h : NrR d p lo hi r) : ∀ r', NrR d p lo hi r' → r' = r := by
  induction h with
  | stop h => intro r' k; cases k <;> first | rfl | omega
  | up h1 h2 _ ih => intro r' k; cases k <;> first | (exact ih _ (by assumption)) | omega
  | down h1 h2 _ ih => intro r' k; cases k <;> first | (exact ih _ (by assumption)) | omega
def midF (d : ByteArray) (p r : Int) : Int := agF d p (adS (cdF r) (cdF (r + 1)))
def nfF (d : ByteArray) (p r : Int) : Int := if r = 9218868437227405311 then r else if 0 < midF d p r ∨ (midF d p r = 0 ∧ r % 2 = 1) then r + 1 else r
/-- The code of the nearest number. -/
def NeR (d : ByteArray) (p v : Int) : Prop :=
  if d.size = 0 ∨ (d.size : Int) + p < -400 then v = 0 else if 400 < (d.size : Int) + p then v = 9218868437227405311 else ∃ r, NrR d p 0 9218868437227405311 r ∧ v = nfF d p r
theorem NeR.det {d : ByteArray} {p v v' : Int} (h : NeR d p v) (k : NeR d p v') : v' = v := by
  unfold NeR at h k
  split at h
  · rename_i hc; rw [if_pos hc] at k; rw [h, k]
  · rename_i hc
    rw [if_neg hc] at k
    split at h
    · rename_i hc2; rw [if_pos hc2] at k; rw [h, k]
    · rename_i hc2
      rw [if_neg hc2] at k
      obtain ⟨r, h1, rfl⟩ := h
      obtain ⟨r', k1, rfl⟩ := k
      rw [h1.det _ k1]
set_option maxRecDepth 100000 in
set_option maxHeartbeats 4000000 in
theorem nearest_none (d : ByteArray) (p : Int) (w : World) (hd : d.size ≤ 10000) (hp0 : -200000 ≤ p) (hp1 : p ≤ 200000) (hz : d.size = 0) :
    Calls Tryz.prog 40 #[.agg #[.int .i64 52, .int .u64 9218868437227405311], .agg #[.string d, .int .i64 p]] w fun e w' => ∃ v, e = .returned (.int .u64 v) ∧ NeR d p v ∧ Below w.heap.size w w' := by
  obtain ⟨w2, hw2⟩ : ∃ w2, (w.alloc (.cells #[.int .i64 52, .int .u64 9218868437227405311] 86)).alloc (.cells #[.string d, .int .i64 p] 81) = w2 := ⟨_, rfl⟩
  have hD : w2.heap[w.heap.size + 1]? = some (.cells #[.string d, .int .i64 p] 81) := by
    rw [← hw2]
    have := heap_alloc_new (w.alloc (.cells #[.int .i64 52, .int .u64 9218868437227405311] 86)) (.cells #[.string d, .int .i64 p] 81)
    simpa using this
  have hF : w2.heap[w.heap.size]? = some (.cells #[.int .i64 52, .int .u64 9218868437227405311] 86) := by
    rw [← hw2]
    exact (Below.heap_alloc _ _ _ (by simp)).trans (heap_alloc_new w _)
  have b0 : Below w.heap.size w w2 := by rw [← hw2]; exact bwY2 (bwY w _) (bwY _ _)
  have hz2 : w2.heap.size = w.heap.size + 2 := by rw [← hw2]; simp
  have cells : ∀ wx, Below w2.heap.size w2 wx → wx.cell? ⟨w.heap.size, 0, none⟩ = some (.int .i64 52) ∧ wx.cell? ⟨w.heap.size, 1, none⟩ = some (.int .u64 9218868437227405311) ∧ wx.cell? ⟨w.heap.size + 1, 0, none⟩ = some (.string d) ∧ wx.cell? ⟨w.heap.size + 1, 1, none⟩ = some (.int .i64 p) := fun wx hb => by
    have e1 := (hb.block w.heap.size (by omega)).trans hF
    have e2 := (hb.block (w.heap.size + 1) (by omega)).trans hD
    simp [World.cell?, e1, e2]
  have HC := Lib.hid cells
  obtain ⟨c1, c2, c3, c4⟩ := cells w2 (Below.refl _ _)
  obtain ⟨n, hn⟩ : ∃ n, d.size = n := ⟨_, rfl⟩
  have hnI : (n : Int) ≤ 10000 := by omega
  have hR : NeR d p 0 := by unfold NeR; rw [if_pos (.inl hz)]
  have HR := Lib.hid hR
  have hn0 : n = 0 := by omega
  subst hn0
  clear cells hD hF hz2
  go_enter Tryz.func40, Tryz.ntmps40
  go_wp2_with fail
  all_goals go_ret
  exact ⟨0, rfl, HR.out, b0⟩
set_option maxRecDepth 100000 in
set_option maxHeartbeats 4000000 in
theorem nearest_low (d : ByteArray) (p : Int) (w : World) (hd : d.size ≤ 10000) (hp0 : -200000 ≤ p) (hp1 : p ≤ 200000) (hz : d.size ≠ 0) (hl : (d.size : Int) + p < -400) :
    Calls Tryz.prog 40 #[.agg #[.int .i64 52, .int .u64 9218868437227405311], .agg #[.string d, .int .i64 p]] w fun e w' => ∃ v, e = .returned (.int .u64 v) ∧ NeR d p v ∧ Below w.heap.size w w' := by
  obtain ⟨w2, hw2⟩ : ∃ w2, (w.alloc (.cells #[.int .i64 52, .int .u64 9218868437227405311] 86)).alloc (.cells #[.string d, .int .i64 p] 81) = w2 := ⟨_, rfl⟩
  have hD : w2.heap[w.heap.size + 1]? = some (.cells #[.string d, .int .i64 p] 81) := by
    rw [← hw2]
    have := heap_alloc_new (w.alloc (.cells #[.int .i64 52, .int .u64 9218868437227405311] 86)) (.cells #[.string d, .int .i64 p] 81)
    simpa using this
  have hF : w2.heap[w.heap.size]? = some (.cells #[.int .i64 52, .int .u64 9218868437227405311] 86) := by
    rw [← hw2]
    exact (Below.heap_alloc _ _ _ (by simp)).trans (heap_alloc_new w _)
  have b0 : Below w.heap.size w w2 := by rw [← hw2]; exact bwY2 (bwY w _) (bwY _ _)
  have hz2 : w2.heap.size = w.heap.size + 2 := by rw [← hw2]; simp
  have cells : ∀ wx, Below w2.heap.size w2 wx → wx.cell? ⟨w.heap.size, 0, none⟩ = some (.int .i64 52) ∧ wx.cell? ⟨w.heap.size, 1, none⟩ = some (.int .u64 9218868437227405311) ∧ wx.cell? ⟨w.heap.size + 1, 0, none⟩ = some (.string d) ∧ wx.cell? ⟨w.heap.size + 1, 1, none⟩ = some (.int .i64 p) := fun wx hb => by
    have e1 := (hb.block w.heap.size (by omega)).trans hF
    have e2 := (hb.block (w.heap.size + 1) (by omega)).trans hD
    simp [World.cell?, e1, e2]
  have HC := Lib.hid cells
  obtain ⟨c1, c2, c3, c4⟩ := cells w2 (Below.refl _ _)
  obtain ⟨n, hn⟩ : ∃ n, d.size = n := ⟨_, rfl⟩
  have hnI : (n : Int) ≤ 10000 := by omega
  have hR : NeR d p 0 := by unfold NeR; rw [if_pos (.inr hl)]
  have HR := Lib.hid hR
  rw [hn] at hl
  have d0 : ((n : Int) == 0) = false := by simp; omega
  clear hz
  clear cells hD hF hz2
  go_enter Tryz.func40, Tryz.ntmps40
  go_wp2_with fail
  all_goals go_ret
  exact ⟨0, rfl, HR.out, b0⟩
set_option maxRecDepth 100000 in
set_option maxHeartbeats 4000000 in
theorem nearest_high (d : ByteArray) (p : Int) (w : World) (hd : d.size ≤ 10000) (hp0 : -200000 ≤ p) (hp1 : p ≤ 200000) (hz : d.size ≠ 0) (hl : 400 < (d.size : Int) + p) :
    Calls Tryz.prog 40 #[.agg #[.int .i64 52, .int .u64 9218868437227405311], .agg #[.string d, .int .i64 p]] w fun e w' => ∃ v, e = .returned (.int .u64 v) ∧ NeR d p v ∧ Below w.heap.size w w' := by
  obtain ⟨w2, hw2⟩ : ∃ w2, (w.alloc (.cells #[.int .i64 52, .int .u64 9218868437227405311] 86)).alloc (.cells #[.string d, .int .i64 p] 81) = w2 := ⟨_, rfl⟩
  have hD : w2.heap[w.heap.size + 1]? = some (.cells #[.string d, .int .i64 p] 81) := by
    rw [← hw2]
    have := heap_alloc_new (w.alloc (.cells #[.int .i64 52, .int .u64 9218868437227405311] 86)) (.cells #[.string d, .int .i64 p] 81)
    simpa using this
  have hF : w2.heap[w.heap.size]? = some (.cells #[.int .i64 52, .int .u64 9218868437227405311] 86) := by
    rw [← hw2]
    exact (Below.heap_alloc _ _ _ (by simp)).trans (heap_alloc_new w _)
  have b0 : Below w.heap.size w w2 := by rw [← hw2]; exact bwY2 (bwY w _) (bwY _ _)
  have hz2 : w2.heap.size = w.heap.size + 2 := by rw [← hw2]; simp
  have cells : ∀ wx, Below w2.heap.size w2 wx → wx.cell? ⟨w.heap.size, 0, none⟩ = some (.int .i64 52) ∧ wx.cell? ⟨w.heap.size, 1, none⟩ = some (.int .u64 9218868437227405311) ∧ wx.cell? ⟨w.heap.size + 1, 0, none⟩ = some (.string d) ∧ wx.cell? ⟨w.heap.size + 1, 1, none⟩ = some (.int .i64 p) := fun wx hb => by
    have e1 := (hb.block w.heap.size (by omega)).trans hF
    have e2 := (hb.block (w.heap.size + 1) (by omega)).trans hD
    simp [World.cell?, e1, e2]
  have HC := Lib.hid cells
  obtain ⟨c1, c2, c3, c4⟩ := cells w2 (Below.refl _ _)
  obtain ⟨n, hn⟩ : ∃ n, d.size = n := ⟨_, rfl⟩
  have hnI : (n : Int) ≤ 10000 := by omega
  have hR : NeR d p 9218868437227405311 := by unfold NeR; rw [if_neg (by omega), if_pos hl]
  have HR := Lib.hid hR
  rw [hn] at hl
  have d0 : ((n : Int) == 0) = false := by simp; omega
  have d1 : (-400 : Int) ≤ (n : Int) + p := by omega
  clear hz
  clear cells hD hF hz2
  go_enter Tryz.func40, Tryz.ntmps40
  go_wp2_with fail
  all_goals go_ret
  exact ⟨_, rfl, HR.out, b0⟩
set_option maxRecDepth 100000 in
set_option maxHeartbeats 4000000 in
theorem nearest_mid (d : ByteArray) (p : Int) (w : World) (hd : d.size ≤ 10000) (hp0 : -200000 ≤ p) (hp1 : p ≤ 200000) (hz : d.size ≠ 0) (hl : -400 ≤ (d.size : Int) + p) (hh : (d.size : Int) + p ≤ 400) :
    Calls Tryz.prog 40 #[.agg #[.int .i64 52, .int .u64 9218868437227405311], .agg #[.string d, .int .i64 p]] w fun e w' => ∃ v, e = .returned (.int .u64 v) ∧ NeR d p v ∧ Below w.heap.size w w' := by
  obtain ⟨w2, hw2⟩ : ∃ w2, (w.alloc (.cells #[.int .i64 52, .int .u64 9218868437227405311] 86)).alloc (.cells #[.string d, .int .i64 p] 81) = w2 := ⟨_, rfl⟩
  have hD : w2.heap[w.heap.size + 1]? = some (.cells #[.string d, .int .i64 p] 81) := by
    rw [← hw2]
    have := heap_alloc_new (w.alloc (.cells #[.int .i64 52, .int .u64 9218868437227405311] 86)) (.cells #[.string d, .int .i64 p] 81)
    simpa using this
  have hF : w2.heap[w.heap.size]? = some (.cells #[.int .i64 52, .int .u64 9218868437227405311] 86) := by
    rw [← hw2]
    exact (Below.heap_alloc _ _ _ (by simp)).trans (heap_alloc_new w _)
  have b0 : Below w.heap.size w w2 := by rw [← hw2]; exact bwY2 (bwY w _) (bwY _ _)
  have hz2 : w2.heap.size = w.heap.size + 2 := by rw [← hw2]; simp
  have cells : ∀ wx, Below w2.heap.size w2 wx → wx.cell? ⟨w.heap.size, 0, none⟩ = some (.int .i64 52) ∧ wx.cell? ⟨w.heap.size, 1, none⟩ = some (.int .u64 9218868437227405311) ∧ wx.cell? ⟨w.heap.size + 1, 0, none⟩ = some (.string d) ∧ wx.cell? ⟨w.heap.size + 1, 1, none⟩ = some (.int .i64 p) := fun wx hb => by
    have e1 := (hb.block w.heap.size (by omega)).trans hF
    have e2 := (hb.block (w.heap.size + 1) (by omega)).trans hD
    simp [World.cell?, e1, e2]
  have HC := Lib.hid cells
  obtain ⟨c1, c2, c3, c4⟩ := cells w2 (Below.refl _ _)
  obtain ⟨n, hn⟩ : ∃ n, d.size = n := ⟨_, rfl⟩
  have hnI : (n : Int) ≤ 10000 := by omega
  have hR : ∀ r, NrR d p 0 9218868437227405311 r → NeR d p (nfF d p r) := fun r hr => by unfold NeR; rw [if_neg (by omega), if_neg (by omega)]; exact ⟨r, hr, rfl⟩
  have HR := Lib.hid hR
  have HD := Lib.hid hd
  rw [hn] at hl hh
  have d0 : ((n : Int) == 0) = false := by simp; omega
  have qN : ∀ nq, (w2.drewN nq).cell? ⟨w.heap.size, 1, none⟩ = some (.int .u64 9218868437227405311) := fun _ => c2
  have bN : ∀ nq, Below w2.heap.size w2 (w2.drewN nq) := fun nq => ⟨rfl, rfl, rfl, Nat.le_refl _, fun _ _ => rfl⟩
  have hI : Hid (∀ r, NrR d p 0 9218868437227405311 r → NrR d p 0 9218868437227405311 r) := Lib.hid fun _ h => h
  clear hz hR hd
  clear cells hD hF hz2
  go_enter Tryz.func40, Tryz.ntmps40
  go_wp2_with fail
  go_quiet (fail)
  clear c1 c2 c3 c4 qN
  go_wp2_with fail
  go_loopg [5, 6] 9218868437227405311 (fun g a b wr => ∃ (lo hi : Int), a = .int .u64 lo ∧ b = .int .u64 hi ∧ 0 ≤ lo ∧ lo ≤ hi ∧ hi ≤ 9218868437227405311 ∧ hi - lo ≤ (g : Int) ∧ Below w2.heap.size w2 wr ∧ Hid (∀ r, NrR d p lo hi r → NrR d p 0 9218868437227405311 r))
  case atStart => exact ⟨0, 9218868437227405311, rfl, rfl, by decide, by decide, by decide, by decide, bN _, hI⟩
  case round =>
    clear hI bN
    obtain ⟨lo, hi, rfl, rfl, h0, h1, h2, hg, hb, HI⟩ := hrel
    by_cases hlt : lo < hi
    case neg =>
      obtain rfl : hi = lo := by omega
      have hN : NrR d p 0 9218868437227405311 hi := HI.out _ (.stop (Int.le_refl _))
      have HV := Lib.hid (HR.out _ hN)
      obtain ⟨c1, c2, c3, c4⟩ := HC.out wr hb
      by_cases hm : hi = 9218868437227405311
      · have e : nfF d p hi = hi := by unfold nfF; rw [if_pos hm]
        have HV2 := Lib.hid (e ▸ HV.out)
        have dm : (hi == 9218868437227405311) = true := by simpa using hm
        clear e hm hN
        go_wp2_with fail
        all_goals go_ret
        exact ⟨_, rfl, HV2.out, bwY2 b0 hb⟩
      have dm : (hi == 9218868437227405311) = false := by simpa using hm
      have f1 : IntKind.u64.wrap (hi + 1) = hi + 1 := by rw [IntKind.wrap_u64]; omega
      have hl1 := cdF_len hi h0 (by omega)
      have hl2 := cdF_len (hi + 1) (by omega) (by omega)
      have ht1 := fun w => code_any hi w h0 (by omega)
      have ht2 := fun w => code_any (hi + 1) w (by omega) (by omega)
      obtain ⟨C, hC⟩ : ∃ C, midF d p hi = C := ⟨_, rfl⟩
      have hag : ∀ v3 w, NtR w v3 (adS (cdF hi) (cdF (hi + 1))) → Calls Tryz.prog 60 #[.agg #[.int .i64 52, .int .u64 9218868437227405311], .agg #[.string d, .int .i64 p], v3] w fun e w' => e = .returned (.int .i64 C) ∧ Below w.heap.size w w' := fun v3 w h3 => by
        have hal := adS_len (cdF hi) (cdF (hi + 1))
        have := against_any d p v3 _ w h3 HD.out hp0 hp1 (by omega)
        rw [show agF d p (adS (cdF hi) (cdF (hi + 1))) = C from hC] at this
        exact this
      have e : nfF d p hi = if 0 < C ∨ (C = 0 ∧ hi % 2 = 1) then hi + 1 else hi := by unfold nfF; rw [if_neg hm, hC]
      have HV2 := Lib.hid (e ▸ HV.out)
      generalize cdF hi = xs at hl1 ht1 hag
      generalize cdF (hi + 1) = ys at hl2 ht2 hag
      have had : ∀ v1 v2 w, NtR w v1 xs → NtR w v2 ys → Calls Tryz.prog 63 #[v1, v2] w fun e w' => ∃ v', e = .returned v' ∧ NtR w' v' (adS xs ys) ∧ Below w.heap.size w w' := fun v1 v2 w h1 h2 => by
        obtain ⟨a1, k1, rfl⟩ := h1.form
        obtain ⟨a2, k2, rfl⟩ := h2.form
        exact add_any a1 a2 _ k1 _ k2 xs ys w h1 h2 (by omega) (by omega)
      have HT1 := Lib.hid ht1
      have HT2 := Lib.hid ht2
      have HAD := Lib.hid had
      have HAG := Lib.hid hag
      clear e hm hN hC ht1 ht2 had hag HV
      go_upto_region 13 with fail
      clear c1 c2 c3 c4
      refine wp_region_held (S := fun wx => Below w2.heap.size w2 wx) (by kernel_rfl) ?_
      try (change wpAnyH _ _ _ _ _ _ _ _ (World.drew _))
      have hbd : Below w2.heap.size w2 wr.drew := ⟨hb.os, hb.tape, hb.output, hb.size, hb.block⟩
      generalize wr.drew = wd at hbd ⊢
      refine wpAnyH_take (i := 0) (v := (.agg #[.int .i64 52, .int .u64 9218868437227405311])) rfl (by kernel_rfl) (by kernel_rfl) (by kernel_rfl) (fun _ _ _ h => h) (Or.inl ⟨by rfl, ?_⟩) hbd ?_
      · intro wx hx; obtain ⟨q1, q2, q3, q4⟩ := HC.out wx hx; go_simp; try with_reducible rfl
      try simp only [List.getElem_toArray, List.getElem_cons_succ, List.getElem_cons_zero, Act.put, List.setIfInBounds_toArray, List.set_cons_succ, List.set_cons_zero]
      refine wpAnyH_take (i := 1) (v := (.agg #[.string d, .int .i64 p])) rfl (by kernel_rfl) (by kernel_rfl) (by kernel_rfl) (fun _ _ _ h => h) (Or.inl ⟨by rfl, ?_⟩) hbd ?_
      · intro wx hx; obtain ⟨q1, q2, q3, q4⟩ := HC.out wx hx; go_simp; try with_reducible rfl
      try simp only [List.getElem_toArray, List.getElem_cons_succ, List.getElem_cons_zero, Act.put, List.setIfInBounds_toArray, List.set_cons_succ, List.set_cons_zero]
      refine wpAnyH_take (i := 2) (v := (.agg #[.int .i64 52, .int .u64 9218868437227405311])) rfl (by kernel_rfl) (by kernel_rfl) (by kernel_rfl) (fun _ _ _ h => h) (Or.inl ⟨by rfl, ?_⟩) hbd ?_
      · intro wx hx; obtain ⟨q1, q2, q3, q4⟩ := HC.out wx hx; go_simp; try with_reducible rfl
      try simp only [List.getElem_toArray, List.getElem_cons_succ, List.getElem_cons_zero, Act.put, List.setIfInBounds_toArray, List.set_cons_succ, List.set_cons_zero]
      refine wpAnyH_take (i := 3) (v := ?_) rfl (by kernel_rfl) (by kernel_rfl) (by kernel_rfl) (fun _ _ _ h => h) (Or.inl ⟨by rfl, ?_⟩) hbd ?_
      rotate_left
      · intro wx hx; obtain ⟨q1, q2, q3, q4⟩ := HC.out wx hx; go_simp; try with_reducible rfl
      rotate_left
      try simp only [List.getElem_toArray, List.getElem_cons_succ, List.getElem_cons_zero, Act.put, List.setIfInBounds_toArray, List.set_cons_succ, List.set_cons_zero]
      refine wpAnyH_take (i := 5) (v := (.agg #[.int .i64 52, .int .u64 9218868437227405311])) rfl (by kernel_rfl) (by kernel_rfl) (by kernel_rfl) (fun _ _ _ h => h) (Or.inl ⟨by rfl, ?_⟩) hbd ?_
      · intro wx hx; obtain ⟨q1, q2, q3, q4⟩ := HC.out wx hx; go_simp; try with_reducible rfl
      try simp only [List.getElem_toArray, List.getElem_cons_succ, List.getElem_cons_zero, Act.put, List.setIfInBounds_toArray, List.set_cons_succ, List.set_cons_zero]
      refine wpAnyH_take (i := 6) (v := ?_) rfl (by kernel_rfl) (by kernel_rfl) (by kernel_rfl) (fun _ _ _ h => h) (Or.inl ⟨by rfl, ?_⟩) hbd ?_
      rotate_left
      · intro wx hx; obtain ⟨q1, q2, q3, q4⟩ := HC.out wx hx; go_simp; try with_reducible rfl
      rotate_left
      try simp only [List.getElem_toArray, List.getElem_cons_succ, List.getElem_cons_zero, Act.put, List.setIfInBounds_toArray, List.set_cons_succ, List.set_cons_zero]
      refine wpAnyH_take (i := 7) (v := ?_) rfl (by kernel_rfl) (by kernel_rfl) (by kernel_rfl) (fun _ _ _ h => h) (Or.inl ⟨by rfl, ?_⟩) hbd ?_
      rotate_left
      · intro wx hx; obtain ⟨q1, q2, q3, q4⟩ := HC.out wx hx; go_simp; try with_reducible rfl
      rotate_left
      try simp only [List.getElem_toArray, List.getElem_cons_succ, List.getElem_cons_zero, Act.put, List.setIfInBounds_toArray, List.set_cons_succ, List.set_cons_zero]
      refine wpAnyH_all (rs := [4]) (by kernel_rfl) (by decide) ?_
      intro i hi
      simp only [List.mem_cons, List.not_mem_nil, or_false] at hi
      subst hi
      refine wpOp_of (i := 4) rfl (by rfl) ?_
      go_simp
      go_at_call 62
      refine (HT1.out _).mono ?_
      rintro e wa ⟨va, rfl, hva, hba⟩
      have Sa := bwY2 hbd hba
      dsimp only
      refine ⟨Sa, ?_⟩
      try simp only [List.getElem_toArray, List.getElem_cons_succ, List.getElem_cons_zero, Act.put, List.setIfInBounds_toArray, List.set_cons_succ, List.set_cons_zero]
      refine wpAnyH_all (rs := [8]) (by kernel_rfl) (by decide) ?_
      intro i hi
      simp only [List.mem_cons, List.not_mem_nil, or_false] at hi
      subst hi
      refine wpOp_of (i := 8) rfl (by rfl) ?_
      go_simp
      go_at_call 62
      refine (HT2.out _).mono ?_
      rintro e wb ⟨vb, rfl, hvb, hbb⟩
      have Sb := bwY2 Sa hbb
      dsimp only
      refine ⟨Sb, ?_⟩
      try simp only [List.getElem_toArray, List.getElem_cons_succ, List.getElem_cons_zero, Act.put, List.setIfInBounds_toArray, List.set_cons_succ, List.set_cons_zero]
      refine wpAnyH_all (rs := [9]) (by kernel_rfl) (by decide) ?_
      intro i hi
      simp only [List.mem_cons, List.not_mem_nil, or_false] at hi
      subst hi
      refine wpOp_of (i := 9) rfl (by rfl) ?_
      go_simp
      go_at_call 63
      refine (HAD.out va vb _ (hva.below hbb) hvb).mono ?_
      rintro e wc ⟨vc, rfl, hvc, hbc⟩
      have Sc := bwY2 Sb hbc
      dsimp only
      refine ⟨Sc, ?_⟩
      try simp only [List.getElem_toArray, List.getElem_cons_succ, List.getElem_cons_zero, Act.put, List.setIfInBounds_toArray, List.set_cons_succ, List.set_cons_zero]
      refine wpAnyH_all (rs := [10]) (by kernel_rfl) (by decide) ?_
      intro i hi
      simp only [List.mem_cons, List.not_mem_nil, or_false] at hi
      subst hi
      refine wpOp_of (i := 10) rfl (by rfl) ?_
      go_simp
      go_at_call 60
      refine (HAG.out vc _ hvc).mono ?_
      rintro e we ⟨rfl, hbe⟩
      have Se := bwY2 Sc hbe
      dsimp only
      refine ⟨Se, ?_⟩
      try simp only [List.getElem_toArray, List.getElem_cons_succ, List.getElem_cons_zero, Act.put, List.setIfInBounds_toArray, List.set_cons_succ, List.set_cons_zero]
      refine wpAnyH_take (i := 11) (v := ?_) rfl (by kernel_rfl) (by kernel_rfl) (by kernel_rfl) (fun _ _ _ h => h) (Or.inl ⟨by rfl, ?_⟩) Se ?_
      rotate_left
      · intro wx hx; obtain ⟨q1, q2, q3, q4⟩ := HC.out wx hx; go_simp; try with_reducible rfl
      rotate_left
      try simp only [List.getElem_toArray, List.getElem_cons_succ, List.getElem_cons_zero, Act.put, List.setIfInBounds_toArray, List.set_cons_succ, List.set_cons_zero]
      refine wpAnyH_done (by kernel_rfl) ?_ _
      have HB := Lib.hid (bwY2 b0 Se)
      clear hbd Sa Sb Sc Se hba hbb hbc hbe hva hvb hvc hb
      by_cases hc0 : 0 < C
      · have HV3 := Lib.hid (show NeR d p (hi + 1) by have := HV2.out; rwa [if_pos (.inl hc0)] at this)
        go_wp2_with fail
        all_goals go_ret
        exact ⟨_, rfl, HV3.out, HB.out⟩
      · by_cases hcz : C = 0
        · have dz : (C == 0) = true := by simpa using hcz
          obtain ⟨o, ho⟩ : ∃ o, hi % 2 = o := ⟨_, rfl⟩
          have hrem : hi.tmod 2 = o := by rw [Int.tmod_eq_emod_of_nonneg h0]; exact ho
          have hC0 : C ≤ 0 := by omega
          by_cases ho1 : o = 1
          · have HV3 := Lib.hid (show NeR d p (hi + 1) by have := HV2.out; rwa [if_pos (.inr ⟨hcz, by omega⟩)] at this)
            have do1 : (o == 1) = true := by simpa using ho1
            clear hc0 hcz ho1
            go_wp2_with fail
            all_goals go_ret
            exact ⟨_, rfl, HV3.out, HB.out⟩
          · have HV3 := Lib.hid (show NeR d p hi by have := HV2.out; rwa [if_neg (by omega)] at this)
            have do1 : (o == 1) = false := by simpa using ho1
            clear hc0 hcz ho1
            go_wp2_with fail
            all_goals go_ret
            exact ⟨_, rfl, HV3.out, HB.out⟩
        · have dz : (C == 0) = false := by simpa using hcz
          have hC0 : C ≤ 0 := by omega
          have HV3 := Lib.hid (show NeR d p hi by have := HV2.out; rwa [if_neg (by omega)] at this)
          clear hc0 hcz
          go_wp2_with fail
          all_goals go_ret
          exact ⟨_, rfl, HV3.out, HB.out⟩
    obtain ⟨m, hm⟩ : ∃ m, lo + (hi - lo + 1) / 2 = m := ⟨_, rfl⟩
    obtain ⟨C, hC⟩ : ∃ C, hfF d p m = C := ⟨_, rfl⟩
    have HU : Hid (0 ≤ C → ∀ r, NrR d p m hi r → NrR d p 0 9218868437227405311 r) := Lib.hid fun h r k => HI.out _ (.up hlt (by rw [hm, hC]; exact h) (by rw [hm]; exact k))
    have HW : Hid (C < 0 → ∀ r, NrR d p lo (m - 1) r → NrR d p 0 9218868437227405311 r) := Lib.hid fun h r k => HI.out _ (.down hlt (by rw [hm, hC]; exact h) (by rw [hm]; exact k))
    have ht1 := fun w => code_any m w (by omega) (by omega)
    have hl1 := cdF_len m (by omega) (by omega)
    obtain ⟨xs, hxs⟩ : ∃ xs, cdF m = xs := ⟨_, rfl⟩
    rw [hxs] at ht1 hl1
    have hsh : ∀ v' w5, NtR w5 v' xs → Calls Tryz.prog 61 #[v', .int .i64 1] w5 fun e w' => ∃ v'', e = .returned v'' ∧ NtR w' v'' (shF 1 xs) ∧ Below w5.heap.size w5 w' := fun v' w5 h5 => shifted_any v' xs 1 w5 h5 (by omega) (by omega)
    have hag : ∀ v3 w, NtR w v3 (shF 1 xs) → Calls Tryz.prog 60 #[.agg #[.int .i64 52, .int .u64 9218868437227405311], .agg #[.string d, .int .i64 p], v3] w fun e w' => e = .returned (.int .i64 C) ∧ Below w.heap.size w w' := fun v3 w h3 => by
      have hal := shF_len 1 xs
      have := against_any d p v3 _ w h3 HD.out hp0 hp1 (by omega)
      rw [show agF d p (shF 1 xs) = C by rw [← hC, ← hxs]; rfl] at this
      exact this
    have HT1 := Lib.hid ht1
    have HSH := Lib.hid hsh
    have HAG := Lib.hid hag
    have hm1 : m ≤ hi := by omega
    have hm2 : lo < m := by omega
    obtain ⟨k, hk⟩ : ∃ k, (hi - lo + 1) / 2 = k := ⟨_, rfl⟩
    have f1 : IntKind.u64.wrap (hi - lo) = hi - lo := by rw [IntKind.wrap_u64]; omega
    have f2 : IntKind.u64.wrap (hi - lo + 1) = hi - lo + 1 := by rw [IntKind.wrap_u64]; omega
    have f3 : (hi - lo + 1).tdiv 2 = k := by rw [Int.tdiv_eq_ediv_of_nonneg (by omega)]; exact hk
    have f5 : lo + k = m := by omega
    have f4 : IntKind.u64.wrap m = m := by rw [IntKind.wrap_u64]; omega
    have f6 : IntKind.u64.wrap (m - 1) = m - 1 := by rw [IntKind.wrap_u64]; omega
    have hgm : hi - m ≤ ((gk - 1 : Nat) : Int) ∧ (m - 1) - lo ≤ ((gk - 1 : Nat) : Int) ∧ 0 < gk := by omega
    have HGM := Lib.hid hgm
    clear ht1 hsh hag hm hC hxs hl1 hgm hg HI
    go_upto_region 8 with fail
    refine wp_region_held (S := fun wx => Below w2.heap.size w2 wx) (by kernel_rfl) ?_
    try (change wpAnyH _ _ _ _ _ _ _ _ (World.drew _))
    have hbd : Below w2.heap.size w2 wr.drew := ⟨hb.os, hb.tape, hb.output, hb.size, hb.block⟩
    generalize wr.drew = wd at hbd ⊢
    refine wpAnyH_take (i := 0) (v := (.agg #[.int .i64 52, .int .u64 9218868437227405311])) rfl (by kernel_rfl) (by kernel_rfl) (by kernel_rfl) (fun _ _ _ h => h) (Or.inl ⟨by rfl, ?_⟩) hbd ?_
    · intro wx hx; obtain ⟨q1, q2, q3, q4⟩ := HC.out wx hx; go_simp; try with_reducible rfl
    try simp only [List.getElem_toArray, List.getElem_cons_succ, List.getElem_cons_zero, Act.put, List.setIfInBounds_toArray, List.set_cons_succ, List.set_cons_zero]
    refine wpAnyH_take (i := 1) (v := (.agg #[.string d, .int .i64 p])) rfl (by kernel_rfl) (by kernel_rfl) (by kernel_rfl) (fun _ _ _ h => h) (Or.inl ⟨by rfl, ?_⟩) hbd ?_
    · intro wx hx; obtain ⟨q1, q2, q3, q4⟩ := HC.out wx hx; go_simp; try with_reducible rfl
    try simp only [List.getElem_toArray, List.getElem_cons_succ, List.getElem_cons_zero, Act.put, List.setIfInBounds_toArray, List.set_cons_succ, List.set_cons_zero]
    refine wpAnyH_take (i := 2) (v := (.agg #[.int .i64 52, .int .u64 9218868437227405311])) rfl (by kernel_rfl) (by kernel_rfl) (by kernel_rfl) (fun _ _ _ h => h) (Or.inl ⟨by rfl, ?_⟩) hbd ?_
    · intro wx hx; obtain ⟨q1, q2, q3, q4⟩ := HC.out wx hx; go_simp; try with_reducible rfl
    try simp only [List.getElem_toArray, List.getElem_cons_succ, List.getElem_cons_zero, Act.put, List.setIfInBounds_toArray, List.set_cons_succ, List.set_cons_zero]
    refine wpAnyH_take (i := 3) (v := ?_) rfl (by kernel_rfl) (by kernel_rfl) (by kernel_rfl) (fun _ _ _ h => h) (Or.inl ⟨by rfl, ?_⟩) hbd ?_
    rotate_left
    · intro wx hx; obtain ⟨q1, q2, q3, q4⟩ := HC.out wx hx; go_simp; try with_reducible rfl
    rotate_left
    try simp only [List.getElem_toArray, List.getElem_cons_succ, List.getElem_cons_zero, Act.put, List.setIfInBounds_toArray, List.set_cons_succ, List.set_cons_zero]
    refine wpAnyH_all (rs := [4]) (by kernel_rfl) (by decide) ?_
    intro i hi
    simp only [List.mem_cons, List.not_mem_nil, or_false] at hi
    subst hi
    refine wpOp_of (i := 4) rfl (by rfl) ?_
    go_simp
    go_at_call 62
    refine (HT1.out _).mono ?_
    rintro e wa ⟨va, rfl, hva, hba⟩
    have Sa := bwY2 hbd hba
    dsimp only
    refine ⟨Sa, ?_⟩
    try simp only [List.getElem_toArray, List.getElem_cons_succ, List.getElem_cons_zero, Act.put, List.setIfInBounds_toArray, List.set_cons_succ, List.set_cons_zero]
    refine wpAnyH_all (rs := [5]) (by kernel_rfl) (by decide) ?_
    intro i hi
    simp only [List.mem_cons, List.not_mem_nil, or_false] at hi
    subst hi
    refine wpOp_of (i := 5) rfl (by rfl) ?_
    go_simp
    go_at_call 61
    refine (HSH.out va _ hva).mono ?_
    rintro e wb ⟨vb, rfl, hvb, hbb⟩
    have Sb := bwY2 Sa hbb
    dsimp only
    refine ⟨Sb, ?_⟩
    try simp only [List.getElem_toArray, List.getElem_cons_succ, List.getElem_cons_zero, Act.put, List.setIfInBounds_toArray, List.set_cons_succ, List.set_cons_zero]
    refine wpAnyH_all (rs := [6]) (by kernel_rfl) (by decide) ?_
    intro i hi
    simp only [List.mem_cons, List.not_mem_nil, or_false] at hi
    subst hi
    refine wpOp_of (i := 6) rfl (by rfl) ?_
    go_simp
    go_at_call 60
    refine (HAG.out vb _ hvb).mono ?_
    rintro e we ⟨rfl, hbe⟩
    have Se := bwY2 Sb hbe
    dsimp only
    refine ⟨Se, ?_⟩
    try simp only [List.getElem_toArray, List.getElem_cons_succ, List.getElem_cons_zero, Act.put, List.setIfInBounds_toArray, List.set_cons_succ, List.set_cons_zero]
    refine wpAnyH_take (i := 7) (v := ?_) rfl (by kernel_rfl) (by kernel_rfl) (by kernel_rfl) (fun _ _ _ h => h) (Or.inl ⟨by rfl, ?_⟩) Se ?_
    rotate_left
    · intro wx hx; obtain ⟨q1, q2, q3, q4⟩ := HC.out wx hx; go_simp; try with_reducible rfl
    rotate_left
    try simp only [List.getElem_toArray, List.getElem_cons_succ, List.getElem_cons_zero, Act.put, List.setIfInBounds_toArray, List.set_cons_succ, List.set_cons_zero]
    refine wpAnyH_done (by kernel_rfl) ?_ _
    clear hbd Sa Sb hba hbb hbe hva hvb hb f1 f2 f3
    by_cases hc0 : 0 ≤ C
    · have HN := Lib.hid (HU.out hc0)
      go_wp2_with fail
      go_roundg (gk - 1)
      case measure => have := HGM.out; omega
      case rel => exact ⟨m, hi, rfl, rfl, by omega, hm1, h2, HGM.out.1, Se, HN⟩
    · have hc1 : C < 0 := by omega
      have HN := Lib.hid (HW.out hc1)
      clear hc0
      go_wp2_with fail
      go_roundg (gk - 1)
      case measure => have := HGM.out; omega
      case rel => exact ⟨lo, m - 1, rfl, rfl, h0, by omega, by omega, HGM.out.2.1, Se, HN⟩
theorem nearest_any (d : ByteArray) (p : Int) (w : World) (hd : d.size ≤ 10000) (hp0 : -200000 ≤ p) (hp1 : p ≤ 200000) :
    Calls Tryz.prog 40 #[.agg #[.int .i64 52, .int .u64 9218868437227405311], .agg #[.string d, .int .i64 p]] w fun e w' => ∃ v, e = .returned (.int .u64 v) ∧ NeR d p v ∧ Below w.heap.size w w' := by
  by_cases hz : d.size = 0
  · exact nearest_none d p w hd hp0 hp1 hz
  by_cases hl : (d.size : Int) + p < -400
  · exact nearest_low d p w hd hp0 hp1 hz hl
  by_cases hh : 400 < (d.size : Int) + p
  · exact nearest_high d p w hd hp0 hp1 hz hh
  exact nearest_mid d p w hd hp0 hp1 hz (by omega) (by omega)
end
section
/- (No) Numbers of the reference: two equal texts are one number. Printed by genno.py. -/
open Go.RowKit

set_option maxRecDepth 100000 in
set_option maxHeartbeats 4000000 in
theorem same_any (t : ByteArray) (w : World) (hs : t.size ≤ 10000) :
    Calls Tryz.prog 21 #[.string t, .string t] w fun e w' => e = .returned (.bool true) ∧ Below w.heap.size w w' := by
  have hdc := fun w => decimal_any t w hs
  have HDC := Lib.hid hdc
  clear hdc
  go_enter Tryz.func21, Tryz.ntmps21
  go_upto_region 2 with (go_at_call 38; refine (HDC.out _).mono ?_; rintro e w1 ⟨⟨ds, p, b, rfl, hd1, hl1, hp0, hp1⟩, hb1⟩; have HD1 := Lib.hid hd1; clear hd1)
  have hbA := bwY2 hb1 (bwY w1 (.cells #[.string (txt ds), .int .i64 p] 81))
  have hcA : (w1.alloc (.cells #[.string (txt ds), .int .i64 p] 81)).heap[w1.heap.size]? = some (.cells #[.string (txt ds), .int .i64 p] 81) := heap_alloc_new w1 _
  have hsA : w1.heap.size < (w1.alloc (.cells #[.string (txt ds), .int .i64 p] 81)).heap.size := by simp
  have hwB : w.heap.size ≤ w1.heap.size := hb1.size
  revert hbA hcA hsA
  generalize w1.alloc (.cells #[.string (txt ds), .int .i64 p] 81) = wA
  generalize w1.heap.size = pa at hwB ⊢
  intro hbA hcA hsA
  go_upto_region 3 with (go_at_call 38; refine (HDC.out _).mono ?_; rintro e w2 ⟨⟨ds2, p2, b2, rfl, hd2, -, -, -⟩, hb2⟩; obtain ⟨rfl, rfl, rfl⟩ : ds = ds2 ∧ p = p2 ∧ b = b2 := (by have h := HD1.out.trans hd2.symm; injection h with h1 h2; injection h2 with h2 h3; exact ⟨h1, h2, h3⟩); clear hd2)
  have hbB := bwY2 (bwY2 hbA hb2) (bwY w2 (.cells #[.string (txt ds), .int .i64 p] 81))
  have hcB1 : (w2.alloc (.cells #[.string (txt ds), .int .i64 p] 81)).heap[pa]? = some (.cells #[.string (txt ds), .int .i64 p] 81) := (Below.heap_alloc _ _ _ (Nat.lt_of_lt_of_le hsA hb2.size)).trans ((hb2.block pa hsA).trans hcA)
  have hcB2 : (w2.alloc (.cells #[.string (txt ds), .int .i64 p] 81)).heap[w2.heap.size]? = some (.cells #[.string (txt ds), .int .i64 p] 81) := heap_alloc_new w2 _
  have hsB : w2.heap.size < (w2.alloc (.cells #[.string (txt ds), .int .i64 p] 81)).heap.size := by simp
  have hsC : pa < (w2.alloc (.cells #[.string (txt ds), .int .i64 p] 81)).heap.size := Nat.lt_of_lt_of_le hsA (Nat.le_trans hb2.size (by simp))
  revert hbB hcB1 hcB2 hsB hsC
  generalize w2.alloc (.cells #[.string (txt ds), .int .i64 p] 81) = wB
  generalize w2.heap.size = pb
  intro hbB hcB1 hcB2 hsB hsC
  have HC : Hid (∀ wx, Below wB.heap.size wB wx → wx.cell? ⟨pa, 0, none⟩ = some (.string (txt ds)) ∧ wx.cell? ⟨pa, 1, none⟩ = some (.int .i64 p) ∧ wx.cell? ⟨pb, 0, none⟩ = some (.string (txt ds)) ∧ wx.cell? ⟨pb, 1, none⟩ = some (.int .i64 p)) := Lib.hid fun wx hb => by
    have e1 := (hb.block pa hsC).trans hcB1
    have e2 := (hb.block pb hsB).trans hcB2
    simp [World.cell?, e1, e2]
  have HNE : Hid (∀ w : World, Calls Tryz.prog 40 #[.agg #[.int .i64 52, .int .u64 9218868437227405311], .agg #[.string (txt ds), .int .i64 p]] w fun e w' => ∃ v, e = .returned (.int .u64 v) ∧ NeR (txt ds) p v ∧ Below w.heap.size w w') := Lib.hid fun w => nearest_any (txt ds) p w (by rw [txt_size]; exact hl1) hp0 hp1
  clear hcA hsA hcB1 hcB2 hsB hsC hb1 hb2 hbA hwB HD1 HDC
  refine wp_region_held (S := fun wx => Below wB.heap.size wB wx) (by kernel_rfl) ?_
  try (change wpAnyH _ _ _ _ _ _ _ _ (World.drew _))
  have hbd : Below wB.heap.size wB wB.drew := ⟨rfl, rfl, rfl, Nat.le_refl _, fun _ _ => rfl⟩
  generalize wB.drew = wd at hbd ⊢
  refine wpAnyH_take (i := 1) (v := (.agg #[.string (txt ds), .int .i64 p])) rfl (by kernel_rfl) (by kernel_rfl) (by kernel_rfl) (fun _ _ _ h => h) (Or.inl ⟨by rfl, ?_⟩) hbd ?_
  · intro wx hx; obtain ⟨q1, q2, q3, q4⟩ := HC.out wx hx; go_simp; try with_reducible rfl
  try simp only [List.getElem_toArray, List.getElem_cons_succ, List.getElem_cons_zero, Act.put, List.setIfInBounds_toArray, List.set_cons_succ, List.set_cons_zero]
  refine wpAnyH_take (i := 4) (v := (.agg #[.string (txt ds), .int .i64 p])) rfl (by kernel_rfl) (by kernel_rfl) (by kernel_rfl) (fun _ _ _ h => h) (Or.inl ⟨by rfl, ?_⟩) hbd ?_
  · intro wx hx; obtain ⟨q1, q2, q3, q4⟩ := HC.out wx hx; go_simp; try with_reducible rfl
  try simp only [List.getElem_toArray, List.getElem_cons_succ, List.getElem_cons_zero, Act.put, List.setIfInBounds_toArray, List.set_cons_succ, List.set_cons_zero]
  refine wpAnyH_all (rs := [0]) (by kernel_rfl) (by decide) ?_
  intro i hi
  simp only [List.mem_cons, List.not_mem_nil, or_false] at hi
  subst hi
  refine wpOp_of (i := 0) rfl (by rfl) ?_
  go_simp
  go_at_call 39
  refine (double_any _).mono ?_
  rintro e wa ⟨rfl, hba⟩
  have Sa := bwY2 hbd hba
  dsimp only
  refine ⟨Sa, ?_⟩
  try simp only [List.getElem_toArray, List.getElem_cons_succ, List.getElem_cons_zero, Act.put, List.setIfInBounds_toArray, List.set_cons_succ, List.set_cons_zero]
  refine wpAnyH_all (rs := [2]) (by kernel_rfl) (by decide) ?_
  intro i hi
  simp only [List.mem_cons, List.not_mem_nil, or_false] at hi
  subst hi
  refine wpOp_of (i := 2) rfl (by rfl) ?_
  go_simp
  go_at_call 40
  refine (HNE.out _).mono ?_
  rintro e wb ⟨v1, rfl, hv1, hbb⟩
  have Sb := bwY2 Sa hbb
  have HV1 := Lib.hid hv1
  clear hv1
  dsimp only
  refine ⟨Sb, ?_⟩
  try simp only [List.getElem_toArray, List.getElem_cons_succ, List.getElem_cons_zero, Act.put, List.setIfInBounds_toArray, List.set_cons_succ, List.set_cons_zero]
  refine wpAnyH_all (rs := [3]) (by kernel_rfl) (by decide) ?_
  intro i hi
  simp only [List.mem_cons, List.not_mem_nil, or_false] at hi
  subst hi
  refine wpOp_of (i := 3) rfl (by rfl) ?_
  go_simp
  go_at_call 39
  refine (double_any _).mono ?_
  rintro e wc ⟨rfl, hbc⟩
  have Sc := bwY2 Sb hbc
  dsimp only
  refine ⟨Sc, ?_⟩
  try simp only [List.getElem_toArray, List.getElem_cons_succ, List.getElem_cons_zero, Act.put, List.setIfInBounds_toArray, List.set_cons_succ, List.set_cons_zero]
  refine wpAnyH_all (rs := [5]) (by kernel_rfl) (by decide) ?_
  intro i hi
  simp only [List.mem_cons, List.not_mem_nil, or_false] at hi
  subst hi
  refine wpOp_of (i := 5) rfl (by rfl) ?_
  go_simp
  go_at_call 40
  refine (HNE.out _).mono ?_
  rintro e we ⟨v2, rfl, hv2, hbe⟩
  have Se := bwY2 Sc hbe
  obtain rfl := HV1.out.det hv2
  clear hv2
  dsimp only
  refine ⟨Se, ?_⟩
  try simp only [List.getElem_toArray, List.getElem_cons_succ, List.getElem_cons_zero, Act.put, List.setIfInBounds_toArray, List.set_cons_succ, List.set_cons_zero]
  refine wpAnyH_take (i := 6) (v := ?_) rfl (by kernel_rfl) (by kernel_rfl) (by kernel_rfl) (fun _ _ _ h => h) (Or.inl ⟨by rfl, ?_⟩) Se ?_
  rotate_left
  · intro wx hx; go_simp; try with_reducible rfl
  rotate_left
  try simp only [List.getElem_toArray, List.getElem_cons_succ, List.getElem_cons_zero, Act.put, List.setIfInBounds_toArray, List.set_cons_succ, List.set_cons_zero]
  refine wpAnyH_take (i := 7) (v := ?_) rfl (by kernel_rfl) (by kernel_rfl) (by kernel_rfl) (fun _ _ _ h => h) (Or.inl ⟨by rfl, ?_⟩) Se ?_
  rotate_left
  · intro wx hx; go_simp; try with_reducible rfl
  rotate_left
  try simp only [List.getElem_toArray, List.getElem_cons_succ, List.getElem_cons_zero, Act.put, List.setIfInBounds_toArray, List.set_cons_succ, List.set_cons_zero]
  refine wpAnyH_done (by kernel_rfl) ?_ _
  have HB := Lib.hid (bwY2 hbB Se)
  go_wp2_with fail
  all_goals go_ret
  exact ⟨rfl, HB.out⟩
end
end Go.Proofs.YtjbffgjclnjkoaaGreatDoor
