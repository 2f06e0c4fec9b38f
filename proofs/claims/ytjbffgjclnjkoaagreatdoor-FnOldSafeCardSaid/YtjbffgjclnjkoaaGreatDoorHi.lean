/- Escaping for HTML: the walk of appendHTMLEscape. -/
import Derived.Test.YtjbffgjclnjkoaaGreatDoorHe
namespace Go.Proofs.YtjbffgjclnjkoaaGreatDoor
set_option linter.unusedVariables false
set_option linter.unusedSimpArgs false
open Go.RowKit

theorem cellO {w : World} {b : Nat} {s : ByteArray} (h : Lib.Bytes w b 0 s) {i : Nat} (hi : i < s.size) (X : Int) (hX : bAt s i = X) : w.cell? ⟨b, i, none⟩ = some (.int .u8 X) := by
  have := h i hi
  rw [Nat.zero_add] at this
  rw [this, ← hX]; unfold bAt; rw [dif_pos hi]
theorem andnot2 {X : Int} (h0 : 0 ≤ X) (h1 : X ≤ 255) : (bits .andNot .u8 X 1 == 168) = decide (X = 168 ∨ X = 169) := by
  obtain ⟨n, rfl⟩ := Int.eq_ofNat_of_zero_le h0
  rw [andnot1 n (by omega), Bool.eq_iff_iff]
  simp; omega

set_option maxRecDepth 100000 in
set_option maxHeartbeats 8000000 in
theorem htmlW (B : Nat) (v : Value) (l : List Int) (s : ByteArray) (b cap : Nat) (w : World) (hv : Bs w B v l) (hB : B ≤ w.heap.size) (hs : s.size ≤ 100000000000) (hl : l.length ≤ 100000000000) (hcap : s.size ≤ cap) (hcm : cap ≤ maxLen)
    (hS : Lib.Bytes w b 0 s) (hbn : v.ownBlock ≠ some b) (hbl : b < w.heap.size) :
    Calls Tryz.prog 36 #[v, .slice (some ⟨b, 0, none⟩) s.size cap] w fun e w' => ∃ v', e = .returned v' ∧ Bs w' B v' (l ++ heL (bl s)) ∧ Ap v w v' w' := by
  obtain ⟨i0, hi, hz0, hz1, hz2⟩ := info_parts Tryz.infoU8
  obtain ⟨T, HT⟩ : ∃ T, Hid (l ++ heL (bl s) = T) := ⟨_, Lib.hid rfl⟩
  rw [HT.out]
  have hcapI : (cap : Int) ≤ 9223372036854775807 := by unfold maxLen at hcm; omega
  have hscI : (s.size : Int) ≤ (cap : Int) := by omega
  have h0 : HRel B v w s l.length T s.size 0 0 v l w :=
    ⟨Nat.zero_le _, Nat.zero_le _, by omega, fun i h1 h2 => by omega, hv, Ap.refl _ _, by omega, by omega, by show l ++ sub s 0 0 ++ heS (0 - 0) (sub s 0 s.size) = T; rw [sub_self, sub_all, List.append_nil]; exact HT.out⟩
  clear hcm HT
  go_enter Tryz.func36, Tryz.ntmps36
  go_wp2_with fail
  go_loopg [0, 5, 10] s.size (fun g d i n wr => ∃ (v' : Value) (l' : List Int) (j k : Nat), d = v' ∧ i = .int .i64 j ∧ n = .int .i64 k ∧ HRel B v w s l.length T g j k v' l' wr)
  case atStart => exact ⟨_, _, 0, 0, rfl, rfl, rfl, h0⟩
  case round =>
    clear h0
    obtain ⟨v', l', j, k, rfl, rfl, rfl, q⟩ := hrel
    obtain ⟨qjs, qks, qjk, qpend, qbs, qap, qlen, qf, qo⟩ := id q
    have hSr := bytes_block hS (qap.block hbl hbn)
    have hBr : B ≤ wr.heap.size := Nat.le_trans hB qap.size
    have hblr : b < wr.heap.size := Nat.lt_of_lt_of_le hbl qap.size
    have hbnr := qap.ne hbl hbn
    by_cases hk : k < s.size
    · obtain ⟨X, hX⟩ : ∃ X, bAt s k = X := ⟨_, rfl⟩
      have hX0 := bAt_nonneg s k
      have hX1 := bAt_le s k
      have c1 := cellO hSr hk X hX
      rw [hX] at hX0 hX1
      have HX := Lib.hid hX
      have hkI : (k : Int) < (s.size : Int) := by omega
      clear qo
      by_cases hj : k < j
      · have hpn := qpend k (Nat.le_refl _) hj
        rw [hX] at hpn
        have d1 : (X == 60) = false := by simp; omega
        have d2 : (X == 62) = false := by simp; omega
        have d3 : (X == 38) = false := by simp; omega
        have d4 : (X == 226) = false := by simp; omega
        have Q := q.pass hk hj
        clear q qpend hX hpn
        go_wp2_with fail
        go_roundg (gk - 1)
        case measure => exact Q.1
        case rel => exact ⟨_, _, j, k + 1, rfl, rfl, by go_num, Q.2⟩
      · have hj2 : j ≤ k := by omega
        have hjkI : (j : Int) ≤ (k : Int) := by omega
        have hln1 : l'.length + (sub s j k).length ≤ 140737488355328 := by rw [sub_len]; omega
        have hln2 : (l' ++ sub s j k).length + 6 ≤ 140737488355328 := by rw [List.length_append, sub_len]; omega
        by_cases hh : X = 60 ∨ X = 62 ∨ X = 38
        · have d4 : (X == 226) = false := by simp; omega
          have xa := fun w => hexIdx .u8 (X / 16) (by omega) (by omega) w
          have xb := fun w => hexIdx .u8 (X % 16) (by omega) (by omega) w
          have ma : bits .and .u8 X 15 = X % 16 := bits_mask .u8 8 (by decide) wraps_u8 4 (by decide) _ hX0 (by omega)
          have g8 : By8 [92, 117, 48, 48, hxD (X / 16), hxD (X % 16)] := by
            have h1 := hxD_by (n := X / 16) (by omega) (by omega)
            have h2 := hxD_by (n := X % 16) (by omega) (by omega)
            intro x hx; simp at hx; omega
          go_upto_region 5 with fail
          go_cut [24] (fun v wx => v = .bool true ∧ wx = wr)
          case first =>
            rcases hh with rfl | rfl | rfl
            all_goals
              go_wp2_with fail
              go_meet
              exact ⟨rfl, rfl⟩
          case rest =>
            obtain ⟨rfl, rfl⟩ := hcut
            clear hX
            go_upto_region 7 with (at_builtin; refine wpList_append_bs _ rfl (.tmp 25) (.tmp 29) 54 54 (by rfl) B i0 Tryz.underlying54 hi hz0 hz1 hz2 _ _ rfl qbs _ (sub s j k) rfl (sub_by s j k) (src_cells Tryz.underlying54 _ _ _ _ (sub_len s j k) _ _ hz1 (.inr ⟨b, j, rfl, sub_cells hSr qks⟩)) (by exact hln1) (by first | assumption | omega | (simp; omega)) ?_; intro v3 w3 hb3 ha3; have hB3 : B ≤ w3.heap.size := Nat.le_trans hBr ha3.size)
            refine wp_region_any (by kernel_rfl) ?_
            try (change wpAny _ _ _ _ _ _ _ (World.drew _))
            refine wpAny_take (i := 0) (v := ?_) rfl (by kernel_rfl) (by kernel_rfl) (by kernel_rfl) (fun _ _ _ h => h) (Or.inl ⟨by rfl, ?_⟩) ?_
            rotate_left
            · intro wx; go_simp; try with_reducible rfl
            rotate_left
            refine wpAny_take (i := 1) (v := ?_) rfl (by kernel_rfl) (by kernel_rfl) (by kernel_rfl) (fun _ _ _ h => h) (Or.inl ⟨by rfl, ?_⟩) ?_
            rotate_left
            · intro wx; go_simp; try with_reducible rfl
            rotate_left
            refine wpAny_take (i := 2) (v := ?_) rfl (by kernel_rfl) (by kernel_rfl) (by kernel_rfl) (fun _ _ _ h => h) (Or.inl ⟨by rfl, ?_⟩) ?_
            rotate_left
            · intro wx; go_simp; try with_reducible rfl
            rotate_left
            refine wpAny_take (i := 3) (v := ?_) rfl (by kernel_rfl) (by kernel_rfl) (by kernel_rfl) (fun _ _ _ h => h) (Or.inl ⟨by rfl, ?_⟩) ?_
            rotate_left
            · intro wx; go_simp; try with_reducible rfl
            rotate_left
            refine wpAny_take (i := 4) (v := ?_) rfl (by kernel_rfl) (by kernel_rfl) (by kernel_rfl) (fun _ _ _ h => h) (Or.inl ⟨by rfl, ?_⟩) ?_
            rotate_left
            · intro wx; go_simp; try with_reducible rfl
            rotate_left
            refine wpAny_take (i := 5) (v := ?_) rfl (by kernel_rfl) (by kernel_rfl) (by kernel_rfl) (fun _ _ _ h => h) (Or.inl ⟨by rfl, ?_⟩) ?_
            rotate_left
            · intro wx; go_simp; try with_reducible rfl
            rotate_left
            refine wpAny_take (i := 6) (v := ?_) rfl (by kernel_rfl) (by kernel_rfl) (by kernel_rfl) (fun _ _ _ h => h) (Or.inl ⟨by rfl, ?_⟩) ?_
            rotate_left
            · intro wx; go_simp; try with_reducible rfl
            rotate_left
            refine wpAny_rest 7 (by kernel_rfl) ?_
            simp only [List.drop_succ_cons, List.drop_zero]
            have hb3d : Bs w3.drew B v3 (l' ++ sub s j k) := hb3.drewN 1
            have ha3d := ha3.trans (Ap.drewN v3 w3 1)
            have hB3d : B ≤ w3.drew.heap.size := hB3
            change Ap _ _ _ w3.drew at ha3d
            generalize w3.drew = w5 at hb3d ha3d hB3d ⊢
            go_wp2_with (first | (at_builtin; refine wpList_append_bs _ rfl (.tmp 31) (.tmp 38) 54 54 (by rfl) B i0 Tryz.underlying54 hi hz0 hz1 hz2 _ _ rfl (Bs.alloc hb3d _) _ [92, 117, 48, 48, hxD (X / 16), hxD (X % 16)] rfl g8 (src_lit Tryz.underlying54 _ [92, 117, 48, 48, hxD (X / 16), hxD (X % 16)] 6 rfl _ _ hz1 _ rfl) (by first | omega | (simp; omega) | (simp only [List.length_append, sub_len, bl_len, List.length_cons, List.length_nil]; omega)) (by first | assumption | omega | (simp; omega)) ?_; intro v4 w4 hb4 ha4))
            rw [← HX.out] at hb4
            have Q := q.hit hk hj2 (by rw [HX.out]; exact hh) hb4 ((ha3d.trans (Ap.alloc _ _ _)).trans ha4)
            go_roundg (gk - 1)
            case measure => exact Q.1
            case rel => exact ⟨_, _, k + 1, k + 1, rfl, by go_num, by go_num, Q.2⟩
        · have d1 : (X == 60) = false := by simp; omega
          have d2 : (X == 62) = false := by simp; omega
          have d3 : (X == 38) = false := by simp; omega
          by_cases h226 : X = 226
          · subst h226
            clear d1 d2 d3
            obtain ⟨S, hSp⟩ : ∃ S, sepB s k = S := ⟨_, rfl⟩
            have HSP := Lib.hid hSp
            go_upto_region 9 with fail
            go_cut [67] (fun v wx => v = .bool S ∧ wx = wr)
            case first =>
              unfold sepB at hSp
              by_cases h2 : k + 2 < s.size
              · obtain ⟨Y, hY⟩ : ∃ Y, bAt s (k + 1) = Y := ⟨_, rfl⟩
                obtain ⟨Z, hZ⟩ : ∃ Z, bAt s (k + 2) = Z := ⟨_, rfl⟩
                have c3 := cellO hSr (show k + 1 < s.size by omega) Y hY
                have c4 := cellO hSr h2 Z hZ
                have hz0 := bAt_nonneg s (k + 2)
                have hz1' := bAt_le s (k + 2)
                rw [hZ] at hz0 hz1'
                have han := andnot2 hz0 hz1'
                have hSv : S = decide (Y = 128 ∧ (Z = 168 ∨ Z = 169)) := by rw [← hSp, hX, hY, hZ]; simp [h2]
                have e2 : (k : Int) + 2 < (s.size : Int) := by omega
                have e3 : ((k : Int) + 1).toNat = k + 1 := by omega
                have e4 : ((k : Int) + 2).toNat = k + 2 := by omega
                have e5 : (k : Int) + 1 < (s.size : Int) := by omega
                have e6 : (0 : Int) ≤ (k : Int) + 1 := by omega
                have e7 : (0 : Int) ≤ (k : Int) + 2 := by omega
                clear hSp hX hY hZ q qpend
                subst hSv
                by_cases hy : Y = 128
                · have e8 : (Y == 128) = true := by simp [hy]
                  go_wp2_with fail
                  go_meet
                  exact ⟨congrArg Value.bool (by simp [hy]), rfl⟩
                · have e8 : (Y == 128) = false := by simpa using hy
                  go_wp2_with fail
                  go_meet
                  exact ⟨congrArg Value.bool (by simp [hy]), rfl⟩
              · have e2 : ¬ (k : Int) + 2 < (s.size : Int) := by omega
                have hSv : S = false := by rw [← hSp]; simp [h2]
                clear hSp hX
                subst hSv
                go_wp2_with fail
                go_meet
                exact ⟨rfl, rfl⟩
            case rest =>
              obtain ⟨rfl, rfl⟩ := hcut
              clear hSp
              cases S
              · have Q := q.keep hk hj2 (by rw [HX.out]; exact hh) HSP.out
                clear hX
                go_wp2_with fail
                go_roundg (gk - 1)
                case measure => exact Q.1
                case rel => exact ⟨_, _, j, k + 1, rfl, rfl, by go_num, Q.2⟩
              · have hsp := HSP.out
                unfold sepB at hsp
                rw [decide_eq_true_eq] at hsp
                obtain ⟨s1, s2, s3, s4⟩ := hsp
                obtain ⟨Z, hZ⟩ : ∃ Z, bAt s (k + 2) = Z := ⟨_, rfl⟩
                have c4 := cellO hSr s2 Z hZ
                rw [hZ] at s4
                have HZ := Lib.hid hZ
                have xb := fun w => hexIdx .u8 (Z % 16) (by omega) (by omega) w
                have ma : bits .and .u8 Z 15 = Z % 16 := bits_mask .u8 8 (by decide) wraps_u8 4 (by decide) _ (by omega) (by omega)
                have g8 : By8 [92, 117, 50, 48, 50, hxD (Z % 16)] := by
                  have h2 := hxD_by (n := Z % 16) (by omega) (by omega)
                  intro x hx; simp at hx; omega
                have e2 : (k : Int) + 2 < (s.size : Int) := by omega
                have e4 : ((k : Int) + 2).toNat = k + 2 := by omega
                have e7 : (0 : Int) ≤ (k : Int) + 2 := by omega
                clear hX hZ s1 s3 s4
                go_wp2_with (first
                  | (at_builtin; refine wpList_append_bs _ rfl (.tmp 68) (.tmp 72) 54 54 (by rfl) B i0 Tryz.underlying54 hi hz0 hz1 hz2 _ _ rfl qbs _ (sub s j k) rfl (sub_by s j k) (src_cells Tryz.underlying54 _ _ _ _ (sub_len s j k) _ _ hz1 (.inr ⟨b, j, rfl, sub_cells hSr qks⟩)) (by exact hln1) (by first | assumption | omega | (simp; omega)) ?_; intro v3 w3 hb3 ha3; have hB3 : B ≤ w3.heap.size := Nat.le_trans hBr ha3.size; have c5 := cellO (bytes_block hSr (ha3.block hblr hbnr)) s2 Z HZ.out)
                  | (at_builtin; refine wpList_append_bs _ rfl (.tmp 74) (.tmp 82) 54 54 (by rfl) B i0 Tryz.underlying54 hi hz0 hz1 hz2 _ _ rfl (Bs.alloc hb3 _) _ [92, 117, 50, 48, 50, hxD (Z % 16)] rfl g8 (src_lit Tryz.underlying54 _ [92, 117, 50, 48, 50, hxD (Z % 16)] 6 rfl _ _ hz1 _ rfl) (by first | omega | (simp; omega) | (simp only [List.length_append, sub_len, bl_len, List.length_cons, List.length_nil]; omega)) (by first | assumption | omega | (simp; omega)) ?_; intro v4 w4 hb4 ha4))
                rw [← HZ.out] at hb4
                have Q := q.sep hk hj2 HSP.out hb4 ((ha3.trans (Ap.alloc _ _ _)).trans ha4)
                go_roundg (gk - 1)
                case measure => exact Q.1
                case rel => exact ⟨_, _, k + 3, k + 1, rfl, by go_num, by go_num, Q.2⟩
          · have d4 : (X == 226) = false := by simpa using h226
            have Q := q.keep hk hj2 (by rw [hX]; exact hh) (by unfold sepB; rw [hX]; simp [h226])
            clear hX
            go_wp2_with fail
            go_roundg (gk - 1)
            case measure => exact Q.1
            case rel => exact ⟨_, _, j, k + 1, rfl, rfl, by go_num, Q.2⟩
    · have hkz : k = s.size := by omega
      subst hkz
      have hqo : Hid (l' ++ sub s j s.size = T) := Lib.hid (by
        have A : l' ++ sub s j s.size ++ heS (j - s.size) (sub s s.size s.size) = T := qo
        rw [sub_self] at A
        cases hjs : j - s.size <;> rw [hjs] at A <;> simpa [heS] using A)
      have hjsI : (j : Int) ≤ (s.size : Int) := by omega
      have hln1 : l'.length + (sub s j s.size).length ≤ 140737488355328 := by rw [sub_len]; omega
      clear qo
      by_cases hjc : j = cap
      · subst hjc
        have HSJ := Lib.hid (show s.size = j by omega)
        go_wp2_with (first | (at_builtin; refine wpList_append_bs _ rfl (.tmp 87) (.tmp 90) 54 54 (by rfl) B i0 Tryz.underlying54 hi hz0 hz1 hz2 _ _ rfl qbs _ (sub s j s.size) rfl (sub_by s j s.size) (src_cells Tryz.underlying54 _ _ _ _ (by rw [sub_len]; have := HSJ.out; omega) _ _ hz1 (.inl (by have := HSJ.out; omega))) (by exact hln1) (by first | assumption | omega | (simp; omega)) ?_; intro v4 w4 hb4 ha4))
        all_goals go_ret
        rw [hqo.out] at hb4
        exact ⟨_, rfl, hb4, qap.trans ha4⟩
      · have hjc2 : (j : Int) < (cap : Int) := by omega
        go_wp2_with (first | (at_builtin; refine wpList_append_bs _ rfl (.tmp 87) (.tmp 90) 54 54 (by rfl) B i0 Tryz.underlying54 hi hz0 hz1 hz2 _ _ rfl qbs _ (sub s j s.size) rfl (sub_by s j s.size) (src_cells Tryz.underlying54 _ _ _ _ (sub_len s j s.size) _ _ hz1 (.inr ⟨b, j, rfl, sub_cells hSr (Nat.le_refl _)⟩)) (by exact hln1) (by first | assumption | omega | (simp; omega)) ?_; intro v4 w4 hb4 ha4))
        all_goals go_ret
        rw [hqo.out] at hb4
        exact ⟨_, rfl, hb4, qap.trans ha4⟩
end Go.Proofs.YtjbffgjclnjkoaaGreatDoor
