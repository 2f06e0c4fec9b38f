/- Quoting by encoding/json: the walk of appendString. -/
import Derived.Test.YtbnnjjilkpdanaaDoorOq
import Derived.Test.YtbnnjjilkpdanaaDoorCb
import Derived.Test.YtbnnjjilkpdanaaDoorQt
import Derived.Deep.LoopGhost
import Derived.Deep.DeepCutAuto
import Derived.Deep.CutBlock
import Derived.Deep.Light
namespace Go.Proofs.YtbnnjjilkpdanaaDoor
open Go.RowKit
set_option linter.unusedVariables false

theorem oC_safe {html : Bool} {s : ByteArray} {k : Nat} {X : Int} (hX : bAt s k = X) (h1 : X < 128) (h : safeO html X = true) : oC html s k = sub s k (k + 1) := by
  unfold oC; rw [hX, if_pos h1, if_pos h, sub_one, hX]
theorem oC_esc {html : Bool} {s : ByteArray} {k : Nat} {X : Int} (hX : bAt s k = X) (h1 : X < 128) (h : safeO html X = false) : oC html s k = escO X := by
  unfold oC; rw [hX, if_pos h1, if_neg (by rw [h]; simp)]
theorem escO_1 {X : Int}  (h : (X == 92) = true) : escO X = [92, X] := by
  simp at *
  subst h
  rfl
theorem escO_2 {X : Int} (h0 : (X == 92) = false) (h : (X == 34) = true) : escO X = [92, X] := by
  simp at *
  subst h
  rfl
theorem escO_3 {X : Int} (h0 : (X == 92) = false) (h1 : (X == 34) = false) (h : (X == 8) = true) : escO X = [92, 98] := by
  simp at *
  subst h
  rfl
theorem escO_4 {X : Int} (h0 : (X == 92) = false) (h1 : (X == 34) = false) (h2 : (X == 8) = false) (h : (X == 12) = true) : escO X = [92, 102] := by
  simp at *
  subst h
  rfl
theorem escO_5 {X : Int} (h0 : (X == 92) = false) (h1 : (X == 34) = false) (h2 : (X == 8) = false) (h3 : (X == 12) = false) (h : (X == 10) = true) : escO X = [92, 110] := by
  simp at *
  subst h
  rfl
theorem escO_6 {X : Int} (h0 : (X == 92) = false) (h1 : (X == 34) = false) (h2 : (X == 8) = false) (h3 : (X == 12) = false) (h4 : (X == 10) = false) (h : (X == 13) = true) : escO X = [92, 114] := by
  simp at *
  subst h
  rfl
theorem escO_7 {X : Int} (h0 : (X == 92) = false) (h1 : (X == 34) = false) (h2 : (X == 8) = false) (h3 : (X == 12) = false) (h4 : (X == 10) = false) (h5 : (X == 13) = false) (h : (X == 9) = true) : escO X = [92, 116] := by
  simp at *
  subst h
  rfl
theorem escO_8 {X : Int} (h : ¬ (X = 92 ∨ X = 34 ∨ X = 8 ∨ X = 12 ∨ X = 10 ∨ X = 13 ∨ X = 9)) : escO X = [92, 117, 48, 48, hxD (X / 16), hxD (X % 16)] := by
  unfold escO
  rw [if_neg (by omega), if_neg (by omega), if_neg (by omega), if_neg (by omega), if_neg (by omega), if_neg (by omega)]
theorem safe_mono {X : Int} (h : safeO true X = true) : safeO false X = true := by
  unfold safeO at h ⊢; simp at h ⊢; omega

set_option maxRecDepth 100000 in
set_option maxHeartbeats 8000000 in
theorem oldW (html : Bool) (B : Nat) (v : Value) (l : List Int) (s : ByteArray) (w : World) (hv : Bs w B v l) (hB : B ≤ w.heap.size) (hs : s.size ≤ 100000000000) (hl : l.length ≤ 100000000000) (hT : TabsB B w) (hF : SafeB B w) :
    Calls Tryd.prog 58 #[v, .string s, .bool html] w fun e w' => ∃ v', e = .returned v' ∧ Bs w' B v' (l ++ [34] ++ oO html s s.size 0 ++ [34]) ∧ Ap v w v' w' := by
  obtain ⟨i0, hi, hz0, hz1, hz2⟩ := info_parts Tryd.infoU8
  obtain ⟨T, HT⟩ : ∃ T, Hid (l ++ [34] ++ oO html s s.size 0 = T) := ⟨_, Lib.hid rfl⟩
  rw [HT.out]
  go_enter Tryd.func58, Tryd.ntmps58
  go_wp2_with (first | (at_builtin; refine wpList_append_bs _ rfl (.tmp 13) (.tmp 14) 46 46 (by rfl) B i0 Tryd.underlying46 hi hz0 hz1 hz2 _ _ rfl (Bs.alloc hv _) _ [34] rfl (by intro x hx; simp at hx; omega) (src_lit Tryd.underlying46 _ [34] 1 rfl _ _ hz1 _ rfl) (by first | omega | (simp; omega) | (simp only [List.length_append, sub_len, bl_len, List.length_cons, List.length_nil]; omega)) (by first | assumption | omega | (simp; omega)) ?_; intro v2 w2 hb2 ha2))
  have hl2 : (l ++ [34]).length = l.length + 1 := by simp
  have h0 : ORel B v w html s (l.length + 1) T s.size 0 0 v2 (l ++ [34]) w2 :=
    ⟨Nat.le_refl _, Nat.zero_le _, hb2, (Ap.alloc _ _ _).trans ha2, by omega, by omega, by rw [sub_self, List.append_nil]; exact HT.out⟩
  clear HT hb2 ha2 hl2
  go_loopg [0, 7, 8] s.size (fun g d i n wr => ∃ (v' : Value) (l' : List Int) (j k : Nat), d = v' ∧ i = .int .i64 j ∧ n = .int .i64 k ∧ ORel B v w html s (l.length + 1) T g j k v' l' wr)
  case atStart => exact ⟨_, _, 0, 0, rfl, rfl, rfl, h0⟩
  case round =>
    clear h0
    obtain ⟨v', l', j, k, rfl, rfl, rfl, q⟩ := hrel
    obtain ⟨qjk, qks, qbs, qap, qlen, qf, qo⟩ := id q
    have hbelow := qap.below hv hB
    have hTr := hT.below hbelow
    have hFr := hF.below hbelow
    have hBr : B ≤ wr.heap.size := Nat.le_trans hB qap.size
    have hjk : (j : Int) ≤ (k : Int) := by omega
    have hks : (k : Int) ≤ (s.size : Int) := by omega
    have hj0 : (0 : Int) ≤ (j : Int) := by omega
    have hzz : (s.extract j k).size = k - j := by rw [ByteArray.size_extract]; omega
    have hbe : bl (s.extract j k) = sub s j k := bl_sub s j k qks qjk
    by_cases hk : k < s.size
    · have hst := step_fit' s k hk
      have hX0 := bAt_nonneg s k
      have hX1 := bAt_le s k
      have hbk := bAt_lt hk
      obtain ⟨X, hX⟩ : ∃ X, bAt s k = X := ⟨_, rfl⟩
      rw [hX] at hX0 hX1 hbk
      have hbx : (s[k].toNat : Int) = X := hbk.symm
      have HX := Lib.hid hX
      have hkw : IntKind.i64.wrap ((k : Int) + 1) = (k : Int) + 1 := by rw [IntKind.wrap_i64]; omega
      have hln1 : l'.length + (bl (s.extract j k)).length ≤ 140737488355328 := by rw [hbe, sub_len]; omega
      have hln2 : (l' ++ bl (s.extract j k)).length + 6 ≤ 140737488355328 := by rw [List.length_append, hbe, sub_len]; omega
      clear hX hbk
      by_cases hX2 : X < 128
      · have hs1 : stepN s k = 1 := by
          have hu : uw s k = 1 := by unfold uw; rw [if_pos hk, if_pos (by rw [HX.out]; exact hX2)]
          unfold stepN; rw [hu]; rfl
        have HS1 := Lib.hid hs1
        obtain ⟨f1, f2⟩ := hFr.at hX0 hX2
        obtain ⟨S, hS⟩ : ∃ S, safeO html X = S := ⟨_, rfl⟩
        have hHS := Lib.hid hS
        clear hst qo hs1
        go_upto_region 7 with fail
        go_cut [36] (fun v wx => v = .bool S ∧ wx = wr)
        case first =>
          have hmn := safe_mono (X := X)
          cases html <;> cases hbt : safeO true X <;> cases hbf : safeO false X
          all_goals first
            | (exfalso; rw [hbt, hbf] at hmn; exact Bool.false_ne_true (hmn rfl))
            | (have hSv := hHS.out
               first | (rw [hbf] at hSv) | skip
               first | (rw [hbt] at hSv) | skip
               rw [hbt] at f2
               rw [hbf] at f1
               subst hSv
               clear hS hHS hmn
               go_wp2_with fail
               go_meet
               exact ⟨rfl, rfl⟩)
        case rest =>
          obtain ⟨rfl, rfl⟩ := hcut
          have hmul : (l' ++ bl (s.extract j k)).length + 2 ≤ 140737488355328 := by omega
          cases S
          · by_cases hsp : X = 92 ∨ X = 34 ∨ X = 8 ∨ X = 12 ∨ X = 10 ∨ X = 13 ∨ X = 9
            · go_wp2_with (first
                | (at_builtin; refine wpList_append_bs _ rfl (.tmp 39) (.tmp 43) 46 9 (by rfl) B i0 Tryd.underlying46 hi hz0 hz1 hz2 _ _ rfl qbs _ (bl (s.extract j k)) rfl (bl_by8 _) (src_str Tryd.underlying9 (s.extract j k) _ _ hz1) (by exact hln1) (by first | assumption | omega | (simp; omega)) ?_; intro v3 w3 hb3 ha3; have hB3 : B ≤ w3.heap.size := Nat.le_trans hBr ha3.size)
                | (at_builtin; refine wpList_append_bs _ rfl (.tmp 58) (.tmp 60) 46 46 (by rfl) B i0 Tryd.underlying46 hi hz0 hz1 hz2 _ _ rfl (Bs.alloc hb3 _) _ [92, X] rfl (by intro x hx; simp at hx; omega) (src_lit Tryd.underlying46 _ [92, X] 2 rfl _ _ hz1 _ rfl) (by first | omega | (simp; omega) | (simp only [List.length_append, sub_len, bl_len, List.length_cons, List.length_nil]; omega)) (by first | assumption | omega | (simp; omega)) ?_; intro v4 w4 hb4 ha4)
                | (at_builtin; refine wpList_append_bs _ rfl (.tmp 64) (.tmp 65) 46 46 (by rfl) B i0 Tryd.underlying46 hi hz0 hz1 hz2 _ _ rfl (Bs.alloc hb3 _) _ [92, 98] rfl (by intro x hx; simp at hx; omega) (src_lit Tryd.underlying46 _ [92, 98] 2 rfl _ _ hz1 _ rfl) (by first | omega | (simp; omega) | (simp only [List.length_append, sub_len, bl_len, List.length_cons, List.length_nil]; omega)) (by first | assumption | omega | (simp; omega)) ?_; intro v4 w4 hb4 ha4)
                | (at_builtin; refine wpList_append_bs _ rfl (.tmp 69) (.tmp 70) 46 46 (by rfl) B i0 Tryd.underlying46 hi hz0 hz1 hz2 _ _ rfl (Bs.alloc hb3 _) _ [92, 102] rfl (by intro x hx; simp at hx; omega) (src_lit Tryd.underlying46 _ [92, 102] 2 rfl _ _ hz1 _ rfl) (by first | omega | (simp; omega) | (simp only [List.length_append, sub_len, bl_len, List.length_cons, List.length_nil]; omega)) (by first | assumption | omega | (simp; omega)) ?_; intro v4 w4 hb4 ha4)
                | (at_builtin; refine wpList_append_bs _ rfl (.tmp 74) (.tmp 75) 46 46 (by rfl) B i0 Tryd.underlying46 hi hz0 hz1 hz2 _ _ rfl (Bs.alloc hb3 _) _ [92, 110] rfl (by intro x hx; simp at hx; omega) (src_lit Tryd.underlying46 _ [92, 110] 2 rfl _ _ hz1 _ rfl) (by first | omega | (simp; omega) | (simp only [List.length_append, sub_len, bl_len, List.length_cons, List.length_nil]; omega)) (by first | assumption | omega | (simp; omega)) ?_; intro v4 w4 hb4 ha4)
                | (at_builtin; refine wpList_append_bs _ rfl (.tmp 79) (.tmp 80) 46 46 (by rfl) B i0 Tryd.underlying46 hi hz0 hz1 hz2 _ _ rfl (Bs.alloc hb3 _) _ [92, 114] rfl (by intro x hx; simp at hx; omega) (src_lit Tryd.underlying46 _ [92, 114] 2 rfl _ _ hz1 _ rfl) (by first | omega | (simp; omega) | (simp only [List.length_append, sub_len, bl_len, List.length_cons, List.length_nil]; omega)) (by first | assumption | omega | (simp; omega)) ?_; intro v4 w4 hb4 ha4)
                | (at_builtin; refine wpList_append_bs _ rfl (.tmp 84) (.tmp 85) 46 46 (by rfl) B i0 Tryd.underlying46 hi hz0 hz1 hz2 _ _ rfl (Bs.alloc hb3 _) _ [92, 116] rfl (by intro x hx; simp at hx; omega) (src_lit Tryd.underlying46 _ [92, 116] 2 rfl _ _ hz1 _ rfl) (by first | omega | (simp; omega) | (simp only [List.length_append, sub_len, bl_len, List.length_cons, List.length_nil]; omega)) (by first | assumption | omega | (simp; omega)) ?_; intro v4 w4 hb4 ha4))
              all_goals
                rw [hbe] at hb4
                have Q := q.put hk HS1.out ((oC_esc HX.out hX2 hHS.out).trans (by
                  first
                    | exact escO_1 (by assumption)
                    | exact escO_2 (by assumption) (by assumption)
                    | exact escO_3 (by assumption) (by assumption) (by assumption)
                    | exact escO_4 (by assumption) (by assumption) (by assumption) (by assumption)
                    | exact escO_5 (by assumption) (by assumption) (by assumption) (by assumption) (by assumption)
                    | exact escO_6 (by assumption) (by assumption) (by assumption) (by assumption) (by assumption) (by assumption)
                    | exact escO_7 (by assumption) (by assumption) (by assumption) (by assumption) (by assumption) (by assumption) (by assumption))) hb4 ((ha3.trans (Ap.alloc _ _ _)).trans ha4)
                go_roundg (gk - 1)
                case measure => exact Q.1
                case rel => exact ⟨_, _, k + 1, k + 1, rfl, by go_num, by go_num, Q.2⟩
            · have d1 : (X == 92) = false := by simp; omega
              have d2 : (X == 34) = false := by simp; omega
              have d3 : (X == 8) = false := by simp; omega
              have d4 : (X == 12) = false := by simp; omega
              have d5 : (X == 10) = false := by simp; omega
              have d6 : (X == 13) = false := by simp; omega
              have d7 : (X == 9) = false := by simp; omega
              have hesc := escO_8 hsp
              have xa := fun w => hexIdx .u8 (X / 16) (by omega) (by omega) w
              have xb := fun w => hexIdx .u8 (X % 16) (by omega) (by omega) w
              have ma : bits .and .u8 X 15 = X % 16 := bits_mask .u8 8 (by decide) wraps_u8 4 (by decide) _ hX0 (by omega)
              have g8 : By8 [92, 117, 48, 48, hxD (X / 16), hxD (X % 16)] := by
                have h1 := hxD_by (n := X / 16) (by omega) (by omega)
                have h2 := hxD_by (n := X % 16) (by omega) (by omega)
                intro x hx; simp at hx; omega
              go_upto_region 11 with (at_builtin; refine wpList_append_bs _ rfl (.tmp 39) (.tmp 43) 46 9 (by rfl) B i0 Tryd.underlying46 hi hz0 hz1 hz2 _ _ rfl qbs _ (bl (s.extract j k)) rfl (bl_by8 _) (src_str Tryd.underlying9 (s.extract j k) _ _ hz1) (by exact hln1) (by first | assumption | omega | (simp; omega)) ?_; intro v3 w3 hb3 ha3; have hB3 : B ≤ w3.heap.size := Nat.le_trans hBr ha3.size)
              refine wp_region_any (by kernel_rfl) ?_
              try (change wpAny _ _ _ _ _ _ _ (World.drew _))
              refine wpAny_take (i := 0) (v := ?_) rfl (by kernel_rfl) (by kernel_rfl) (by kernel_rfl) (fun _ _ _ h => h) (Or.inl ⟨by rfl, ?_⟩) ?_
              rotate_left
              · intro wx; go_simp; try with_reducible rfl
              rotate_left
              refine wpAny_take (i := 1) (v := ?_) rfl (by kernel_rfl) (by kernel_rfl) (by kernel_rfl) (fun _ _ _ h => h) (Or.inl ⟨by rfl, ?_⟩) ?_
              rotate_left
              · intro wx; go_simp; try with_reducible rfl
              rotate_left
              refine wpAny_take (i := 2) (v := ?_) rfl (by kernel_rfl) (by kernel_rfl) (by kernel_rfl) (fun _ _ _ h => h) (Or.inl ⟨by rfl, ?_⟩) ?_
              rotate_left
              · intro wx; go_simp; try with_reducible rfl
              rotate_left
              refine wpAny_take (i := 3) (v := ?_) rfl (by kernel_rfl) (by kernel_rfl) (by kernel_rfl) (fun _ _ _ h => h) (Or.inl ⟨by rfl, ?_⟩) ?_
              rotate_left
              · intro wx; go_simp; try with_reducible rfl
              rotate_left
              refine wpAny_take (i := 4) (v := ?_) rfl (by kernel_rfl) (by kernel_rfl) (by kernel_rfl) (fun _ _ _ h => h) (Or.inl ⟨by rfl, ?_⟩) ?_
              rotate_left
              · intro wx; go_simp; try with_reducible rfl
              rotate_left
              refine wpAny_take (i := 5) (v := ?_) rfl (by kernel_rfl) (by kernel_rfl) (by kernel_rfl) (fun _ _ _ h => h) (Or.inl ⟨by rfl, ?_⟩) ?_
              rotate_left
              · intro wx; go_simp; try with_reducible rfl
              rotate_left
              refine wpAny_take (i := 6) (v := ?_) rfl (by kernel_rfl) (by kernel_rfl) (by kernel_rfl) (fun _ _ _ h => h) (Or.inl ⟨by rfl, ?_⟩) ?_
              rotate_left
              · intro wx; go_simp; try with_reducible rfl
              rotate_left
              refine wpAny_rest 7 (by kernel_rfl) ?_
              simp only [List.drop_succ_cons, List.drop_zero]
              have hb3d : Bs w3.drew B v3 (l' ++ bl (s.extract j k)) := hb3.drewN 1
              have ha3d := ha3.trans (Ap.drewN v3 w3 1)
              have hB3d : B ≤ w3.drew.heap.size := hB3
              have hln6 : (l' ++ bl (s.extract j k)).length + 6 ≤ 140737488355328 := hln2
              change Ap _ _ _ w3.drew at ha3d
              generalize w3.drew = w5 at hb3d ha3d hB3d ⊢
              go_wp2_with (first | (at_builtin; refine wpList_append_bs _ rfl (.tmp 46) (.tmp 53) 46 46 (by rfl) B i0 Tryd.underlying46 hi hz0 hz1 hz2 _ _ rfl (Bs.alloc hb3d _) _ [92, 117, 48, 48, hxD (X / 16), hxD (X % 16)] rfl g8 (src_lit Tryd.underlying46 _ [92, 117, 48, 48, hxD (X / 16), hxD (X % 16)] 6 rfl _ _ hz1 _ rfl) (by first | omega | (simp; omega) | (simp only [List.length_append, sub_len, bl_len, List.length_cons, List.length_nil]; omega)) (by first | assumption | omega | (simp; omega)) ?_; intro v4 w4 hb4 ha4))
              rw [hbe] at hb4
              have Q := q.put hk HS1.out ((oC_esc HX.out hX2 hHS.out).trans hesc) hb4 ((ha3d.trans (Ap.alloc _ _ _)).trans ha4)
              go_roundg (gk - 1)
              case measure => exact Q.1
              case rel => exact ⟨_, _, k + 1, k + 1, rfl, by go_num, by go_num, Q.2⟩
          · go_wp2_with fail
            have Q := q.keep hk HS1.out (oC_safe HX.out hX2 hHS.out) (Below.refl _ _)
            go_roundg (gk - 1)
            case measure => exact Q.1
            case rel => exact ⟨_, _, j, k + 1, rfl, rfl, by go_num, Q.2⟩
      · obtain ⟨n, hn⟩ : ∃ n, min (s.size - k) 4 = n := ⟨_, rfl⟩
        have hmin : min ((s.size : Int) - (k : Int)) 4 = (n : Int) := by omega
        have hsb : IntKind.i64.wrap ((s.size : Int) - (k : Int)) = (s.size : Int) - (k : Int) := by rw [IntKind.wrap_i64]; omega
        have hknw : IntKind.i64.wrap ((k : Int) + (n : Int)) = (k : Int) + (n : Int) := by rw [IntKind.wrap_i64]; omega
        have hkn1 : (0 : Int) ≤ (k : Int) + (n : Int) := by omega
        have hkn2 : (k : Int) ≤ (k : Int) + (n : Int) := by omega
        have hkn3 : (k : Int) + (n : Int) ≤ (s.size : Int) := by omega
        have hkn4 : ((k : Int) + (n : Int)).toNat = k + n := by omega
        have hd := fun w' hT' => decode_str s k n w' hk hn.symm hT'
        have hu1 := uw_one s k hk
        rw [HX.out] at hu1
        obtain ⟨d, hst2⟩ : ∃ d, stepN s k = d := ⟨_, rfl⟩
        obtain ⟨r, hr⟩ : ∃ r, runeN s k = r := ⟨_, rfl⟩
        rw [hst2] at hst
        have hdw : IntKind.i64.wrap ((k : Int) + (d : Int)) = (k : Int) + (d : Int) := by rw [IntKind.wrap_i64]; omega
        have hoC : ∀ h : ¬ bAt s k < 128, oC html s k = if uw s k = 0 then [92, 117, 102, 102, 102, 100] else if runeN s k = 8232 then [92, 117, 50, 48, 50, 56] else if runeN s k = 8233 then [92, 117, 50, 48, 50, 57] else sub s k (k + uw s k) := fun h => by unfold oC; rw [if_neg h]
        have hoC2 := Lib.hid (hoC (by rw [HX.out]; exact hX2))
        have hstu : uw s k ≠ 0 → uw s k = d := fun h => by rw [← hst2]; unfold stepN; rw [if_neg h]
        rw [hst2, hr] at hd
        clear hoC qo hn
        by_cases hu : uw s k = 0
        · have hr1 : r = 65533 := by rw [← hr]; unfold runeN; rw [hu]; rfl
          have hd1 : d = 1 := by rw [← hst2]; unfold stepN; rw [hu]; rfl
          have hc : Hid (oC html s k = [92, 117, 102, 102, 102, 100]) := Lib.hid (by rw [hoC2.out, if_pos hu])
          subst hr1 hd1
          clear hu hu1 hstu hr hoC2
          go_wp2_with (first
            | (go_at_call 78; refine (hd _ hTr.1).mono ?_; rintro e w3 ⟨rfl, hb3⟩; have qbs3 := qbs.below hb3; have hB3 : B ≤ w3.heap.size := Nat.le_trans hBr hb3.size)
            | (at_builtin; refine wpList_append_bs _ rfl (.tmp 111) (.tmp 115) 46 9 (by rfl) B i0 Tryd.underlying46 hi hz0 hz1 hz2 _ _ rfl qbs3 _ (bl (s.extract j k)) rfl (bl_by8 _) (src_str Tryd.underlying9 (s.extract j k) _ _ hz1) (by exact hln1) (by first | assumption | omega | (simp; omega)) ?_; intro v4 w4 hb4 ha4; have hB4 : B ≤ w4.heap.size := Nat.le_trans hB3 ha4.size)
            | (at_builtin; refine wpList_append_bs _ rfl (.tmp 117) (.const (.string ⟨#[92, 117, 102, 102, 102, 100]⟩)) 46 9 (by rfl) B i0 Tryd.underlying46 hi hz0 hz1 hz2 _ _ rfl hb4 _ [92, 117, 102, 102, 102, 100] rfl (by intro x hx; simp at hx; omega) (src_strL Tryd.underlying9 ⟨#[92, 117, 102, 102, 102, 100]⟩ [92, 117, 102, 102, 102, 100] rfl _ _ hz1) (by exact hln2) (by first | assumption | omega | (simp; omega)) ?_; intro v5 w5 hb5 ha5))
          rw [hbe] at hb5
          have Q := q.put hk hst2 hc.out hb5 ((Ap.of_below _ hb3).trans (ha4.trans ha5))
          go_roundg (gk - 1)
          case measure => exact Q.1
          case rel => exact ⟨_, _, k + 1, k + 1, rfl, by go_num, by go_num, Q.2⟩
        · have hdu := hstu hu
          have hd2 : 2 ≤ d := by omega
          have hdne : ((d : Int) == 1) = false := by simp; omega
          have hoC3 : Hid (oC html s k = if r = 8232 then [92, 117, 50, 48, 50, 56] else if r = 8233 then [92, 117, 50, 48, 50, 57] else sub s k (k + d)) := Lib.hid (by rw [hoC2.out, if_neg hu, hdu, hr])
          clear hu1 hstu hoC2
          by_cases h32 : r = 8232
          · have hc : Hid (oC html s k = [92, 117, 50, 48, 50, 56]) := Lib.hid (by rw [hoC3.out, if_pos h32])
            subst h32
            have xa : ∀ w, (Instr.index 9 (.string ⟨#[48, 49, 50, 51, 52, 53, 54, 55, 56, 57, 97, 98, 99, 100, 101, 102]⟩) (.int .i32 8)).run Tryd.prog w = .ok (.int .u8 56) w := fun w => hexIdx .i32 8 (by decide) (by decide) w
            have ma : bits .and .i32 8232 15 = 8 := by decide
            clear hr hoC3 hu hdu
            go_wp2_with (first
              | (go_at_call 78; refine (hd _ hTr.1).mono ?_; rintro e w3 ⟨rfl, hb3⟩; have qbs3 := qbs.below hb3; have hB3 : B ≤ w3.heap.size := Nat.le_trans hBr hb3.size)
              | (at_builtin; refine wpList_append_bs _ rfl (.tmp 129) (.tmp 133) 46 9 (by rfl) B i0 Tryd.underlying46 hi hz0 hz1 hz2 _ _ rfl qbs3 _ (bl (s.extract j k)) rfl (bl_by8 _) (src_str Tryd.underlying9 (s.extract j k) _ _ hz1) (by exact hln1) (by first | assumption | omega | (simp; omega)) ?_; intro v4 w4 hb4 ha4; have hB4 : B ≤ w4.heap.size := Nat.le_trans hB3 ha4.size)
              | (at_builtin; refine wpList_append_bs _ rfl (.tmp 135) (.tmp 139) 46 46 (by rfl) B i0 Tryd.underlying46 hi hz0 hz1 hz2 _ _ rfl (Bs.alloc hb4 _) _ [92, 117, 50, 48, 50, 56] rfl (by intro x hx; simp at hx; omega) (src_lit Tryd.underlying46 _ [92, 117, 50, 48, 50, 56] 6 rfl _ _ hz1 _ rfl) (by exact hln2) (by first | assumption | omega | (simp; omega)) ?_; intro v5 w5 hb5 ha5))
            rw [hbe] at hb5
            have Q := q.put hk hst2 hc.out hb5 ((Ap.of_below _ hb3).trans (ha4.trans ((Ap.alloc _ _ _).trans ha5)))
            go_roundg (gk - 1)
            case measure => exact Q.1
            case rel => exact ⟨_, _, k + d, k + d, rfl, by go_num, by go_num, Q.2⟩
          · by_cases h33 : r = 8233
            · have hc : Hid (oC html s k = [92, 117, 50, 48, 50, 57]) := Lib.hid (by rw [hoC3.out, if_neg h32, if_pos h33])
              subst h33
              have xa : ∀ w, (Instr.index 9 (.string ⟨#[48, 49, 50, 51, 52, 53, 54, 55, 56, 57, 97, 98, 99, 100, 101, 102]⟩) (.int .i32 9)).run Tryd.prog w = .ok (.int .u8 57) w := fun w => hexIdx .i32 9 (by decide) (by decide) w
              have ma : bits .and .i32 8233 15 = 9 := by decide
              clear hr hoC3 hu hdu h32
              go_wp2_with (first
                | (go_at_call 78; refine (hd _ hTr.1).mono ?_; rintro e w3 ⟨rfl, hb3⟩; have qbs3 := qbs.below hb3; have hB3 : B ≤ w3.heap.size := Nat.le_trans hBr hb3.size)
                | (at_builtin; refine wpList_append_bs _ rfl (.tmp 129) (.tmp 133) 46 9 (by rfl) B i0 Tryd.underlying46 hi hz0 hz1 hz2 _ _ rfl qbs3 _ (bl (s.extract j k)) rfl (bl_by8 _) (src_str Tryd.underlying9 (s.extract j k) _ _ hz1) (by exact hln1) (by first | assumption | omega | (simp; omega)) ?_; intro v4 w4 hb4 ha4; have hB4 : B ≤ w4.heap.size := Nat.le_trans hB3 ha4.size)
                | (at_builtin; refine wpList_append_bs _ rfl (.tmp 135) (.tmp 139) 46 46 (by rfl) B i0 Tryd.underlying46 hi hz0 hz1 hz2 _ _ rfl (Bs.alloc hb4 _) _ [92, 117, 50, 48, 50, 57] rfl (by intro x hx; simp at hx; omega) (src_lit Tryd.underlying46 _ [92, 117, 50, 48, 50, 57] 6 rfl _ _ hz1 _ rfl) (by exact hln2) (by first | assumption | omega | (simp; omega)) ?_; intro v5 w5 hb5 ha5))
              rw [hbe] at hb5
              have Q := q.put hk hst2 hc.out hb5 ((Ap.of_below _ hb3).trans (ha4.trans ((Ap.alloc _ _ _).trans ha5)))
              go_roundg (gk - 1)
              case measure => exact Q.1
              case rel => exact ⟨_, _, k + d, k + d, rfl, by go_num, by go_num, Q.2⟩
            · have hc : Hid (oC html s k = sub s k (k + d)) := Lib.hid (by rw [hoC3.out, if_neg h32, if_neg h33])
              have e1 : ((r : Int) == 8232) = false := by simp; omega
              have e2 : ((r : Int) == 8233) = false := by simp; omega
              clear hr hoC3 hu hdu
              go_wp2_with (first
                | (go_at_call 78; refine (hd _ hTr.1).mono ?_; rintro e w3 ⟨rfl, hb3⟩; have qbs3 := qbs.below hb3; have hB3 : B ≤ w3.heap.size := Nat.le_trans hBr hb3.size))
              all_goals
                have Q := q.keep hk hst2 hc.out hb3
                go_roundg (gk - 1)
                case measure => exact Q.1
                case rel => exact ⟨_, _, j, k + d, rfl, rfl, by go_num, Q.2⟩
    · have hkz : k = s.size := by omega
      subst hkz
      rw [oO_nil hk, List.append_nil] at qo
      have hqo := Lib.hid (show l' ++ sub s j s.size = T from qo)
      have hln1 : l'.length + (bl (s.extract j s.size)).length ≤ 140737488355328 := by rw [hbe, sub_len]; omega
      have hln2 : (l' ++ bl (s.extract j s.size)).length + 1 ≤ 140737488355328 := by rw [List.length_append, hbe, sub_len]; omega
      clear qo
      go_wp2_with (first
        | (at_builtin; refine wpList_append_bs _ rfl (.tmp 148) (.tmp 151) 46 9 (by rfl) B i0 Tryd.underlying46 hi hz0 hz1 hz2 _ _ rfl qbs _ (bl (s.extract j s.size)) rfl (bl_by8 _) (src_str Tryd.underlying9 (s.extract j s.size) _ _ hz1) (by exact hln1) (by first | assumption | omega | (simp; omega)) ?_; intro v4 w4 hb4 ha4; have hB4 : B ≤ w4.heap.size := Nat.le_trans hBr ha4.size)
        | (at_builtin; refine wpList_append_bs _ rfl (.tmp 153) (.tmp 154) 46 46 (by rfl) B i0 Tryd.underlying46 hi hz0 hz1 hz2 _ _ rfl (Bs.alloc hb4 _) _ [34] rfl (by intro x hx; simp at hx; omega) (src_lit Tryd.underlying46 _ [34] 1 rfl _ _ hz1 _ rfl) (by exact hln2) (by first | assumption | omega | (simp; omega)) ?_; intro v5 w5 hb5 ha5))
      go_ret
      rw [hbe, hqo.out] at hb5
      exact ⟨_, rfl, hb5, qap.trans (ha4.trans ((Ap.alloc _ _ _).trans ha5))⟩
end Go.Proofs.YtbnnjjilkpdanaaDoor
