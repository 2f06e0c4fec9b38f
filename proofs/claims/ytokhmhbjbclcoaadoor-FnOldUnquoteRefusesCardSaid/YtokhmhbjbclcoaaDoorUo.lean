/- Unquoting by the elder package: the walk of unquoteBytes; what it takes without an escaped apostrophe is taken loosely. -/
import Derived.Test.YtokhmhbjbclcoaaDoorUo1
import Derived.Test.YtokhmhbjbclcoaaDoorLo
namespace Go.Proofs.YtokhmhbjbclcoaaDoor
set_option linter.unusedVariables false
set_option linter.unusedSimpArgs false
open Go.RowKit

/-- What unquoteBytes hands back: a slice that can be read as a text; it says 'yes' of texts alone that a loose reader takes. -/
def UqP (S T : ByteArray) (w : World) (e : Ending) (w' : World) : Prop :=
  (∃ (v : Value) (ok : Bool) (t : ByteArray), e = .returned (.tuple #[v, .bool ok]) ∧ (convert 46 9 v).run Tryd.prog w' = .ok (.string t) w' ∧
    (ok = true → 2 ≤ S.size ∧ bAt S 0 = 34 ∧ bAt S (S.size - 1) = 34 ∧ Lo T 0 T.size) ∧ (S.size = 2 → bAt S 0 = 34 → bAt S 1 = 34 → ok = true)) ∧ Below w.heap.size w w'
theorem nil_str (w : World) : (convert 46 9 (.slice none 0 0)).run Tryd.prog w = .ok (.string (txt [])) w := bs_str (Bs.nil w 0)
theorem UqP.no {S T : ByteArray} {w w' : World} (hb : Below w.heap.size w w') (h : S.size = 2 → bAt S 0 = 34 → bAt S 1 = 34 → False) : UqP S T w (.returned (.tuple #[.slice none 0 0, .bool false])) w' :=
  ⟨⟨_, false, _, rfl, nil_str w', fun h => (by cases h), fun h1 h2 h3 => (h h1 h2 h3).elim⟩, hb⟩

theorem Lo.stepN {s : ByteArray} {r : Nat} (hr : r < s.size) (h34 : bAt s r ≠ 34) (h92 : bAt s r ≠ 92) (h32 : 32 ≤ bAt s r) : Lo s r (r + YtokhmhbjbclcoaaDoor.stepN s r) := by
  by_cases h1 : bAt s r < 128
  · rw [step_one s r hr h1]
    exact .plain h34 h92 h32 (.nil _)
  · refine Lo.plains _ fun j hj => ?_
    by_cases e : j = 0
    · subst e; rw [Nat.add_zero]; omega
    · have hu : uw s r ≠ 0 := fun h => by unfold YtokhmhbjbclcoaaDoor.stepN at hj; rw [if_pos h] at hj; omega
      refine uw_inner s r hu (r + j) (by omega) ?_
      unfold YtokhmhbjbclcoaaDoor.stepN at hj
      rw [if_neg hu] at hj
      omega
theorem byteO {w : World} {b o : Nat} {s : ByteArray} (h : Lib.Bytes w b o s) (j : Nat) (hj : j < s.size) : ∃ x : Int, w.cell? ((⟨b, o, none⟩ : Addr).add j) = some (.int .u8 x) ∧ 0 ≤ x ∧ x < 256 := by
  refine ⟨bAt s j, ?_, bAt_nonneg _ _, by have := bAt_le s j; omega⟩
  have e : (⟨b, o, none⟩ : Addr).add j = ⟨b, o + j, none⟩ := by unfold Addr.add; split <;> simp_all
  rw [e]
  exact cellO h hj _ rfl _ rfl
theorem Row8.at {w : World} {B g L : Nat} (h : Row8 w B g L) (j : Nat) (hj : j < L) : ∃ x : Int, w.cell? ((⟨g, 0, none⟩ : Addr).add j) = some (.int .u8 x) ∧ 0 ≤ x ∧ x < 256 := by
  have e : (⟨g, 0, none⟩ : Addr).add j = ⟨g, j, none⟩ := by unfold Addr.add; split <;> simp_all
  rw [e]
  exact h.cell j hj
theorem runeN_bd (s : ByteArray) (i : Nat) : runeN s i ≤ 2097151 := by
  have h := bN_le s i
  unfold runeN
  repeat' split
  all_goals omega

set_option maxRecDepth 100000 in
set_option maxHeartbeats 4000000 in
theorem uqb_any (S T : ByteArray) (b cap : Nat) (w : World) (hB : Lib.Bytes w b 0 S) (hb : b < w.heap.size) (hn : 2 ≤ S.size → T.size + 2 = S.size ∧ Lib.Bytes w b 1 T) (hs : S.size ≤ 100000) (hcap : S.size ≤ cap) (hcm : cap ≤ maxLen) (hT : TabsB w.heap.size w)
    (hap : ∀ i, bAt T i = 92 → bAt T (i + 1) ≠ 39) (m : Nat) (hm : m = S.size) :
    Calls Tryd.prog 57 #[.slice (some ⟨b, 0, none⟩) m cap] w (UqP S T w) := by
  have HM := Lib.hid hm
  clear hm
  by_cases h2 : m < 2
  · have h2' : (m : Int) < 2 := by omega
    go_enter Tryd.func57, Tryd.ntmps57
    go_wp2_with fail
    all_goals go_ret2
    exact UqP.no (Below.refl _ _) (fun h => by have := HM.out; omega)
  obtain ⟨k, hk⟩ : ∃ k, m = k + 1 := ⟨m - 1, by omega⟩
  subst hk
  obtain ⟨X0, hX0⟩ : ∃ X, bAt S 0 = X := ⟨_, rfl⟩
  obtain ⟨Y0, hY0⟩ : ∃ X, bAt S k = X := ⟨_, rfl⟩
  have hc0 := cellO hB (i := 0) (by have := HM.out; omega) X0 hX0 0 rfl
  have hc1 := cellO hB (i := k) (by have := HM.out; omega) Y0 hY0 k (by omega)
  have hkI : (1 : Int) ≤ (k : Int) := by omega
  have hkc : (k : Int) < (cap : Int) := by have := HM.out; omega
  have hks : (k : Int) ≤ 200000 := by have := HM.out; omega
  clear h2
  by_cases h0 : X0 = 34
  case neg =>
    have h0' : (X0 != 34) = true := by simpa using h0
    have HX := Lib.hid hX0
    clear h0 hX0
    go_enter Tryd.func57, Tryd.ntmps57
    go_wp2_with fail
    all_goals go_ret2
    exact UqP.no (Below.refl _ _) (fun _ h => by rw [HX.out] at h; simp [h] at h0')
  have HX := Lib.hid hX0
  have HY := Lib.hid hY0
  clear hX0 hY0
  subst h0
  by_cases h1 : Y0 = 34
  case neg =>
    have h1' : (Y0 != 34) = true := by simpa using h1
    clear h1
    go_enter Tryd.func57, Tryd.ntmps57
    go_wp2_with fail
    all_goals go_ret2
    exact UqP.no (Below.refl _ _) (fun h _ h3 => by
      have := HM.out
      have hk1 : k = 1 := by omega
      rw [hk1, h3] at HY; have := HY.out; rw [← this] at h1'; simp at h1')
  subst h1
  obtain ⟨hTn, hBT⟩ := hn (by have := HM.out; omega)
  obtain ⟨n, HN⟩ : ∃ n, Hid (T.size = n) := ⟨_, Lib.hid rfl⟩
  obtain rfl : k = n + 1 := by have := HM.out; have := HN.out; omega
  have n1 : (0 : Int) ≤ (n : Int) := by omega
  have n2 : (n : Int) + 1 < (cap : Int) := by omega
  have n3 : (n : Int) ≤ 200000 := by omega
  clear hTn hn hkI hkc hks
  go_enter Tryd.func57, Tryd.ntmps57
  have hmk1 : ∀ w : World, (Instr.makeSlice 46 (.int .i64 ((n : Int) + 8)) (.int .i64 ((n : Int) + 8))).run Tryd.prog w = .ok (.slice (some ⟨w.heap.size, 0, none⟩) (n + 8) (n + 8)) (w.alloc (.cells (madeCells #[.int .u8 0] (n + 8)) 5)) := fun w =>
    run_make_row' (P := Tryd.prog) 46 5 (.int .u8 0) 1 Tryd.underlying46 Tryd.infoU8 rfl .i64 .i64 (n + 8) (by omega) (by omega) w
  go_upto_block 0 with fail
  go_cut [4] from 40 to 73 (fun v wx => ∃ r : Nat, v = .int .i64 r ∧ r ≤ n ∧ Lo T 0 r ∧ Below w.heap.size w wx)
  case first =>
    as_aux_lemma =>
      clear hmk1 hc0 hc1
      go_wp2_with fail
      go_loopg [4] n (fun g v wr => ∃ r : Nat, v = .int .i64 r ∧ r ≤ n ∧ n - r ≤ g ∧ Lo T 0 r ∧ Below w.heap.size w wr)
      case atStart => exact ⟨0, rfl, Nat.zero_le _, by omega, .nil 0, Below.refl _ _⟩
      case round =>
        obtain ⟨r, rfl, hr, hg, hL, hbw⟩ := hrel
        by_cases hlt : r < n
        case neg =>
          have h1 : (n : Int) ≤ (r : Int) := by omega
          go_wp2_with fail
          go_meet
          exact ⟨r, rfl, hr, hL, hbw⟩
        obtain ⟨X, hX⟩ : ∃ X, bAt T r = X := ⟨_, rfl⟩
        have hBr := bytes_block hBT (hbw.block b hb)
        have hc := cellO hBr (i := r) (by have := HN.out; omega) X hX (1 + r) rfl
        have hx0 : 0 ≤ X := by rw [← hX]; exact bAt_nonneg _ _
        have hx1 : X ≤ 255 := by rw [← hX]; exact bAt_le _ _
        have hrI : (r : Int) < (n : Int) := by omega
        have hrc : (r : Int) < ((cap - 1 : Nat) : Int) := by omega
        by_cases e92 : X = 92
        · subst e92
          go_wp2_with fail
          go_meet
          exact ⟨r, rfl, hr, hL, hbw⟩
        by_cases e34 : X = 34
        · subst e34
          go_wp2_with fail
          go_meet
          exact ⟨r, rfl, hr, hL, hbw⟩
        have b92 : (X == 92) = false := by simpa using e92
        have b34 : (X == 34) = false := by simpa using e34
        by_cases e32 : X < 32
        · clear e92 e34
          go_wp2_with fail
          go_meet
          exact ⟨r, rfl, hr, hL, hbw⟩
        have h32 : 32 ≤ X := by omega
        have hTz : T.size - r = n - r := by rw [HN.out]
        have hdec := fun w' hT' hB' => decode_off T r 1 (1 + r) b (n - r) (cap - 1 - r) w' (by have := HN.out; omega) hT' hB' rfl (by rw [HN.out])
        have hst : Lo T r (r + stepN T r) := Lo.stepN (by have := HN.out; omega) (by rw [hX]; exact e34) (by rw [hX]; exact e92) (by rw [hX]; exact h32)
        have hfit := step_fits T r (by have := HN.out; omega)
        rw [HN.out] at hfit
        obtain ⟨R, hR⟩ : ∃ R : Int, (runeN T r : Int) = R := ⟨_, rfl⟩
        obtain ⟨N, hN⟩ : ∃ N, stepN T r = N := ⟨_, rfl⟩
        rw [hR, hN] at hdec
        rw [hN] at hst hfit
        have hTw := hT.below hbw
        clear hX hTz hR hN e92 e34 e32
        have hcl : (R = 65533 ∧ N = 1) ∨ (R == 65533) = false ∨ (R = 65533 ∧ ((N : Int) == 1) = false) := by
          by_cases h1 : R = 65533
          · by_cases h2 : N = 1
            · exact .inl ⟨h1, h2⟩
            · exact .inr (.inr ⟨h1, by simp; omega⟩)
          · exact .inr (.inl (by simpa using h1))
        rcases hcl with ⟨rfl, rfl⟩ | hR1 | ⟨rfl, hN1⟩
        · go_wp2_with (go_at_call 60; refine (hdec _ hTw.1 hBr).mono ?_; rintro e w2 ⟨rfl, hb2⟩)
          go_meet
          exact ⟨r, rfl, hr, hL, hbw.trans (hb2.mono hbw.size)⟩
        · go_wp2_with (go_at_call 60; refine (hdec _ hTw.1 hBr).mono ?_; rintro e w2 ⟨rfl, hb2⟩)
          go_roundg (gk - 1)
          case measure => omega
          case rel => exact ⟨r + N, by go_num, by omega, by omega, hL.app hst, hbw.trans (hb2.mono hbw.size)⟩
        · go_wp2_with (go_at_call 60; refine (hdec _ hTw.1 hBr).mono ?_; rintro e w2 ⟨rfl, hb2⟩)
          go_roundg (gk - 1)
          case measure => omega
          case rel => exact ⟨r + N, by go_num, by omega, by omega, hL.app hst, hbw.trans (hb2.mono hbw.size)⟩
  case rest =>
  clear hc0 hc1
  obtain ⟨r, rfl, hr, hL, hbw⟩ := hcut
  by_cases hrn : r = n
  case pos =>
    subst hrn
    clear hmk1
    go_wp2_with fail
    all_goals go_ret2
    have hBc := bytes_block hBT (hbw.block b hb)
    have hcv := Lib.run_convert_whole (P := Tryd.prog) wc 46 5 9 Tryd.underlying46 Tryd.underlying5 Tryd.underlying9 b 1 T hBc (cap - 1)
    rw [HN.out] at hcv
    exact ⟨⟨_, true, T, rfl, hcv, fun _ => ⟨by have := HM.out; omega, HX.out, by rw [← HM.out]; exact HY.out, by rw [HN.out]; exact hL⟩, fun _ _ _ => rfl⟩, hbw⟩
  have hrI : (r : Int) < (n : Int) := by omega
  have hn0 : n ≠ 0 := by omega
  have hrb : ((r : Int) == (n : Int)) = false := beq_eq_false_iff_ne.2 (by omega)
  have hrc : (r : Int) < ((cap - 1 : Nat) : Int) := by omega
  go_upto_region 13 with fail
  have hR0 := Row8.made (w := wc) (B := w.heap.size) (n + 8) hbw.size
  have hbw1 : Below w.heap.size w (wc.alloc (.cells (madeCells #[.int .u8 0] (n + 8)) 5)) := hbw.alloc hbw.size _
  have hB1 := bytes_block hBT (hbw1.block b hb)
  go_wp2_with (with_reducible refine wpList_copy8 rfl (.tmp 83) (.tmp 86) rfl w.heap.size wc.heap.size (n + 8) _ _ r _ (some ⟨b, 1, none⟩) rfl rfl hR0 rfl (by omega) (fun _ => ⟨_, rfl, fun j hj => byteO hB1 j (by have := HN.out; omega)⟩) ?_; intro w2 hR2 hb2)
  clear hmk1 hrI hrb hrc hrn
  have hbw2 := hbw1.trans hb2
  clear hb2 hB1 hbw1 hR0 hbw
  go_loopg [4, 8, 9] n (fun gh v4 v8 v9 wr => ∃ (r z g L : Nat), v4 = .int .i64 r ∧ v8 = .slice (some ⟨g, 0, none⟩) L L ∧ v9 = .int .i64 z ∧ r ≤ n ∧ n - r ≤ gh ∧ z ≤ 4 * r ∧ z < L ∧ L ≤ 8 * n + 100 ∧ Lo T 0 r ∧ Row8 wr w.heap.size g L ∧ Below w.heap.size w wr)
  case atStart => exact ⟨r, r, _, n + 8, rfl, rfl, rfl, hr, by omega, by omega, by omega, by omega, hL, hR2, hbw2⟩
  case round =>
  clear hR2 hbw2 hr hL
  obtain ⟨r, z, g, L, rfl, rfl, rfl, hr, hgk, hz1, hz2, hz3, hLo, hR, hbz⟩ := hrel
  by_cases hlt : r < n
  case neg =>
    obtain rfl : r = n := by omega
    obtain ⟨t, ht1, ht2⟩ := hR.bytes z (by omega)
    have hzI : (z : Int) ≤ (L : Int) := by omega
    have hcv := fun cap => Lib.run_convert_whole (P := Tryd.prog) wr 46 5 9 Tryd.underlying46 Tryd.underlying5 Tryd.underlying9 g 0 t ht2 cap
    rw [ht1] at hcv
    clear ht1 ht2
    go_wp2_with fail
    all_goals go_ret2
    exact ⟨⟨_, true, t, rfl, hcv _, fun _ => ⟨by have := HM.out; omega, HX.out, by rw [← HM.out]; exact HY.out, by rw [HN.out]; exact hLo⟩, fun _ _ _ => rfl⟩, hbz⟩
  have hrI : (r : Int) < (n : Int) := by omega
  go_upto_if 96 with fail
  go_cut [8, 10] from 92 to 107 (fun v u wx => ∃ g L : Nat, v = .slice (some ⟨g, 0, none⟩) L L ∧ z + 8 < L ∧ L ≤ 8 * n + 100 ∧ Row8 wx w.heap.size g L ∧ Below w.heap.size w wx)
  case first =>
    as_aux_lemma =>
      have hB1 := bytes_block hBT (hbz.block b hb)
      by_cases hg1 : L ≤ z + 8
      case neg =>
        have hg2 : (z : Int) < (L : Int) - 8 := by omega
        clear hg1
        go_wp2_with fail
        go_meet
        exact ⟨g, L, rfl, by omega, hz3, hR, hbz⟩
      have hg2 : (L : Int) - 8 ≤ (z : Int) := by omega
      have hzI : (z : Int) ≤ (L : Int) := by omega
      have hmk2 : ∀ w : World, (Instr.makeSlice 46 (.int .i64 (((L : Int) + 4) * 2)) (.int .i64 (((L : Int) + 4) * 2))).run Tryd.prog w = .ok (.slice (some ⟨w.heap.size, 0, none⟩) ((L + 4) * 2) ((L + 4) * 2)) (w.alloc (.cells (madeCells #[.int .u8 0] ((L + 4) * 2)) 5)) := fun w =>
        run_make_row' (P := Tryd.prog) 46 5 (.int .u8 0) 1 Tryd.underlying46 Tryd.infoU8 rfl .i64 .i64 ((L + 4) * 2) (by omega) (by omega) w
      have hLI : (L : Int) ≤ 1000000000 := by omega
      clear hg1
      go_upto_region 17 with fail
      have hR0 := Row8.made (w := wr) (B := w.heap.size) ((L + 4) * 2) hbz.size
      have hRk := hR.alloc (.cells (madeCells #[.int .u8 0] ((L + 4) * 2)) 5)
      have hbz1 : Below w.heap.size w (wr.alloc (.cells (madeCells #[.int .u8 0] ((L + 4) * 2)) 5)) := hbz.alloc hbz.size _
      go_wp2_with (with_reducible refine wpList_copy8 rfl (.tmp 102) (.tmp 105) rfl w.heap.size wr.heap.size ((L + 4) * 2) _ _ z _ (some ⟨g, 0, none⟩) rfl rfl hR0 rfl (by omega) (fun _ => ⟨_, rfl, fun j hj => hRk.at j (by omega)⟩) ?_; intro w2 hR2 hb2)
      go_meet
      exact ⟨_, (L + 4) * 2, rfl, by omega, by omega, hR2, hbz1.trans hb2⟩
  case rest =>
  clear hR hbz hz2 hz3
  obtain ⟨g, L, rfl, hz2, hz3, hR, hbz⟩ := hcut
  obtain ⟨X, hX⟩ : ∃ X, bAt T r = X := ⟨_, rfl⟩
  have hBr := bytes_block hBT (hbz.block b hb)
  have hc := cellO hBr (i := r) (by have := HN.out; omega) X hX (1 + r) rfl
  have hx0 : 0 ≤ X := by rw [← hX]; exact bAt_nonneg _ _
  have hx1 : X ≤ 255 := by rw [← hX]; exact bAt_le _ _
  have hrc : (r : Int) < ((cap - 1 : Nat) : Int) := by omega
  have hzI : (z : Int) < (L : Int) := by omega
  have HX2 := Lib.hid hX
  clear hX
  by_cases e92 : X = 92
  · subst e92
    by_cases hr1 : r + 1 < n
    case neg =>
      have hr1' : (n : Int) ≤ (r : Int) + 1 := by omega
      clear hr1
      as_aux_lemma =>
        go_wp2_with fail
        all_goals go_ret2
        exact UqP.no hbz (fun h => by have := HM.out; omega)
    have hr1I : (r : Int) + 1 < (n : Int) := by omega
    obtain ⟨Y, hY⟩ : ∃ X, bAt T (r + 1) = X := ⟨_, rfl⟩
    have hc2 := cellO hBr (i := r + 1) (by have := HN.out; omega) Y hY (1 + (r + 1)) rfl
    have hy0 : 0 ≤ Y := by rw [← hY]; exact bAt_nonneg _ _
    have hy1 : Y ≤ 255 := by rw [← hY]; exact bAt_le _ _
    have hap1 := hap r HX2.out
    rw [hY] at hap1
    have HY2 := Lib.hid hY
    clear hY
    have esc : 0 ≤ escC Y → Lo T r (r + 2) := fun h => .esc HX2.out (by rw [HY2.out]; exact h) (.nil _)
    have b39 : (Y == 39) = false := by simpa using hap1
    clear hap1
    by_cases e1 : Y = 34
    · subst e1
      as_aux_lemma =>
        have hs := esc (by decide)
        clear esc
        obtain ⟨y0, hyc, _⟩ := hR.cell z (by omega)
        have hyf := hR.free z
        go_wp2_with (fail)
        go_roundg (gk - 1)
        case measure => omega
        case rel => exact ⟨r + 2, z + 1, g, L, by go_num, rfl, by go_num, by omega, by omega, by omega, by omega, by omega, hLo.app (hs), hR.setCell z (x := 34) (by omega) (by omega), hbz.setCell (p := ⟨g, z, none⟩) hR.1 _⟩
    by_cases e2 : Y = 92
    · subst e2
      as_aux_lemma =>
        have hs := esc (by decide)
        clear esc
        obtain ⟨y0, hyc, _⟩ := hR.cell z (by omega)
        have hyf := hR.free z
        go_wp2_with (fail)
        go_roundg (gk - 1)
        case measure => omega
        case rel => exact ⟨r + 2, z + 1, g, L, by go_num, rfl, by go_num, by omega, by omega, by omega, by omega, by omega, hLo.app (hs), hR.setCell z (x := 92) (by omega) (by omega), hbz.setCell (p := ⟨g, z, none⟩) hR.1 _⟩
    by_cases e3 : Y = 47
    · subst e3
      as_aux_lemma =>
        have hs := esc (by decide)
        clear esc
        obtain ⟨y0, hyc, _⟩ := hR.cell z (by omega)
        have hyf := hR.free z
        go_wp2_with (fail)
        go_roundg (gk - 1)
        case measure => omega
        case rel => exact ⟨r + 2, z + 1, g, L, by go_num, rfl, by go_num, by omega, by omega, by omega, by omega, by omega, hLo.app (hs), hR.setCell z (x := 47) (by omega) (by omega), hbz.setCell (p := ⟨g, z, none⟩) hR.1 _⟩
    by_cases e4 : Y = 98
    · subst e4
      as_aux_lemma =>
        have hs := esc (by decide)
        clear esc
        obtain ⟨y0, hyc, _⟩ := hR.cell z (by omega)
        have hyf := hR.free z
        go_wp2_with (fail)
        go_roundg (gk - 1)
        case measure => omega
        case rel => exact ⟨r + 2, z + 1, g, L, by go_num, rfl, by go_num, by omega, by omega, by omega, by omega, by omega, hLo.app (hs), hR.setCell z (x := 8) (by omega) (by omega), hbz.setCell (p := ⟨g, z, none⟩) hR.1 _⟩
    by_cases e5 : Y = 102
    · subst e5
      as_aux_lemma =>
        have hs := esc (by decide)
        clear esc
        obtain ⟨y0, hyc, _⟩ := hR.cell z (by omega)
        have hyf := hR.free z
        go_wp2_with (fail)
        go_roundg (gk - 1)
        case measure => omega
        case rel => exact ⟨r + 2, z + 1, g, L, by go_num, rfl, by go_num, by omega, by omega, by omega, by omega, by omega, hLo.app (hs), hR.setCell z (x := 12) (by omega) (by omega), hbz.setCell (p := ⟨g, z, none⟩) hR.1 _⟩
    by_cases e6 : Y = 110
    · subst e6
      as_aux_lemma =>
        have hs := esc (by decide)
        clear esc
        obtain ⟨y0, hyc, _⟩ := hR.cell z (by omega)
        have hyf := hR.free z
        go_wp2_with (fail)
        go_roundg (gk - 1)
        case measure => omega
        case rel => exact ⟨r + 2, z + 1, g, L, by go_num, rfl, by go_num, by omega, by omega, by omega, by omega, by omega, hLo.app (hs), hR.setCell z (x := 10) (by omega) (by omega), hbz.setCell (p := ⟨g, z, none⟩) hR.1 _⟩
    by_cases e7 : Y = 114
    · subst e7
      as_aux_lemma =>
        have hs := esc (by decide)
        clear esc
        obtain ⟨y0, hyc, _⟩ := hR.cell z (by omega)
        have hyf := hR.free z
        go_wp2_with (fail)
        go_roundg (gk - 1)
        case measure => omega
        case rel => exact ⟨r + 2, z + 1, g, L, by go_num, rfl, by go_num, by omega, by omega, by omega, by omega, by omega, hLo.app (hs), hR.setCell z (x := 13) (by omega) (by omega), hbz.setCell (p := ⟨g, z, none⟩) hR.1 _⟩
    by_cases e8 : Y = 116
    · subst e8
      as_aux_lemma =>
        have hs := esc (by decide)
        clear esc
        obtain ⟨y0, hyc, _⟩ := hR.cell z (by omega)
        have hyf := hR.free z
        go_wp2_with (fail)
        go_roundg (gk - 1)
        case measure => omega
        case rel => exact ⟨r + 2, z + 1, g, L, by go_num, rfl, by go_num, by omega, by omega, by omega, by omega, by omega, hLo.app (hs), hR.setCell z (x := 9) (by omega) (by omega), hbz.setCell (p := ⟨g, z, none⟩) hR.1 _⟩
    by_cases e9 : Y = 117
    · subst e9
      as_aux_lemma =>
        clear esc
        have hg1 := fun w' hB' => getu4_any T r b 1 (1 + r) (n - r) (cap - 1 - r) w' hB' rfl (by rw [HN.out]) (by have := HN.out; omega) (by omega)
        have hg2 := fun (hr6 : r + 6 ≤ n) w' hB' => getu4_any T (r + 6) b 1 (1 + (r + 6)) (n - (r + 6)) (cap - 1 - (r + 6)) w' hB' rfl (by rw [HN.out]) (by have := HN.out; omega) (by omega)
        go_upto_region 57 with (go_at_call 78; refine (hg1 _ hBr).mono ?_; rintro e w3 ⟨⟨u, rfl, hu⟩, rfl⟩)
        clear hg1
        by_cases hu0 : u < 0
        case pos =>
          go_wp2_with fail
          all_goals go_ret2
          exact UqP.no hbz (fun h => by have := HM.out; omega)
        have hu1 : 0 ≤ u := by omega
        obtain ⟨_, hu2, hu3⟩ := hu
        obtain ⟨k1, k2, k3, k4⟩ := hu3 hu1
        rw [HN.out] at k1
        have hs6 : Lo T r (r + 6) := .unit k2 k3 k4 (.nil _)
        have hg3 := hg2 k1
        have hr6 : (r : Int) + 6 ≤ (n : Int) := by omega
        have hr6c : (r : Int) + 6 < ((cap - 1 : Nat) : Int) := by omega
        clear hg2 hu3 k2 k3 k4 hu0
        have henc := fun (V : Int) (h0 : -2147483648 ≤ V) (h1 : V ≤ 2147483647) (w' : World) hR1 => enc8_any w.heap.size g L z (L - z) (L - z) V w' hR1 (by omega) (by omega) h0 h1
        cases hsu : surB u
        case false =>
          have henc1 := henc u (by omega) (by omega)
          clear henc
          go_wp2_with (first
            | (go_at_call 64; refine (sur_any _ _).mono ?_; rw [hsu]; rintro e w4 ⟨rfl, rfl⟩)
            | (go_at_call 79; refine (henc1 _ hR).mono ?_; rintro e w4 ⟨m, rfl, hm1, hm2, hR4, hb4⟩))
          go_roundg (gk - 1)
          case measure => omega
          case rel => exact ⟨r + 6, z + m, g, L, by go_num, rfl, by go_num, by omega, by omega, by omega, by omega, by omega, hLo.app hs6, hR4, hbz.trans hb4⟩
        go_upto_region 61 with (first
          | (go_at_call 64; refine (sur_any _ _).mono ?_; rw [hsu]; rintro e w4 ⟨rfl, rfl⟩)
          | (go_at_call 78; refine (hg3 _ hBr).mono ?_; rintro e w5 ⟨⟨d, rfl, hd⟩, rfl⟩))
        clear hg3
        obtain ⟨P, hP0, hP1, hPc, hPl⟩ : ∃ P : Int, 0 ≤ P ∧ P ≤ 1114111 ∧ (∀ w' : World, Calls Tryd.prog 66 #[.int .i32 u, .int .i32 d] w' fun e w'' => e = .returned (.int .i32 P) ∧ w'' = w') ∧ (P ≠ 65533 → r + 12 ≤ n ∧ Lo T r (r + 12)) := by
          obtain ⟨d0, d1, d2⟩ := hd
          by_cases hdn : 0 ≤ d
          · obtain ⟨j1, j2, j3, j4⟩ := d2 hdn
            rw [HN.out] at j1
            have := pairR_bd u d
            exact ⟨_, this.1, this.2, fun w' => pair_any u d w' hu1 hu2 hdn d1, fun _ => ⟨by omega, hs6.app (.unit j2 j3 j4 (.nil _))⟩⟩
          · obtain rfl : d = -1 := by omega
            exact ⟨65533, by omega, by omega, fun w' => pair_neg u w', fun h => absurd rfl h⟩
        clear hd
        by_cases hPb : P = 65533
        case pos =>
          subst hPb
          have henc1 := henc 65533 (by omega) (by omega)
          clear henc hPl
          go_wp2_with (first
            | (go_at_call 66; refine (hPc _).mono ?_; rintro e w4 ⟨rfl, rfl⟩)
            | (go_at_call 79; refine (henc1 _ hR).mono ?_; rintro e w4 ⟨m, rfl, hm1, hm2, hR4, hb4⟩))
          go_roundg (gk - 1)
          case measure => omega
          case rel => exact ⟨r + 6, z + m, g, L, by go_num, rfl, by go_num, by omega, by omega, by omega, by omega, by omega, hLo.app hs6, hR4, hbz.trans hb4⟩
        obtain ⟨hr12, hs12⟩ := hPl hPb
        have hPn : (P != 65533) = true := by simpa using hPb
        have henc1 := henc P (by omega) (by omega)
        clear henc hPl hPb
        go_wp2_with (first
          | (go_at_call 66; refine (hPc _).mono ?_; rintro e w4 ⟨rfl, rfl⟩)
          | (go_at_call 79; refine (henc1 _ hR).mono ?_; rintro e w4 ⟨m, rfl, hm1, hm2, hR4, hb4⟩))
        go_roundg (gk - 1)
        case measure => omega
        case rel => exact ⟨r + 12, z + m, g, L, by go_num, rfl, by go_num, by omega, by omega, by omega, by omega, by omega, hLo.app hs12, hR4, hbz.trans hb4⟩
    have q1 : (Y == 34) = false := by simpa using e1
    have q2 : (Y == 92) = false := by simpa using e2
    have q3 : (Y == 47) = false := by simpa using e3
    have q4 : (Y == 98) = false := by simpa using e4
    have q5 : (Y == 102) = false := by simpa using e5
    have q6 : (Y == 110) = false := by simpa using e6
    have q7 : (Y == 114) = false := by simpa using e7
    have q8 : (Y == 116) = false := by simpa using e8
    have q9 : (Y == 117) = false := by simpa using e9
    clear e1 e2 e3 e4 e5 e6 e7 e8 e9
    as_aux_lemma =>
      clear esc
      go_wp2_with fail
      all_goals go_ret2
      exact UqP.no hbz (fun h => by have := HM.out; omega)
  have b92 : (X == 92) = false := by simpa using e92
  by_cases e34 : X = 34
  · subst e34
    as_aux_lemma =>
      go_wp2_with fail
      all_goals go_ret2
      exact UqP.no hbz (fun h => by have := HM.out; omega)
  have b34 : (X == 34) = false := by simpa using e34
  by_cases e32 : X < 32
  · clear e92 e34
    as_aux_lemma =>
      go_wp2_with fail
      all_goals go_ret2
      exact UqP.no hbz (fun h => by have := HM.out; omega)
  have h32 : 32 ≤ X := by omega
  have hst : Lo T r (r + YtokhmhbjbclcoaaDoor.stepN T r) := Lo.stepN (by have := HN.out; omega) (by rw [HX2.out]; exact e34) (by rw [HX2.out]; exact e92) (by rw [HX2.out]; exact h32)
  clear e32
  by_cases e128 : X < 128
  · have hst1 : Lo T r (r + 1) := .plain (by rw [HX2.out]; exact e34) (by rw [HX2.out]; exact e92) (by rw [HX2.out]; exact h32) (.nil _)
    clear hst e92 e34
    as_aux_lemma =>
      obtain ⟨y0, hyc, _⟩ := hR.cell z (by omega)
      have hyf := hR.free z
      go_wp2_with (fail)
      go_roundg (gk - 1)
      case measure => omega
      case rel => exact ⟨r + 1, z + 1, g, L, by go_num, rfl, by go_num, by omega, by omega, by omega, by omega, by omega, hLo.app (hst1), hR.setCell z (x := X) (by omega) (by omega), hbz.setCell (p := ⟨g, z, none⟩) hR.1 _⟩
  have h128 : 128 ≤ X := by omega
  clear e128 e92 e34
  as_aux_lemma =>
    have hdec := fun w' hT' hB' => decode_off T r 1 (1 + r) b (n - r) (cap - 1 - r) w' (by have := HN.out; omega) hT' hB' rfl (by rw [HN.out])
    have hfit := step_fits T r (by have := HN.out; omega)
    have hrb := runeN_bd T r
    rw [HN.out] at hfit
    obtain ⟨N, hN⟩ : ∃ N, YtokhmhbjbclcoaaDoor.stepN T r = N := ⟨_, rfl⟩
    obtain ⟨R, hR'⟩ : ∃ R : Nat, runeN T r = R := ⟨_, rfl⟩
    rw [hR', hN] at hdec
    rw [hN] at hst hfit
    rw [hR'] at hrb
    have henc := fun (w' : World) hR1 => enc8_any w.heap.size g L z (L - z) (L - z) (R : Int) w' hR1 (by omega) (by omega) (by omega) (by omega)
    have hTw := hT.below hbz
    clear hN hR' hrb
    go_wp2_with (first
      | (go_at_call 60; refine (hdec _ hTw.1 hBr).mono ?_; rintro e w3 ⟨rfl, hb3⟩; have hR3 := hR.below hb3; have hbz3 := hbz.trans (hb3.mono hbz.size))
      | (go_at_call 79; refine (henc _ hR3).mono ?_; rintro e w4 ⟨m, rfl, hm1, hm2, hR4, hb4⟩))
    go_roundg (gk - 1)
    case measure => omega
    case rel => exact ⟨r + N, z + m, g, L, by go_num, rfl, by go_num, by omega, by omega, by omega, by omega, by omega, hLo.app hst, hR4, hbz3.trans hb4⟩
end Go.Proofs.YtokhmhbjbclcoaaDoor
