/- Quoting a string: the walk of jsonwire.AppendQuote without flags. -/
import Derived.Test.YtokhmhbjbclcoaaDoorQt
import Derived.Test.YtokhmhbjbclcoaaDoorCu
import Derived.Test.YtokhmhbjbclcoaaDoorGl
import Derived.Test.YtokhmhbjbclcoaaDoorBg
import Derived.Deep.LoopGhost
namespace Go.Proofs.YtokhmhbjbclcoaaDoor
set_option linter.unusedVariables false
set_option linter.unusedSimpArgs false
open Go.RowKit

theorem getF_any (x : Int) (w : World) : Calls Tryd.prog 72 #[.agg #[.int .u64 0, .int .u64 0], .int .u64 x] w fun e w' => e = .returned (.bool false) ∧ Below w.heap.size w w' := by
  have hb : bits .and .u64 0 x = 0 := by simp [bits]; rfl
  go_enter Tryd.func72, Tryd.ntmps72
  go_wp2
  all_goals go_ret
  exact ⟨rfl, (Below.refl _ _).alloc (Nat.le_refl _) _⟩

theorem decode_r (a : ByteArray) (i m b cap : Nat) (w : World) (hm : m = a.size - i) (h0 : i < a.size) (hT : Tabs w) (hB : Lib.Bytes w b 0 a) (r : Int) (k : Nat) (hr : (runeN a i : Int) = r) (hk : stepN a i = k) :
    Calls Tryd.prog 60 #[.slice (some ⟨b, i, none⟩) m cap] w fun e w' => e = .returned (.tuple #[.int .i32 r, .int .i64 k]) ∧ Below w.heap.size w w' := by
  have h := decode_from a i b cap w h0 hT hB
  rw [hm, ← hr, ← hk]
  exact h
theorem cellX {w : World} {b : Nat} {s : ByteArray} (h : Lib.Bytes w b 0 s) {i : Nat} (hi : i < s.size) (X : Int) (hX : bAt s i = X) : w.cell? ⟨b, i, none⟩ = some (.int .u8 X) := by
  have := h i hi
  rw [Nat.zero_add] at this
  rw [this, ← hX]; unfold bAt; rw [dif_pos hi]
/-- The end of quoting: an error just if a byte belongs to no character. -/
def QEnd (B : Nat) (v : Value) (w : World) (l : List Int) (bad : Bool) (e : Ending) (w' : World) : Prop :=
  ∃ v' er, e = .returned (.tuple #[v', er]) ∧ Bs w' B v' l ∧ Ap v w v' w' ∧ (bad = false → er = .nilIface) ∧ (bad = true → ∃ T p, er = .iface T (.pointer (some p)))

/-- What holds at the head of each round of quoting. -/
structure QRel (B : Nat) (v : Value) (w : World) (s : ByteArray) (b pf : Nat) (Tf : TypeId) (N : Nat) (T : List Int) (TI : Bool) (g : Nat) (j k : Nat) (v' : Value) (l' : List Int) (bi : Bool) (wr : World) : Prop where
  jk : j ≤ k
  ks : k ≤ s.size
  bs : Bs wr B v' l'
  ap : Ap v w v' wr
  len : l'.length + (k - j) ≤ N + 6 * k
  fuel : s.size - k ≤ g
  out : Aside (l' ++ sub s j k ++ qO s g k = T)
  bad : Aside ((bi || qI s g k) = TI)

theorem QRel.keep {B v w s b pf Tf N T TI g j k v' l' bi wr} (q : QRel B v w s b pf Tf N T TI g j k v' l' bi wr) (hk : k < s.size) {d : Nat} (hd : stepN s k = d) (hc : qC s k = sub s k (k + d)) (hu : uw s k ≠ 0) {wr' : World} (hb : Below wr.heap.size wr wr') :
    g - 1 < g ∧ QRel B v w s b pf Tf N T TI (g - 1) j (k + d) v' l' bi wr' := by
  subst hd
  obtain ⟨g', rfl, h1, h2, h3⟩ := q_step q.out q.bad hk q.fuel q.jk
  have hst := step_fits s k hk
  have hqc := qC_len s k hk
  refine ⟨by omega, ⟨by have := q.jk; omega, by omega, q.bs.below hb, q.ap.trans (Ap.of_below _ hb), by have := q.len; have := q.jk; omega, by simpa using h1, ?_, ?_⟩⟩
  · have A : l' ++ sub s j k ++ (qC s k ++ qO s g' (k + stepN s k)) = T := h2
    show l' ++ sub s j (k + stepN s k) ++ qO s (g' + 1 - 1) (k + stepN s k) = T
    rw [Nat.add_sub_cancel, ← A, hc, ← sub_app s q.jk (by omega : k ≤ k + stepN s k)]
    simp [List.append_assoc]
  · have A : (bi || (decide (uw s k = 0) || qI s g' (k + stepN s k))) = TI := h3
    show (bi || qI s (g' + 1 - 1) (k + stepN s k)) = TI
    rw [Nat.add_sub_cancel, ← A, decide_eq_false hu, Bool.false_or]
theorem QRel.put {B v w s b pf Tf N T TI g j k v' l' bi wr} (q : QRel B v w s b pf Tf N T TI g j k v' l' bi wr) (hk : k < s.size) {d : Nat} (hd : stepN s k = d) {c : List Int} (hc : qC s k = c) {bad : Bool} (hu : decide (uw s k = 0) = bad) {v'' : Value} {wr' : World} (hb : Bs wr' B v'' (l' ++ sub s j k ++ c)) (ha : Ap v' wr v'' wr') :
    g - 1 < g ∧ QRel B v w s b pf Tf N T TI (g - 1) (k + d) (k + d) v'' (l' ++ sub s j k ++ c) (bi || bad) wr' := by
  subst hd hc hu
  obtain ⟨g', rfl, h1, h2, h3⟩ := q_step q.out q.bad hk q.fuel q.jk
  have hst := step_fits s k hk
  have hqc := qC_len s k hk
  refine ⟨by omega, ⟨Nat.le_refl _, by omega, hb, q.ap.trans ha, ?_, by simpa using h1, ?_, ?_⟩⟩
  · have := q.len; have := q.jk
    simp only [List.length_append, sub_len]
    omega
  · have A : l' ++ sub s j k ++ (qC s k ++ qO s g' (k + stepN s k)) = T := h2
    show l' ++ sub s j k ++ qC s k ++ sub s (k + stepN s k) (k + stepN s k) ++ qO s (g' + 1 - 1) (k + stepN s k) = T
    rw [Nat.add_sub_cancel, ← A, sub_self]
    simp [List.append_assoc]
  · have A : (bi || (decide (uw s k = 0) || qI s g' (k + stepN s k))) = TI := h3
    show (bi || decide (uw s k = 0) || qI s (g' + 1 - 1) (k + stepN s k)) = TI
    rw [Nat.add_sub_cancel, ← A, Bool.or_assoc]

def BadIff (r : Int) (d u : Nat) : Prop := (r = 65533 ∧ d = 1) ↔ u = 0
theorem BadIff.yes {r : Int} {d u : Nat} (h : BadIff r d u) (k : invU r d = true) : u = 0 := by
  unfold invU at k; simp at k; exact h.1 ⟨k.1, by omega⟩
theorem BadIff.no {r : Int} {d u : Nat} (h : BadIff r d u) (k : invU r d = false) : u ≠ 0 := by
  intro hu; have := h.2 hu; unfold invU at k; simp [this.1, this.2] at k
theorem BadIff.ne {r : Int} {d u : Nat} (h : BadIff r d u) (k : ¬ r = 65533) : u ≠ 0 := by
  intro hu; exact k (h.2 hu).1

set_option maxRecDepth 100000 in
set_option maxHeartbeats 4000000 in
theorem quoteW (B : Nat) (v : Value) (l : List Int) (s : ByteArray) (b cap pf : Nat) (Tf : TypeId) (w : World) (hv : Bs w B v l) (hB : B ≤ w.heap.size) (hs : s.size ≤ 100000000000) (hl : l.length ≤ 100000000000) (hcap : s.size ≤ cap) (hcm : cap ≤ maxLen)
    (hS : Lib.Bytes w b 0 s) (hbn : v.ownBlock ≠ some b) (hbl : b < w.heap.size) (hF : w.heap[pf]? = some (.cells #[.int .u64 0, .int .u64 0] Tf (0, 0))) (hfn : v.ownBlock ≠ some pf) (hT : TabsB B w) (hE : EscB B w) (hI : InvB B w) :
    Calls Tryd.prog 49 #[v, .slice (some ⟨b, 0, none⟩) s.size cap, .pointer (some ⟨pf, 0, none⟩)] w (QEnd B v w (l ++ [34] ++ qO s s.size 0 ++ [34]) (qI s s.size 0)) := by
  obtain ⟨i0, hi, hz0, hz1, hz2⟩ := info_parts Tryd.infoU8
  unfold maxLen at hcm
  have hpl : pf < w.heap.size := lt_of_block hF
  obtain ⟨T, HT⟩ : ∃ T, Hid (l ++ [34] ++ qO s s.size 0 = T) := ⟨_, Lib.hid rfl⟩
  obtain ⟨TI, HTI⟩ : ∃ TI, Hid (qI s s.size 0 = TI) := ⟨_, Lib.hid rfl⟩
  rw [HT.out, HTI.out]
  go_enter Tryd.func49, Tryd.ntmps49
  go_wp2_with (first
    | (go_at_call 58; refine (grow_x B v l (s.size + 2) _ (by omega) _ hv hB (by omega)).mono ?_; rintro e w1 ⟨v1, rfl, hb1, ha1⟩; have hB1 := Nat.le_trans hB ha1.size)
    | (at_builtin; refine wpList_append_bs _ rfl (.tmp 20) (.tmp 21) 46 46 (by rfl) B i0 Tryd.underlying46 hi hz0 hz1 hz2 _ _ rfl (Bs.alloc hb1 _) _ [34] rfl (by intro x hx; simp at hx; omega) (src_lit Tryd.underlying46 _ [34] 1 rfl _ _ hz1 _ rfl) (by first | omega | (simp; omega) | (simp only [List.length_append, sub_len, bl_len, List.length_cons, List.length_nil]; omega)) (by first | assumption | omega | (simp; omega)) ?_; intro v2 w2 hb2 ha2))
  have hl2 : (l ++ [34]).length = l.length + 1 := by simp
  have h0 : QRel B v w s b pf Tf (l.length + 1) T TI s.size 0 0 v2 (l ++ [34]) false w2 :=
    ⟨Nat.le_refl _, Nat.zero_le _, hb2, (ha1.trans (Ap.alloc _ _ _)).trans ha2, by omega, by omega, by rw [sub_self, List.append_nil]; exact HT.out, by rw [Bool.false_or]; exact HTI.out⟩
  clear HT HTI
  have hB2 : B ≤ w2.heap.size := Nat.le_trans hB h0.ap.size
  clear hb1 ha1 hb2 ha2 hB1 hl2
  go_loopg [0, 8, 9, 10] s.size (fun g d i n h wr => ∃ (v' : Value) (l' : List Int) (j k : Nat) (bi : Bool), d = v' ∧ i = .int .i64 j ∧ n = .int .i64 k ∧ h = .bool bi ∧ QRel B v w s b pf Tf (l.length + 1) T TI g j k v' l' bi wr)
  case atStart => exact ⟨_, _, 0, 0, false, rfl, rfl, rfl, rfl, h0⟩
  case round =>
    clear h0 hB2
    obtain ⟨v', l', j, k, bi, rfl, rfl, rfl, rfl, q⟩ := hrel
    obtain ⟨qjk, qks, qbs, qap, qlen, qf, qo, qb⟩ := id q
    have hbelow := qap.below hv hB
    have hTr := hT.below hbelow
    have hEr := hE.below hbelow
    have hIr := hI.below hbelow
    have hSr := bytes_block hS (qap.block hbl hbn)
    have hFr := (qap.block hpl hfn).trans hF
    have hBr : B ≤ wr.heap.size := Nat.le_trans hB qap.size
    have hblr : b < wr.heap.size := Nat.lt_of_lt_of_le hbl qap.size
    have hplr : pf < wr.heap.size := Nat.lt_of_lt_of_le hpl qap.size
    have hbnr := qap.ne hbl hbn
    have hfnr := qap.ne hpl hfn
    by_cases hk : k < s.size
    · have hst := step_fits s k hk
      have hbad := bad_iff s k
      have huw1 := uw_one s k hk
      have hX0 := bAt_nonneg s k
      have hX1 := bAt_le s k
      have hkc : (k : Int) < (cap : Int) := by omega
      have hjc : (j : Int) < (cap : Int) := by omega
      have hjk : (j : Int) ≤ (k : Int) := by omega
      have f0 : wr.cell? ⟨pf, 0, none⟩ = some (.int .u64 0) := by simp [World.cell?, hFr]
      have f1 : wr.cell? ⟨pf, 1, none⟩ = some (.int .u64 0) := by simp [World.cell?, hFr]
      obtain ⟨X, hX⟩ : ∃ X, bAt s k = X := ⟨_, rfl⟩
      have c1 := cellX hSr hk X hX
      rw [hX] at hX0 hX1 huw1
      by_cases hX2 : X < 128
      · have hs1 : stepN s k = 1 := step_one s k hk (by rw [hX]; exact hX2)
        have ht := hEr.at hX0 hX2
        have hu1 : uw s k ≠ 0 := by have := huw1.1 hX2; omega
        have HX := Lib.hid hX
        clear hbad huw1 hst qo qb hX
        go_wp2_with (first
          | (go_at_call 72; refine (getF_any _ _).mono ?_; rintro e w3 ⟨rfl, hb3⟩)
          | (at_builtin; refine wpList_append_bs _ rfl (.tmp 58) (.tmp 63) 46 46 (by rfl) B i0 Tryd.underlying46 hi hz0 hz1 hz2 _ _ rfl qbs _ (sub s j k) rfl (sub_by s j k) (src_cells Tryd.underlying46 _ _ _ _ (sub_len s j k) _ _ hz1 (.inr ⟨b, j, rfl, sub_cells hSr qks⟩)) (by first | omega | (simp; omega) | (simp only [List.length_append, sub_len, bl_len, List.length_cons, List.length_nil]; omega)) (by first | assumption | omega | (simp; omega)) ?_; intro v3 w3 hb3 ha3)
          | (go_at_call 73; refine (escA_any B v3 _ X _ hX0 (by omega) hb3 (Nat.le_trans hBr ha3.size) (by rw [List.length_append, sub_len]; omega)).mono ?_; rintro e w4 ⟨v4, rfl, hb4, ha4⟩))
        · have Q := q.keep hk hs1 (qC_plain HX.out hX2 hX0 (by first | exact .inl ‹_› | (right; omega))) hu1 (Below.refl _ _)
          go_roundg (gk - 1)
          case measure => exact Q.1
          case rel => exact ⟨_, _, j, k + 1, _, rfl, rfl, by go_num, rfl, Q.2⟩
        · have Q := q.keep hk hs1 (qC_plain HX.out hX2 hX0 (by first | exact .inl ‹_› | (right; omega))) hu1 hb3
          go_roundg (gk - 1)
          case measure => exact Q.1
          case rel => exact ⟨_, _, j, k + 1, _, rfl, rfl, by go_num, rfl, Q.2⟩
        · have Q := q.keep hk hs1 (qC_plain HX.out hX2 hX0 (by first | exact .inl ‹_› | (right; omega))) hu1 hb3
          go_roundg (gk - 1)
          case measure => exact Q.1
          case rel => exact ⟨_, _, j, k + 1, _, rfl, rfl, by go_num, rfl, Q.2⟩
        · have Q := q.keep hk hs1 (qC_plain HX.out hX2 hX0 (by first | exact .inl ‹_› | (right; omega))) hu1 hb3
          go_roundg (gk - 1)
          case measure => exact Q.1
          case rel => exact ⟨_, _, j, k + 1, _, rfl, rfl, by go_num, rfl, Q.2⟩
        · have Q := q.put hk hs1 (qC_esc HX.out hX2 ‹_› ‹_› ‹_› ‹_›) (decide_eq_false hu1) hb4 (ha3.trans ha4)
          go_roundg (gk - 1)
          case measure => exact Q.1
          case rel => exact ⟨_, _, k + 1, k + 1, _, rfl, by go_num, by go_num, by rw [Bool.or_false], Q.2⟩
      · obtain ⟨r, hr⟩ : ∃ r : Int, (runeN s k : Int) = r := ⟨_, rfl⟩
        obtain ⟨d, hd⟩ : ∃ d, stepN s k = d := ⟨_, rfl⟩
        rw [hr, hd] at hbad
        rw [hd] at hst
        have HBAD : BadIff r d (uw s k) := hbad
        have HX := Lib.hid hX
        have hd1 : (d : Int) ≤ s.size := by omega
        have hkd : (k : Int) + (d : Int) ≤ s.size := by omega
        have hX3 : 128 ≤ bAt s k := by omega
        clear hbad huw1 qo qb hX
        have HX3 := Lib.hid hX3
        clear hX3
        go_wp2_with (first
          | (go_at_call 60; refine (decode_r s k _ b _ _ rfl hk hTr.1 hSr r d hr hd).mono ?_; rintro e w3 ⟨rfl, hb3⟩; have hFr3 := (hb3.block pf hplr).trans hFr; have f3 : w3.cell? ⟨pf, 0, none⟩ = some (.int .u64 0) := (by simp [World.cell?, hFr3]); have f4 : w3.cell? ⟨pf, 1, none⟩ = some (.int .u64 0) := (by simp [World.cell?, hFr3]); have hSr3 := bytes_block hSr (hb3.block b hblr); have hB3 := Nat.le_trans hBr hb3.size; have hbs3 := qbs.below hb3)
          | (go_at_call 74; refine (inv_any _ _ _).mono ?_; rintro e w4 ⟨rfl, rfl⟩)
          | (go_at_call 72; refine (getF_any _ _).mono ?_; rintro e w4 ⟨rfl, hb4⟩)
          | (at_builtin; refine wpList_append_bs _ rfl (.tmp 93) (.tmp 99) 46 46 (by rfl) B i0 Tryd.underlying46 hi hz0 hz1 hz2 _ _ rfl hbs3 _ (sub s j k) rfl (sub_by s j k) (src_cells Tryd.underlying46 _ _ _ _ (sub_len s j k) _ _ hz1 (.inr ⟨b, j, rfl, sub_cells hSr3 qks⟩)) (by first | omega | (simp; omega) | (simp only [List.length_append, sub_len, bl_len, List.length_cons, List.length_nil]; omega)) (by first | assumption | omega | (simp; omega)) ?_; intro v4 w4 hb4 ha4; have hB4 := Nat.le_trans hB3 ha4.size)
          | (at_builtin; refine wpList_append_bs _ rfl (.tmp 101) (.const (.string ⟨#[239, 191, 189]⟩)) 46 9 (by rfl) B i0 Tryd.underlying46 hi hz0 hz1 hz2 _ _ rfl hb4 _ [239, 191, 189] rfl (by intro x hx; simp at hx; omega) (src_strL Tryd.underlying9 ⟨#[239, 191, 189]⟩ [239, 191, 189] rfl _ _ hz1) (by first | omega | (simp; omega) | (simp only [List.length_append, sub_len, bl_len, List.length_cons, List.length_nil]; omega)) (by first | assumption | omega | (simp; omega)) ?_; intro v5 w5 hb5 ha5))
        · have hu := HBAD.yes (by first | assumption | (rw [(by assumption : r = 65533)]; assumption) | (rw [(by assumption : r = 8232)]; assumption) | (rw [(by assumption : r = 8233)]; assumption))
          have Q := q.put hk hd (qC_bad HX3.out hu) (decide_eq_true hu) hb5 (((Ap.of_below _ hb3).trans ha4).trans ha5)
          go_roundg (gk - 1)
          case measure => exact Q.1
          case rel => exact ⟨_, _, k + d, k + d, _, rfl, by go_num, by go_num, by rw [Bool.or_true], Q.2⟩
        · have Q := q.keep hk hd ((qC_char HX3.out (HBAD.no (by first | assumption | (rw [(by assumption : r = 65533)]; assumption) | (rw [(by assumption : r = 8232)]; assumption) | (rw [(by assumption : r = 8233)]; assumption)))).trans (by rw [hd])) (HBAD.no (by first | assumption | (rw [(by assumption : r = 65533)]; assumption) | (rw [(by assumption : r = 8232)]; assumption) | (rw [(by assumption : r = 8233)]; assumption))) (hb3)
          go_roundg (gk - 1)
          case measure => exact Q.1
          case rel => exact ⟨_, _, j, k + d, _, rfl, rfl, by go_num, rfl, Q.2⟩
        · have Q := q.keep hk hd ((qC_char HX3.out (HBAD.no (by first | assumption | (rw [(by assumption : r = 65533)]; assumption) | (rw [(by assumption : r = 8232)]; assumption) | (rw [(by assumption : r = 8233)]; assumption)))).trans (by rw [hd])) (HBAD.no (by first | assumption | (rw [(by assumption : r = 65533)]; assumption) | (rw [(by assumption : r = 8232)]; assumption) | (rw [(by assumption : r = 8233)]; assumption))) (Below.trans hb3 (Below.mono hb4 hb3.size))
          go_roundg (gk - 1)
          case measure => exact Q.1
          case rel => exact ⟨_, _, j, k + d, _, rfl, rfl, by go_num, rfl, Q.2⟩
        · have Q := q.keep hk hd ((qC_char HX3.out (HBAD.ne (by omega))).trans (by rw [hd])) (HBAD.ne (by omega)) (hb3)
          go_roundg (gk - 1)
          case measure => exact Q.1
          case rel => exact ⟨_, _, j, k + d, _, rfl, rfl, by go_num, rfl, Q.2⟩
        · exact absurd (HBAD.yes (by first | assumption | (rw [(by assumption : r = 65533)]; assumption) | (rw [(by assumption : r = 8232)]; assumption) | (rw [(by assumption : r = 8233)]; assumption))) (HBAD.ne (by omega))
        · have Q := q.keep hk hd ((qC_char HX3.out (HBAD.no (by first | assumption | (rw [(by assumption : r = 65533)]; assumption) | (rw [(by assumption : r = 8232)]; assumption) | (rw [(by assumption : r = 8233)]; assumption)))).trans (by rw [hd])) (HBAD.no (by first | assumption | (rw [(by assumption : r = 65533)]; assumption) | (rw [(by assumption : r = 8232)]; assumption) | (rw [(by assumption : r = 8233)]; assumption))) (Below.trans hb3 (Below.mono hb4 hb3.size))
          go_roundg (gk - 1)
          case measure => exact Q.1
          case rel => exact ⟨_, _, j, k + d, _, rfl, rfl, by go_num, rfl, Q.2⟩
        · have Q := q.keep hk hd ((qC_char HX3.out (HBAD.no (by first | assumption | (rw [(by assumption : r = 65533)]; assumption) | (rw [(by assumption : r = 8232)]; assumption) | (rw [(by assumption : r = 8233)]; assumption)))).trans (by rw [hd])) (HBAD.no (by first | assumption | (rw [(by assumption : r = 65533)]; assumption) | (rw [(by assumption : r = 8232)]; assumption) | (rw [(by assumption : r = 8233)]; assumption))) (hb3)
          go_roundg (gk - 1)
          case measure => exact Q.1
          case rel => exact ⟨_, _, j, k + d, _, rfl, rfl, by go_num, rfl, Q.2⟩
    · obtain ⟨hout, hbi⟩ := q_end qo qb hk
      have hkk : k = s.size := by omega
      subst hkk
      subst hbi
      clear qo qb
      have HO := Lib.hid hout
      clear hout
      have hkk2 : (j : Int) ≤ (s.size : Int) := by omega
      cases bi
      · by_cases hjc : j = cap
        · subst hjc
          have hsj : s.size = j := by omega
          have HSJ := Lib.hid hsj
          clear hsj
          go_wp2_with (first
            | (at_builtin; refine wpList_append_bs _ rfl (.tmp 129) (.tmp 133) 46 46 (by rfl) B i0 Tryd.underlying46 hi hz0 hz1 hz2 _ _ rfl qbs _ (sub s j s.size) rfl (sub_by s j s.size) (src_cells Tryd.underlying46 _ _ _ _ (by rw [sub_len]; have := HSJ.out; omega) _ _ hz1 (.inl (by have := HSJ.out; omega))) (by rw [sub_len]; omega) (by first | assumption | omega | (simp; omega)) ?_; intro v3 w3 hb3 ha3; have hB3 := Nat.le_trans hBr ha3.size)
            | (at_builtin; refine wpList_append_bs _ rfl (.tmp 135) (.tmp 136) 46 46 (by rfl) B i0 Tryd.underlying46 hi hz0 hz1 hz2 _ _ rfl (Bs.alloc hb3 _) _ [34] rfl (by intro x hx; simp at hx; omega) (src_lit Tryd.underlying46 _ [34] 1 rfl _ _ hz1 _ rfl) (by first | omega | (simp; omega) | (simp only [List.length_append, sub_len, bl_len, List.length_cons, List.length_nil]; omega)) (by first | assumption | omega | (simp; omega)) ?_; intro v4 w4 hb4 ha4))
          all_goals go_ret2
          exact ⟨_, _, rfl, HO.out ▸ hb4, ((qap.trans ha3).trans ((Ap.alloc _ _ _).trans ha4)), (fun _ => rfl), (fun h => by cases h)⟩
        · have hjc2 : (j : Int) < (cap : Int) := by omega
          go_wp2_with (first
            | (at_builtin; refine wpList_append_bs _ rfl (.tmp 129) (.tmp 133) 46 46 (by rfl) B i0 Tryd.underlying46 hi hz0 hz1 hz2 _ _ rfl qbs _ (sub s j s.size) rfl (sub_by s j s.size) (src_cells Tryd.underlying46 _ _ _ _ (sub_len s j s.size) _ _ hz1 (.inr ⟨b, j, rfl, sub_cells hSr (Nat.le_refl _)⟩)) (by rw [sub_len]; omega) (by first | assumption | omega | (simp; omega)) ?_; intro v3 w3 hb3 ha3; have hB3 := Nat.le_trans hBr ha3.size)
            | (at_builtin; refine wpList_append_bs _ rfl (.tmp 135) (.tmp 136) 46 46 (by rfl) B i0 Tryd.underlying46 hi hz0 hz1 hz2 _ _ rfl (Bs.alloc hb3 _) _ [34] rfl (by intro x hx; simp at hx; omega) (src_lit Tryd.underlying46 _ [34] 1 rfl _ _ hz1 _ rfl) (by first | omega | (simp; omega) | (simp only [List.length_append, sub_len, bl_len, List.length_cons, List.length_nil]; omega)) (by first | assumption | omega | (simp; omega)) ?_; intro v4 w4 hb4 ha4))
          all_goals go_ret2
          exact ⟨_, _, rfl, HO.out ▸ hb4, ((qap.trans ha3).trans ((Ap.alloc _ _ _).trans ha4)), (fun _ => rfl), (fun h => by cases h)⟩
      · by_cases hjc : j = cap
        · subst hjc
          have hsj : s.size = j := by omega
          have HSJ := Lib.hid hsj
          clear hsj
          go_wp2_with (first
            | (at_builtin; refine wpList_append_bs _ rfl (.tmp 129) (.tmp 133) 46 46 (by rfl) B i0 Tryd.underlying46 hi hz0 hz1 hz2 _ _ rfl qbs _ (sub s j s.size) rfl (sub_by s j s.size) (src_cells Tryd.underlying46 _ _ _ _ (by rw [sub_len]; have := HSJ.out; omega) _ _ hz1 (.inl (by have := HSJ.out; omega))) (by rw [sub_len]; omega) (by first | assumption | omega | (simp; omega)) ?_; intro v3 w3 hb3 ha3; have hB3 := Nat.le_trans hBr ha3.size)
            | (at_builtin; refine wpList_append_bs _ rfl (.tmp 135) (.tmp 136) 46 46 (by rfl) B i0 Tryd.underlying46 hi hz0 hz1 hz2 _ _ rfl (Bs.alloc hb3 _) _ [34] rfl (by intro x hx; simp at hx; omega) (src_lit Tryd.underlying46 _ [34] 1 rfl _ _ hz1 _ rfl) (by first | omega | (simp; omega) | (simp only [List.length_append, sub_len, bl_len, List.length_cons, List.length_nil]; omega)) (by first | assumption | omega | (simp; omega)) ?_; intro v4 w4 hb4 ha4; have hA4 := (qap.trans ha3).trans ((Ap.alloc _ _ _).trans ha4); have hF4 := (hA4.block hpl hfn).trans hF; have f3 : w4.cell? ⟨pf, 0, none⟩ = some (.int .u64 0) := (by simp [World.cell?, hF4]); have f4 : w4.cell? ⟨pf, 1, none⟩ = some (.int .u64 0) := (by simp [World.cell?, hF4]); have hI4 := hI.below (hA4.below hv hB); have hB4 := Nat.le_trans hB hA4.size)
            | (go_at_call 72; refine (getF_any _ _).mono ?_; rintro e w5 ⟨rfl, hb5⟩; obtain ⟨Te, pe, hce⟩ := (hI4.below (hb5.mono hB4)).2))
          go_quiet (fail)
          go_wp2
          all_goals go_ret2
          exact ⟨_, _, rfl, Bs.drewN (Bs.below (HO.out ▸ hb4) hb5) _, ((hA4.trans (Ap.of_below _ hb5)).trans (Ap.drewN _ _ _)), (fun h => by cases h), (fun _ => ⟨_, _, rfl⟩)⟩
        · have hjc2 : (j : Int) < (cap : Int) := by omega
          go_wp2_with (first
            | (at_builtin; refine wpList_append_bs _ rfl (.tmp 129) (.tmp 133) 46 46 (by rfl) B i0 Tryd.underlying46 hi hz0 hz1 hz2 _ _ rfl qbs _ (sub s j s.size) rfl (sub_by s j s.size) (src_cells Tryd.underlying46 _ _ _ _ (sub_len s j s.size) _ _ hz1 (.inr ⟨b, j, rfl, sub_cells hSr (Nat.le_refl _)⟩)) (by rw [sub_len]; omega) (by first | assumption | omega | (simp; omega)) ?_; intro v3 w3 hb3 ha3; have hB3 := Nat.le_trans hBr ha3.size)
            | (at_builtin; refine wpList_append_bs _ rfl (.tmp 135) (.tmp 136) 46 46 (by rfl) B i0 Tryd.underlying46 hi hz0 hz1 hz2 _ _ rfl (Bs.alloc hb3 _) _ [34] rfl (by intro x hx; simp at hx; omega) (src_lit Tryd.underlying46 _ [34] 1 rfl _ _ hz1 _ rfl) (by first | omega | (simp; omega) | (simp only [List.length_append, sub_len, bl_len, List.length_cons, List.length_nil]; omega)) (by first | assumption | omega | (simp; omega)) ?_; intro v4 w4 hb4 ha4; have hA4 := (qap.trans ha3).trans ((Ap.alloc _ _ _).trans ha4); have hF4 := (hA4.block hpl hfn).trans hF; have f3 : w4.cell? ⟨pf, 0, none⟩ = some (.int .u64 0) := (by simp [World.cell?, hF4]); have f4 : w4.cell? ⟨pf, 1, none⟩ = some (.int .u64 0) := (by simp [World.cell?, hF4]); have hI4 := hI.below (hA4.below hv hB); have hB4 := Nat.le_trans hB hA4.size)
            | (go_at_call 72; refine (getF_any _ _).mono ?_; rintro e w5 ⟨rfl, hb5⟩; obtain ⟨Te, pe, hce⟩ := (hI4.below (hb5.mono hB4)).2))
          go_quiet (fail)
          go_wp2
          all_goals go_ret2
          exact ⟨_, _, rfl, Bs.drewN (Bs.below (HO.out ▸ hb4) hb5) _, ((hA4.trans (Ap.of_below _ hb5)).trans (Ap.drewN _ _ _)), (fun h => by cases h), (fun _ => ⟨_, _, rfl⟩)⟩
end Go.Proofs.YtokhmhbjbclcoaaDoor
