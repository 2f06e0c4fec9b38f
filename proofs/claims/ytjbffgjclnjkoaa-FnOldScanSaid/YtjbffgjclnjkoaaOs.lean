/- impl.OldScan. -/
import Derived.Test.YtjbffgjclnjkoaaZs
import Derived.BigQuiet
import Derived.Deep.QuietTactic
namespace Go.Proofs.Ytjbffgjclnjkoaa
set_option linter.unusedVariables false
set_option linter.unusedSimpArgs false
open Go.RowKit Go.Shelf

theorem Try.infoI64 : (Try.prog.info? 2).map (fun i => (i.zero, i.size, i.bytes)) = some (some (.int .i64 0), 1, 8) := by kernel_rfl
theorem codes_len : ∀ (l : List Int) (σ : Sc), (codesQ σ l).1.length ≤ l.length + 1
  | [], σ => by simp [codesQ]
  | c :: l, σ => by
    rw [codes_cons]
    split
    · simp
    · have := codes_len l (stepQ σ c).2
      simp
      omega
/-- What OldScan answers: the codes in a row of its own. -/
structure OldR (w w' : World) (B : Nat) (L : List Int) (cv : Value) : Prop where
  below : Below B w w'
  row : w'.ownsRow B 2 1 cv L.length (iv L)
theorem own_ints {w : World} {B n : Nat} {v : Value} {l : List Int} {t : TypeId} (h : w.ownsRow B t 1 v n (iv l)) (hn : n = l.length) : ∃ ao cap, v = .slice ao n cap ∧ n ≤ cap ∧ cap ≤ 9223372036854775807 ∧ ∀ k (hk : k < n), ∃ g, ao = some ⟨g, 0, none⟩ ∧ w.cell? ⟨g, k, none⟩ = some (.int .i64 (l.getD k 0)) := by
  subst hn
  rcases h.2 with ⟨rfl, h0⟩ | ⟨g, cap, cur, rfl, hB, hg, h1, h2, _⟩
  · exact ⟨none, 0, by rw [h0], by omega, by omega, fun k hk => by omega⟩
  · refine ⟨_, cap, rfl, h1, by unfold maxLen at h2; omega, fun k hk => ⟨g, rfl, ?_⟩⟩
    rw [World.ownsRow.cellAt h k (by omega)]
    unfold iv
    rw [List.getElem?_map, List.getD_eq_getElem?_getD, List.getElem?_eq_getElem hk]
    rfl
theorem World.ownsRow.mono {w : World} {B C n sz : Nat} {t : TypeId} {v : Value} {xs : List Value} (h : w.ownsRow B t sz v n xs) (hC : C ≤ B) : w.ownsRow C t sz v n xs := by
  obtain ⟨h1, h2⟩ := h
  refine ⟨h1, ?_⟩
  rcases h2 with h2 | ⟨g, cap, cur, hv, hB, r⟩
  · exact .inl h2
  · exact .inr ⟨g, cap, cur, hv, Nat.le_trans hC hB, r⟩
set_option maxRecDepth 100000 in
set_option maxHeartbeats 4000000 in
theorem oldScan_any (s : ByteArray) (hs : s.size ≤ 9000) (w : World) :
    Calls Try.prog 7 #[.string s] w fun e w' => ∃ cv, e = .returned (.tuple #[cv, .bool (codesQ sc0 (bl s)).2]) ∧ OldR w w' w.heap.size (codesQ sc0 (bl s)).1 cv := by
  obtain ⟨cap, w1, hc, hC⟩ := cnvB s (by unfold maxLen; omega) w
  have hz := zzScan_any s hs w.heap.size cap w1 (by rw [hC.size]; omega) hC.bytes hC.cap_ge hC.cap_le
  have hb1 := hC.below
  have hLs := codes_len (bl s) sc0
  rw [bl_len] at hLs
  obtain ⟨L, hL⟩ : ∃ L, (codesQ sc0 (bl s)).1 = L := ⟨_, rfl⟩
  obtain ⟨F, hF⟩ : ∃ F, (codesQ sc0 (bl s)).2 = F := ⟨_, rfl⟩
  rw [hL, hF] at hz
  rw [hL] at hLs
  rw [hL, hF]
  obtain ⟨B, hB⟩ : ∃ B, w.heap.size = B := ⟨_, rfl⟩
  have hw1B : B ≤ w1.heap.size := by have := hb1.size; omega
  rw [hB] at hb1 hc hz ⊢
  clear hB
  obtain ⟨n, hn⟩ : ∃ n, L.length = n := ⟨_, rfl⟩
  obtain ⟨j0, ji, jz0, jz1, jz2⟩ := info_parts Try.infoI64
  clear hL hF hC
  go_enter Try.func7, Try.ntmps7
  go_upto_region 2 with (go_at_call 17; refine hz.mono ?_; rintro e w2 ⟨cv, u, rfl, hR⟩)
  obtain ⟨hRb, hRr, hRo, hRn⟩ := hR
  rw [hn] at hRr
  obtain ⟨ao, cp, rfl, hcp1, hcp2, hcl⟩ := own_ints hRr hn.symm
  have hb2 := hb1.trans (hRb.mono hw1B)
  go_upto_region 3 with fail
  have hcell : ∀ k, k < n → ∃ g, ao = some ⟨g, 0, none⟩ ∧ g < w2.heap.size ∧ w2.cell? ⟨g, k, none⟩ = some (.int .i64 (L.getD k 0)) := fun k hk => by
    obtain ⟨g, h1, h2⟩ := hcl k hk
    refine ⟨g, h1, ?_, h2⟩
    have := hRr.lt g (by rw [h1]; rfl)
    exact this.2
  have HRo := Lib.hid hRo
  have HRn := Lib.hid hRn
  have hBw : B ≤ w2.heap.size := Nat.le_trans hw1B hRb.size
  have h0 := World.ownsRow_lit (base := w2.heap.size) (e := 2) (size := 1) w2 #[] 0 (Nat.le_refl _) (by decide) (by decide)
  have hba : Below w2.heap.size w2 (w2.alloc (.cells #[] 2)) := (Below.refl _ _).alloc (Nat.le_refl _) _
  have hnI : (n : Int) + 1 ≤ 10000 := by omega
  clear hcl hRr hb1 hRb hc hz hRo hRn
  obtain ⟨B2, hB2⟩ : ∃ B2, w2.heap.size = B2 := ⟨_, rfl⟩
  rw [hB2] at h0 hba hcell hBw ⊢
  have HB2 := Lib.hid hB2
  clear hB2
  go_wp2_with fail
  go_loopg [6, 18] n (fun g c i wr => ∃ (k : Nat) (v : Value), i = .int .i64 k ∧ c = v ∧ k ≤ n ∧ n - k ≤ g ∧ Below B2 w2 wr ∧ Hid (wr.ownsRow B2 2 1 v k (iv (L.take k))))
  case atStart => exact ⟨0, _, rfl, rfl, Nat.zero_le _, by omega, hba, Lib.hid h0⟩
  case round =>
    clear h0 hba
    obtain ⟨k, v, rfl, hv, hk, hg, hbw, HR⟩ := hrel
    obtain rfl := hv.symm
    have hbB : Below B w wr := hb2.trans (hbw.mono hBw)
    by_cases hlt : k < n
    case neg =>
      obtain rfl : k = n := by omega
      have HR2 : Hid (wr.ownsRow B2 2 1 v k (iv L)) := Lib.hid (by have := HR.out; rw [List.take_of_length_le (by omega)] at this; exact this)
      clear HR hcell hbw
      cases F
      · obtain ⟨p, rfl⟩ := HRn.out rfl
        go_wp2_with fail
        go_quiet (fail)
        go_wp2_with fail
        all_goals go_ret2
        have hR : OldR w (wr.drewN nq) B L v := ⟨⟨hbB.os, hbB.tape, hbB.output, hbB.size, hbB.block⟩, by rw [hn]; exact World.ownsRow.mono HR2.out hBw⟩
        first | exact ⟨_, rfl, hR⟩ | exact hR
      · obtain rfl := HRo.out rfl
        go_wp2_with fail
        go_quiet (fail)
        go_wp2_with fail
        all_goals go_ret2
        have hR : OldR w (wr.drewN nq) B L v := ⟨⟨hbB.os, hbB.tape, hbB.output, hbB.size, hbB.block⟩, by rw [hn]; exact World.ownsRow.mono HR2.out hBw⟩
        first | exact ⟨_, rfl, hR⟩ | exact hR
    have hkI : (k : Int) < (n : Int) := by omega
    obtain ⟨g, hao, hgl, hcv⟩ := hcell k hlt
    subst hao
    have hc' : wr.cell? ⟨g, k, none⟩ = some (.int .i64 (L.getD k 0)) := (World.cell?_of_block (hbw.block g hgl)).trans hcv
    obtain ⟨x, hx⟩ : ∃ x, L.getD k 0 = x := ⟨_, rfl⟩
    rw [hx] at hc'
    have HX : Hid (iv (L.take (k + 1)) = iv (L.take k) ++ [.int .i64 x]) := Lib.hid (by
      rw [← hx, List.take_add_one, List.getD_eq_getElem?_getD]
      rw [List.getElem?_eq_getElem (show k < L.length by omega)]
      show iv (L.take k ++ [L[k]]) = _
      unfold iv
      rw [List.map_append]
      rfl)
    have hrow := HR.out
    have hwr : B2 ≤ wr.heap.size := by have := hbw.size; have := HB2.out; omega
    clear hx hcv hcell HR
    go_upto_region 7 with (at_builtin; refine wpList_append_own _ rfl (.tmp 22) (.tmp 24) 23 (by rfl) B2 2 j0 (.int .i64 0) 1 8 Try.underlying23 ji jz0 jz1 jz2 rfl (by decide) _ k (iv (L.take k)) rfl (World.ownsRow.alloc hrow _) ⟨wr.heap.size, 0, none⟩ 1 1 [.int .i64 x] rfl rfl (cell_one_new _ _ _) (by intro u hu; simp at hu; subst hu; rfl) (by unfold maxLen; omega) (by omega) (by simp; omega) ?_; intro v4 w4 hown hgr hgl2; clear hgl2)
    have hb4 : Below B2 w2 w4 := (hbw.alloc hwr _).trans ⟨hgr.os, hgr.tape, hgr.output, hgr.size, fun i hi => hgr.block i (by have := hbw.size; simp; omega) (fun e => by have := (hrow.lt i e.symm).1; omega)⟩
    have HR4 : Hid (w4.ownsRow B2 2 1 v4 (k + 1) (iv (L.take (k + 1)))) := Lib.hid (by rw [HX.out]; exact hown)
    clear hown hgr hrow hc' hbB hbw
    go_wp2_with fail
    go_roundg (gk - 1)
    case measure => omega
    case rel => exact ⟨k + 1, v4, by go_num, rfl, by omega, by omega, hb4, HR4⟩
end Go.Proofs.Ytjbffgjclnjkoaa
