/- checkValid, Valid: the scanner over a whole text. -/
import Derived.Test.YtjbffgjclnjkoaaGreatDoorFd
namespace Go.Proofs.YtjbffgjclnjkoaaGreatDoor
set_option linter.unusedVariables false
set_option linter.unusedSimpArgs false
open Go.RowKit Go.Shelf

/-- What checkValid answers. -/
structure ChkR (w w' : World) (b B n : Nat) (R : Bool) (u : Value) : Prop where
  below : Below B w w'
  sc : ∃ σ v, IsS w' b B σ v ∧ σ.stk.length ≤ n + 1
  ok : R = true → u = .nilIface
  no : R = false → ∃ p, u = .iface 103 (.pointer (some p))
set_option maxRecDepth 100000 in
set_option maxHeartbeats 2000000 in
theorem check_any (s : ByteArray) (hs : s.size ≤ 9000) (d b B cap : Nat) (w : World) (hd : d < B) (hD : Lib.Bytes w d 0 s) (hc1 : s.size ≤ cap) (hc2 : cap ≤ maxLen) (hB : B ≤ b) (hw : B ≤ w.heap.size) (x0 e0 : Value) (t0 : Bool) (n0 : Int)
    (h : w.heap[b]? = some (.cells #[x0, .bool t0, .slice none 0 0, e0, .int .i64 n0] 124 (0, 0))) :
    Calls Tryz.prog 45 #[.slice (some ⟨d, 0, none⟩) s.size cap, .pointer (some ⟨b, 0, none⟩)] w fun e w' => ∃ u, e = .returned u ∧ ChkR w w' b B s.size (validQ sc0 (bl s)) u := by
  have hr := reset_any b B x0 e0 t0 n0 w hB h
  obtain ⟨R, hR⟩ : ∃ R, validQ sc0 (bl s) = R := ⟨_, rfl⟩
  rw [hR]
  have hcI : (cap : Int) ≤ 9223372036854775807 := by unfold maxLen at hc2; omega
  have hsI : (s.size : Int) ≤ 9000 := by omega
  clear h
  go_enter Tryz.func45, Tryz.ntmps45
  go_wp2_with (first | (go_at_call 67; refine hr.mono ?_; rintro e w1 ⟨rfl, hS0, _, hP0⟩))
  have hb0 : Below B w w1 := ⟨hP0.os, hP0.tape, hP0.output, hP0.size, fun k hk => hP0.block k (by omega) (by omega) (by simp [Value.ownBlock])⟩
  clear hr hP0
  go_loopg [11] s.size (fun g i wr => ∃ (k : Nat) (σ : Sc) (v : Value), i = .int .i64 k ∧ k ≤ s.size ∧ s.size - k ≤ g ∧ IsS wr b B σ v ∧ Below B w wr ∧ Inv σ ∧ σ.stk.length ≤ k ∧ Aside (validQ σ ((bl s).drop k) = R))
  case atStart => exact ⟨0, sc0, _, rfl, Nat.zero_le _, by omega, hS0, hb0, inv0, Nat.le_refl _, hR⟩
  case round =>
    clear hR hS0 hb0
    obtain ⟨k, σ, v, rfl, hk, hg, hS, hbw, hI, hl, A⟩ := hrel
    have hwr : B ≤ wr.heap.size := Nat.le_trans hw hbw.size
    by_cases hlt : k < s.size
    case neg =>
      obtain rfl : k = s.size := by omega
      have A' : ((eofQ σ).1 != 11) = R := by
        have := A
        unfold Aside at this
        rw [List.drop_of_length_le (by rw [bl_len]; exact Nat.le_refl _)] at this
        exact this
      have he := eof_any b B σ v wr hS hwr (by omega) hI.bs
      have hbad := @eof_bad σ
      have hlen := eof_len hI
      obtain ⟨y, hy⟩ : ∃ y, (eofQ σ).1 = y := ⟨_, rfl⟩
      obtain ⟨σ2, hσ⟩ : ∃ σ2, (eofQ σ).2 = σ2 := ⟨_, rfl⟩
      rw [hy, hσ] at he hbad
      rw [hσ] at hlen
      rw [hy] at A'
      clear A hy hσ
      by_cases h11 : y = 11
      · subst h11
        have hbad2 := hbad rfl
        clear hbad
        obtain rfl : R = false := by rw [← A']; rfl
        clear A'
        go_wp2_with (go_at_call 68; refine he.mono ?_; rintro e w3 ⟨v3, rfl, hS3, hP3⟩; obtain ⟨e3, n3, he3, _, _, _, c33, _, f33⟩ := hS3.cells)
        all_goals go_ret
        obtain ⟨p, _, _, rfl, _, _⟩ := he3.2 hbad2
        have hR : ∀ p, ChkR w w3 b B s.size false (.iface 103 (.pointer (some p))) := fun p => ⟨Below.trans hbw (hP3.below hS hwr), ⟨σ2, v3, hS3, by omega⟩, fun h => (by cases h), fun _ => ⟨_, rfl⟩⟩
        first | exact ⟨_, rfl, hR _⟩ | exact hR _
      · have h11' : (y == 11) = false := by simpa using h11
        obtain rfl : R = true := by rw [← A']; simp [h11]
        clear A' h11 hbad
        go_wp2_with (go_at_call 68; refine he.mono ?_; rintro e w3 ⟨v3, rfl, hS3, hP3⟩; obtain ⟨e3, n3, he3, _, _, _, c33, _, f33⟩ := hS3.cells)
        all_goals go_ret
        have hR : ChkR w w3 b B s.size true .nilIface := ⟨Below.trans hbw (hP3.below hS hwr), ⟨σ2, v3, hS3, by omega⟩, fun _ => rfl, fun h => (by cases h)⟩
        first | exact ⟨_, rfl, hR⟩ | exact hR
    have hkI : (k : Int) < (s.size : Int) := by omega
    have hcell : wr.cell? ⟨d, k, none⟩ = some (.int .u8 (s[k].toNat : Int)) := by
      have := hD k hlt
      rw [Nat.zero_add] at this
      rw [← this]
      exact World.cell?_of_block (hbw.block d hd)
    have A' : (if (stepQ σ (s[k].toNat : Int)).1 = 11 then false else validQ (stepQ σ (s[k].toNat : Int)).2 ((bl s).drop (k + 1))) = R := by
      have := A
      unfold Aside at this
      rw [bl_drop hlt] at this
      exact this
    obtain ⟨c, hc⟩ : ∃ c, (s[k].toNat : Int) = c := ⟨_, rfl⟩
    rw [hc] at A' hcell
    clear A hc hD
    obtain ⟨e1, n1, _, _, _, _, _, c4, f0⟩ := hS.cells
    have f4 := f0 4
    have hok := ok_step hI c
    clear f0
    have hN : ∀ m : Int, IsS (wr.setCell ⟨b, 4, none⟩ (.int .i64 m)) b B σ v ∧ Stp b v wr v (wr.setCell ⟨b, 4, none⟩ (.int .i64 m)) := fun m => ⟨hS.setN m, Stp.set _ _ _ _ _⟩
    go_upto_region 6 with fail
    obtain ⟨hS2, hP2⟩ := hN (wrap64 (n1 + 1))
    clear hN f4 c4
    generalize wr.setCell ⟨b, 4, none⟩ (.int .i64 (wrap64 (n1 + 1))) = w2 at hS2 hP2 ⊢
    have hw2 : B ≤ w2.heap.size := Nat.le_trans hwr hP2.size
    have hb2 : Below B w w2 := Below.trans hbw (hP2.below hS hwr)
    have hst := step_any b B σ v c w2 hS2 hw2 (by omega) hI.bs
    obtain ⟨e2, n2, _, c20, _, _, _, _, f20⟩ := hS2.cells
    have f200 := f20 0
    unfold fv at c20
    clear f20 hS hwr hI hP2 hbw
    obtain ⟨y, hy⟩ : ∃ y, (stepQ σ c).1 = y := ⟨_, rfl⟩
    obtain ⟨σ2, hσ⟩ : ∃ σ2, (stepQ σ c).2 = σ2 := ⟨_, rfl⟩
    obtain ⟨o1, o2, o3⟩ := hok
    rw [hy, hσ] at hst A'
    rw [hy] at o2
    rw [hσ] at o1 o2 o3
    clear hy hσ
    by_cases h11 : y = 11
    · subst h11
      have hbad2 := o2 rfl
      obtain rfl : R = false := by rw [← A']; rfl
      clear A' o1 o2
      go_wp2_with (refine hst.mono ?_; rintro e w3 ⟨v3, rfl, hS3, hP3⟩; obtain ⟨e3, n3, he3, _, _, _, c33, _, f33⟩ := hS3.cells)
      all_goals go_ret
      obtain ⟨p, _, _, rfl, _, _⟩ := he3.2 hbad2
      have hR : ∀ p, ChkR w w3 b B s.size false (.iface 103 (.pointer (some p))) := fun p => ⟨Below.trans hb2 (hP3.below hS2 hw2), ⟨σ2, v3, hS3, by omega⟩, fun h => (by cases h), fun _ => ⟨_, rfl⟩⟩
      first | exact ⟨_, rfl, hR _⟩ | exact hR _
    · have h11' : (y == 11) = false := by simpa using h11
      rw [if_neg h11] at A'
      have A2 : Aside (validQ σ2 ((bl s).drop (k + 1)) = R) := A'
      clear A' h11 o2
      go_wp2_with (refine hst.mono ?_; rintro e w3 ⟨v3, rfl, hS3, hP3⟩; have hb3 := Below.trans hb2 (hP3.below hS2 hw2))
      go_roundg (gk - 1)
      case measure => omega
      case rel => exact ⟨k + 1, σ2, v3, by go_num, by omega, by omega, hS3, hb3, o1, by omega, A2⟩
set_option maxRecDepth 100000 in
set_option maxHeartbeats 2000000 in
theorem valid_any (s : ByteArray) (hs : s.size ≤ 9000) (d cap : Nat) (w : World) (hd : d < w.heap.size) (hD : Lib.Bytes w d 0 s) (hc1 : s.size ≤ cap) (hc2 : cap ≤ maxLen) :
    Calls Tryz.prog 24 #[.slice (some ⟨d, 0, none⟩) s.size cap] w fun e w' => e = .returned (.bool (validQ sc0 (bl s))) ∧ Below w.heap.size w w' := by
  have hn := new_any w
  obtain ⟨R, hR⟩ : ∃ R, validQ sc0 (bl s) = R := ⟨_, rfl⟩
  rw [hR]
  have hch := fun (w1 : World) (hS : w1.heap[w.heap.size]? = some (.cells #[fv .bv, .bool false, .slice none 0 0, .nilIface, .int .i64 0] 124 (0, 0))) (hb : Below w.heap.size w w1) =>
    check_any s hs d w.heap.size w.heap.size cap w1 hd (fun i hi => (World.cell?_of_block (hb.block d hd)).trans (hD i hi)) hc1 hc2 (Nat.le_refl _) hb.size _ _ _ _ hS
  rw [hR] at hch
  clear hR hD
  cases R
  · go_enter_defers Tryz.func24, Tryz.ntmps24
    go_wp2_with (first | (go_at_call 43; refine hn.mono ?_; rintro e w1 ⟨rfl, hS1, hc1, hb1⟩; have hch2 := hch w1 hc1 hb1) | (go_at_call 45; refine hch2.mono ?_; rintro e w2 ⟨u, rfl, hC⟩; obtain ⟨p, rfl⟩ := hC.no rfl))
    obtain ⟨σ, v, hS2, _⟩ := hC.sc
    have hb2 := Below.trans hb1 hC.below
    refine leaves_cons (f := 44) (args := #[.pointer (some ⟨w.heap.size, 0, none⟩)]) (by simp) (by simp [go_sem]) ?_
    refine (free_d w.heap.size w.heap.size σ v w2 _ hS2).mono ?_
    rintro e u' w3 ⟨rfl, rfl, hb3⟩
    exact ⟨_, results_tmp rfl _ _ _, rfl, Below.trans hb2 hb3⟩
  · go_enter_defers Tryz.func24, Tryz.ntmps24
    go_wp2_with (first | (go_at_call 43; refine hn.mono ?_; rintro e w1 ⟨rfl, hS1, hc1, hb1⟩; have hch2 := hch w1 hc1 hb1) | (go_at_call 45; refine hch2.mono ?_; rintro e w2 ⟨u, rfl, hC⟩; obtain rfl := hC.ok rfl))
    obtain ⟨σ, v, hS2, _⟩ := hC.sc
    have hb2 := Below.trans hb1 hC.below
    refine leaves_cons (f := 44) (args := #[.pointer (some ⟨w.heap.size, 0, none⟩)]) (by simp) (by simp [go_sem]) ?_
    refine (free_d w.heap.size w.heap.size σ v w2 _ hS2).mono ?_
    rintro e u' w3 ⟨rfl, rfl, hb3⟩
    exact ⟨_, results_tmp rfl _ _ _, rfl, Below.trans hb2 hb3⟩
set_option maxRecDepth 100000 in
set_option maxHeartbeats 1000000 in
theorem oldValid_any (s : ByteArray) (hs : s.size ≤ 9000) (w : World) :
    Calls Tryz.prog 10 #[.string s] w fun e w' => e = .returned (.bool (validQ sc0 (bl s))) ∧ Below w.heap.size w w' := by
  obtain ⟨cap, w1, hc, hC⟩ := cnvB s (by unfold maxLen; omega) w
  have hv := valid_any s hs w.heap.size cap w1 (by rw [hC.size]; omega) hC.bytes hC.cap_ge hC.cap_le
  have hb1 := hC.below
  go_enter Tryz.func10, Tryz.ntmps10
  go_wp2_with (first | (go_at_call 24; refine hv.mono ?_; rintro e w2 ⟨rfl, hb2⟩))
  all_goals go_ret
  exact ⟨rfl, Below.trans hb1 (Below.mono hb2 hb1.size)⟩
end Go.Proofs.YtjbffgjclnjkoaaGreatDoor
