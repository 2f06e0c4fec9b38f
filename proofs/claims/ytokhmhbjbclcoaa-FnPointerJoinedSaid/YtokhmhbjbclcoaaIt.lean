/- The iterator over the tokens of a pointer: for every loop body that goes on. -/
import Derived.Test.YtokhmhbjbclcoaaTt
import Derived.RangeFuncBox
import Derived.RangeFuncLeaves
import Derived.RangeFuncBound
import Derived.RangeFuncCalls
import Derived.OwnWalkIn
import Derived.TacticsInMore
import Derived.LoopNIn
import Derived.LoopIn
import Derived.Maps.AppendAt
import Derived.BigQuiet
import Derived.Deep.QuietTactic
import Derived.Deep.RegionWith
namespace Go.Proofs.Ytokhmhbjbclcoaa
set_option linter.unusedVariables false
set_option linter.unusedSimpArgs false
open Go.RowKit

theorem ext_from (p : ByteArray) (a b : Nat) (h : a + b ≤ p.size) : (p.extract a p.size).extract b (p.extract a p.size).size = p.extract (a + b) p.size := by
  apply bl_inj
  have hz : (p.extract a p.size).size = p.size - a := by rw [ByteArray.size_extract]; omega
  rw [bl_sub _ _ _ (Nat.le_refl _) (by omega), bl_sub p _ _ (Nat.le_refl _) h]
  unfold sub
  rw [hz, show p.size - a - b = p.size - (a + b) by omega]
  apply List.map_congr_left
  intro i hi
  have := List.mem_range.1 hi
  rw [bAt_lt (s := p.extract a p.size) (i := b + i) (by omega), bAt_lt (s := p) (i := a + b + i) (by omega), ByteArray.getElem_extract]
  congr 2
  simp [Nat.add_assoc]
theorem bl_part (p : ByteArray) (a d : Nat) (h : a + d ≤ p.size) : bl ((p.extract a p.size).extract 0 d) = sub p a (a + d) := by
  have hz : (p.extract a p.size).size = p.size - a := by rw [ByteArray.size_extract]; omega
  rw [bl_sub _ _ _ (by omega) (Nat.zero_le _)]
  unfold sub
  rw [show d - 0 = a + d - a by omega]
  apply List.map_congr_left
  intro i hi
  have := List.mem_range.1 hi
  rw [Nat.zero_add, bAt_lt (s := p.extract a p.size) (i := i) (by omega), bAt_lt (s := p) (i := a + i) (by omega), ByteArray.getElem_extract]

attribute [local go_sem] Oper.semAt_some
set_option maxRecDepth 100000 in
set_option maxHeartbeats 4000000 in
theorem tok_it (l Bx m : Nat) (p : ByteArray) (hs : p.size ≤ 1000000) (hp : p.size = 0 ∨ bAt p 0 = 47) (J : List (List Int) → World → Prop)
    (hJ1 : ∀ pre W q, J pre W → J pre (W.setCell ⟨Bx, 0, none⟩ (.string q)))
    (hJ2 : ∀ pre W W', J pre W → Below W.heap.size W W' → J pre W')
    (hY : ∀ pre t W q, J pre W → Boxed W Bx 30 (.string q) → pre.length < p.size → By8 t → t.length ≤ p.size → YieldAt Fence.wide m Try.prog l #[.string (txt t)] W fun e W' => e = .returned (.bool true) ∧ J (pre ++ [t]) W' ∧ Boxed W' Bx 30 (.string q))
    (W : World) (hB : Boxed W Bx 30 (.string p)) (h0 : J [] W) :
    Calls Try.prog 14 #[.func (.yield l) #[] #[], .pointer (some ⟨Bx, 0, none⟩)] W fun e W' => (∃ v, e = .returned v) ∧ J (tkl p) W' := by
  obtain ⟨T, HT⟩ : ∃ T, Hid (tkl p = T) := ⟨_, Lib.hid rfl⟩
  have A0 : Aside ([] ++ tkP p (p.size - 0) 0 = T) := HT.out
  have hB0 : Boxed W Bx 30 (.string (p.extract 0 p.size)) := by
    rw [show p.extract 0 p.size = p by apply bl_inj; rw [bl_sub p 0 p.size (Nat.le_refl _) (Nat.zero_le _), sub_all]]
    exact hB
  rw [HT.out]
  clear HT
  go_enter Try.func14, Try.ntmps14
  go_wp2_with fail
  go_loopg [] (p.size + 1) (fun g wr => ∃ (k : Nat) (pre : List (List Int)), k ≤ p.size ∧ (k < p.size → bAt p k = 47) ∧ p.size - k < g ∧ pre.length ≤ k ∧ Boxed wr Bx 30 (.string (p.extract k p.size)) ∧ J pre wr ∧ Aside (pre ++ tkP p (p.size - k) k = T))
  case atStart => exact ⟨0, [], Nat.zero_le _, fun h => by omega, by omega, Nat.le_refl _, hB0, h0, A0⟩
  case round =>
    clear hB0 h0 A0 hB
    obtain ⟨k, pre, hk, h47, hg, hpl, hBk, hJk, A⟩ := hrel
    have hz : (p.extract k p.size).size = p.size - k := by rw [ByteArray.size_extract]; omega
    have hc := hBk.cell
    have hf := hBk.frozen
    by_cases hlt : k < p.size
    case neg =>
      have hz0 : (p.extract k p.size).size = 0 := by omega
      have E := tk_end hlt A
      subst E
      generalize p.extract k p.size = R at hc hz0
      have hz1 : ((R.size : Nat) : Int) = 0 := by omega
      go_wp2_with fail
      go_end0
      exact ⟨⟨_, rfl⟩, hJk⟩
    have h471 := h47 hlt
    obtain ⟨j1, j2, j3, j4⟩ := nx_spec p p.size (k + 1) (by omega) (by omega)
    have A2 := tk_step hlt A
    have hix := idx_nx p p.size (k + 1) (by omega) (by omega)
    rw [← list_from] at hix
    obtain ⟨j, hj⟩ : ∃ j, nx p p.size (k + 1) = j := ⟨_, rfl⟩
    rw [hj] at j1 j2 j3 j4 A2 hix
    obtain ⟨d, rfl⟩ : ∃ d, j = k + 1 + d := ⟨j - (k + 1), by omega⟩
    have htr := fun w' => trimSlash_any (p.extract k p.size) w' (by omega) (by
      rw [bAt_lt (by omega), ByteArray.getElem_extract]
      have := bAt_lt hlt
      rw [h471] at this
      simpa using this.symm) (by omega)
    rw [ext_from p k 1 (by omega)] at htr
    have hz1 : (p.extract (k + 1) p.size).size = p.size - (k + 1) := by rw [ByteArray.size_extract]; omega
    have hun := fun w' => unescape_any ((p.extract (k + 1) p.size).extract 0 d) w' (by rw [ByteArray.size_extract]; omega)
    rw [bl_part p (k + 1) d (by omega)] at hun
    have hnxt := ext_from p (k + 1) d (by omega)
    have hIx := fun w' => indexByte_any (p.extract (k + 1) p.size) 47 w'
    rw [hix] at hIx
    obtain ⟨R, hR⟩ : ∃ R, p.extract k p.size = R := ⟨_, rfl⟩
    obtain ⟨R1, hR1⟩ : ∃ R1, p.extract (k + 1) p.size = R1 := ⟨_, rfl⟩
    rw [hR] at hc htr hz
    rw [hR1] at htr hun hIx hz1 hnxt
    have hzI : (0 : Int) < (R.size : Int) := by omega
    have hz1I : (R1.size : Int) = (p.size : Int) - (k + 1) := by omega
    have HZ := Lib.hid hz1I
    go_upto_region 2 with (go_at_call 15; refine (htr _).mono ?_; rintro e w3 ⟨rfl, h3⟩; obtain rfl := h3.symm)
    have hB1 := hBk.set (.string R1)
    have hJ2' := hJ1 _ _ R1 hJk
    clear hc hf hBk hJk htr hz hR hz1 hz1I hzI
    generalize wr.setCell ⟨Bx, 0, none⟩ (.string R1) = wa at hB1 hJ2' ⊢
    have hcN : ∀ n, (wa.drewN n).cell? ⟨Bx, 0, none⟩ = some (.string R1) := fun n => hB1.cell
    have hmin : min (IntKind.u64.wrap (if k + 1 + d < p.size then ((k + 1 + d - (k + 1) : Nat) : Int) else -1)) (IntKind.u64.wrap (R1.size : Int)) = (d : Int) := by
      rw [IntKind.wrap_u64, IntKind.wrap_u64, HZ.out]
      split <;> omega
    generalize (if k + 1 + d < p.size then ((k + 1 + d - (k + 1) : Nat) : Int) else -1) = V at hIx hmin
    go_quiet ((go_at_call 16; exact Calls.quiet_of_same (hIx _)))
    go_upto_region 3 with fail
    have hbn : Below wa.heap.size wa (wa.drewN nq) := ⟨rfl, rfl, rfl, Nat.le_refl _, fun _ _ => rfl⟩
    have hBn : Boxed (wa.drewN nq) Bx 30 (.string R1) := hB1
    have hJn := hJ2 _ _ _ hJ2' hbn
    clear hB1 hJ2' hcN hbn hmin hIx
    generalize wa.drewN nq = wb at hBn hJn ⊢
    have hcb := hBn.cell
    have hd0 : (0 : Int) ≤ (d : Int) := by omega
    have hd1 : (d : Int) ≤ (R1.size : Int) := by have := HZ.out; omega
    have h8 : By8 (un (sub p (k + 1) (k + 1 + d))) := un_by (sub_by _ _ _)
    have hln : (un (sub p (k + 1) (k + 1 + d))).length ≤ p.size := by have := un_len (sub p (k + 1) (k + 1 + d)); rw [sub_len] at this; omega
    have hpl2 : pre.length < p.size := by omega
    have hun2 : ∀ w' : World, Calls Try.prog 17 #[.string (R1.extract 0 d)] w' fun e w'' => e = .returned (.string (txt (un (sub p (k + 1) (k + 1 + d))))) ∧ Below w'.heap.size w' w'' := hun
    clear hun
    generalize un (sub p (k + 1) (k + 1 + d)) = t at hun2 A2 h8 hln
    refine (wpIn_wide (n := m + 1)).1 ?_
    gi_wp2_with fail
    refine ⟨trivial, (callsIn_wide.2 (hun2 _)).mono ?_⟩
    rintro e w4 ⟨rfl, hb4⟩
    have hJ4 := hJ2 _ _ _ hJn hb4
    have hB4 : Boxed w4 Bx 30 (.string R1) := (hb4.block Bx hBn.lt).trans hBn
    obtain ⟨fn, tmps, asg, body, hy, hR5⟩ := hY pre t w4 R1 hJ4 hB4 hpl2 h8 hln
    gi_wp2
    refine hR5.mono ?_
    rintro e w5 ⟨rfl, hJ5, hB5⟩
    have hc5 := hB5.cell
    have hf5 := hB5.frozen
    gi_wp2
    go_wp2_with fail
    go_roundg (gk - 1)
    case measure => omega
    case rel => exact ⟨k + 1 + d, pre ++ [t], j2, j3, by omega, by simp; omega, hB5.set _, hJ1 _ _ _ hJ5, A2⟩
end Go.Proofs.Ytokhmhbjbclcoaa
