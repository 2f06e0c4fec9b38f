/- Joined texts: Qa, Qb, Qc. -/
import Derived.Test.YtjbffgjclnjkoaaGreatDoorH1
import Derived.StillTailTactics
import Derived.RegionTactic
import Derived.BigRegion
import Derived.Deep.RegionWith
namespace Go.Proofs.YtjbffgjclnjkoaaGreatDoor
set_option linter.unusedVariables false
set_option linter.unusedSimpArgs false
section
/- (Qa) Whether two values mean the same: find, Alike. -/
open Go.RowKit

set_option maxRecDepth 100000 in
set_option maxHeartbeats 4000000 in
/-- The place of a name among others. -/
theorem find_at (ns : List ByteArray) (x : ByteArray) (na : Option Addr) (n nc i : Nat) (w : World) (ho : w.ownsRow 0 9 1 (.slice na n nc) n (nmv ns)) (hq : ∀ y ∈ ns, NqS (.string y)) (hx : NqS (.string x))
    (hi : i < ns.length) (hie : decF ns[i] = decF x) (hlt : ∀ j (h : j < ns.length), j < i → decF ns[j] ≠ decF x) :
    Calls Tryz.prog 23 #[.slice na n nc, .string x] w fun e w' => e = .returned (.int .i64 i) ∧ Below w.heap.size w w' := by
  have hnl : ns.length = n := by have := ho.1; simp [nmv] at this; omega
  obtain ⟨g, cp, e0⟩ := own_some ho (by omega)
  injection e0 with e1 e2 e3
  subst e1 e3
  obtain ⟨hmc, hcm⟩ := own_len ho
  obtain ⟨Dx, hdx, hdx2⟩ := dec_of hx
  have hglt : g < w.heap.size := (ho.lt g rfl).2
  have cellsW : ∀ w', Below w.heap.size w w' → ∀ j (h : j < ns.length), w'.cell? ⟨g, j, none⟩ = some (.string ns[j]) := fun w' hb j hj => by
    refine (World.cell?_of_block (hb.block g hglt)).trans ?_
    rw [World.ownsRow.cellAt ho j (by simp [nmv]; omega)]
    simp [nmv, List.getElem?_eq_getElem hj]
  have HC := Lib.hid cellsW
  have HQ := Lib.hid hq
  have HD2 := Lib.hid hdx2
  have HIE := Lib.hid hie
  have HLT := Lib.hid hlt
  have HNL := Lib.hid hnl
  have HI := Lib.hid hi
  have hcI : (n : Int) ≤ (nc : Int) := by omega
  have hnI : (n : Int) ≤ 9223372036854775807 := by omega
  clear cellsW ho hq hx hdx2 hie hlt hmc hcm hglt e2
  go_enter Tryz.func23, Tryz.ntmps23
  go_wp2_with (go_at_call 22; refine (hdx _).mono ?_; rintro e w1 ⟨rfl, hb1⟩)
  clear hdx
  go_loopg [18] n (fun f c wr => ∃ j : Nat, c = .int .i64 j ∧ j ≤ i ∧ n - j ≤ f ∧ Below w.heap.size w wr)
  case atStart => exact ⟨0, rfl, Nat.zero_le _, by omega, hb1⟩
  case round =>
    clear hb1
    obtain ⟨j, rfl, hj, hf, hb⟩ := hrel
    have hjn : j < ns.length := by have := HI.out; omega
    have hjI : (j : Int) < (n : Int) := by have := HNL.out; omega
    have hc := HC.out wr hb j hjn
    obtain ⟨Dy, hdy, hdy2⟩ := dec_of (HQ.out ns[j] (List.getElem_mem _))
    have HY := Lib.hid hdy2
    clear hdy2
    generalize ns[j] = y at hc hdy
    by_cases hji : j = i
    · have heq : Dx.toList = Dy.toList := by
        rw [HD2.out, HY.out, ← HIE.out]
        congr 2
        exact hji.symm
      have HJ := Lib.hid hji
      clear hji
      go_wp2_with (go_at_call 22; refine (hdy _).mono ?_; rintro e w2 ⟨rfl, hb2⟩)
      all_goals go_ret
      exact ⟨by rw [← HJ.out]; rfl, bwY2 hb hb2⟩
    · have hne2 : ¬ Dx.toList = Dy.toList := by
        rw [HD2.out, HY.out]
        exact fun e => HLT.out j hjn (by omega) e.symm
      have hne : (Dx.toList == Dy.toList) = false := beq_eq_false_iff_ne.2 hne2
      have hlt2 : j + 1 ≤ i := by omega
      clear hji
      go_wp2_with (go_at_call 22; refine (hdy _).mono ?_; rintro e w2 ⟨rfl, hb2⟩)
      go_roundg (gk - 1)
      case measure => have := HNL.out; omega
      case rel => exact ⟨j + 1, by go_num, hlt2, by omega, bwY2 hb hb2⟩
end
section
/- (Qb) Whether two values mean the same: Alike. Printed by genqb.py. -/
open Go.RowKit

set_option maxRecDepth 100000 in
set_option maxHeartbeats 4000000 in
theorem alk_lit (k : Int) (t t' : ByteArray) (na na' ka ka' : Option Addr) (nl nl' nc nc' n kc kc' : Nat) (w : World) (h48 : k ≠ 48) (h34 : k ≠ 34) (h91 : k ≠ 91) (h123 : k ≠ 123) :
    Calls Tryz.prog 9 #[.agg #[.int .u8 k, .string t, .slice na nl nc, .slice ka n kc], .agg #[.int .u8 k, .string t', .slice na' nl' nc', .slice ka' n kc']] w fun e w' => e = .returned (.bool true) ∧ Below w.heap.size w w' := by
  obtain ⟨w2, hw2⟩ : ∃ w2, (w.alloc (.cells #[.int .u8 k, .string t, .slice na nl nc, .slice ka n kc] 25)).alloc (.cells #[.int .u8 k, .string t', .slice na' nl' nc', .slice ka' n kc'] 25) = w2 := ⟨_, rfl⟩
  have N1 : NodeB w2 w.heap.size k t (.slice na nl nc) (.slice ka n kc) := by
    rw [← hw2]
    exact NodeB.other (w := w.alloc (.cells #[.int .u8 k, .string t, .slice na nl nc, .slice ka n kc] 25)) ⟨_, heap_alloc_new w _⟩ (Below.heap_alloc _ _ _ (by simp))
  have N2 : NodeB w2 (w.heap.size + 1) k t' (.slice na' nl' nc') (.slice ka' n kc') := by
    rw [← hw2]
    have := heap_alloc_new (w.alloc (.cells #[.int .u8 k, .string t, .slice na nl nc, .slice ka n kc] 25)) (.cells #[.int .u8 k, .string t', .slice na' nl' nc', .slice ka' n kc'] 25)
    exact ⟨_, by simpa using this⟩
  have b0 : Below w.heap.size w w2 := by rw [← hw2]; exact bwY2 (bwY w _) (bwY _ _)
  have HN : Hid (∀ wx, Below w2.heap.size w2 wx → NodeB wx w.heap.size k t (.slice na nl nc) (.slice ka n kc) ∧ NodeB wx (w.heap.size + 1) k t' (.slice na' nl' nc') (.slice ka' n kc')) := Lib.hid fun wx hb => ⟨N1.bel hb, N2.bel hb⟩
  obtain ⟨c0, c1, c2, c3, -, -, -, -⟩ := N1.cells
  obtain ⟨e0, e1, e2, e3, -, -, -, -⟩ := N2.cells
  have d48 : (k == 48) = false := by simpa using h48
  have d34 : (k == 34) = false := by simpa using h34
  have d91 : (k == 91) = false := by simpa using h91
  have d123 : (k == 123) = false := by simpa using h123
  clear h48 h34 h91 h123
  clear N1 N2
  go_enter Tryz.func9, Tryz.ntmps9
  go_wp2_with fail
  all_goals go_ret
  exact ⟨rfl, b0⟩
set_option maxRecDepth 100000 in
set_option maxHeartbeats 4000000 in
theorem alk_num (t t' : ByteArray) (na na' ka ka' : Option Addr) (nl nl' nc nc' n kc kc' : Nat) (w : World) (hS : ∀ w : World, Calls Tryz.prog 21 #[.string t, .string t'] w fun e w' => e = .returned (.bool true) ∧ Below w.heap.size w w') :
    Calls Tryz.prog 9 #[.agg #[.int .u8 48, .string t, .slice na nl nc, .slice ka n kc], .agg #[.int .u8 48, .string t', .slice na' nl' nc', .slice ka' n kc']] w fun e w' => e = .returned (.bool true) ∧ Below w.heap.size w w' := by
  obtain ⟨w2, hw2⟩ : ∃ w2, (w.alloc (.cells #[.int .u8 48, .string t, .slice na nl nc, .slice ka n kc] 25)).alloc (.cells #[.int .u8 48, .string t', .slice na' nl' nc', .slice ka' n kc'] 25) = w2 := ⟨_, rfl⟩
  have N1 : NodeB w2 w.heap.size 48 t (.slice na nl nc) (.slice ka n kc) := by
    rw [← hw2]
    exact NodeB.other (w := w.alloc (.cells #[.int .u8 48, .string t, .slice na nl nc, .slice ka n kc] 25)) ⟨_, heap_alloc_new w _⟩ (Below.heap_alloc _ _ _ (by simp))
  have N2 : NodeB w2 (w.heap.size + 1) 48 t' (.slice na' nl' nc') (.slice ka' n kc') := by
    rw [← hw2]
    have := heap_alloc_new (w.alloc (.cells #[.int .u8 48, .string t, .slice na nl nc, .slice ka n kc] 25)) (.cells #[.int .u8 48, .string t', .slice na' nl' nc', .slice ka' n kc'] 25)
    exact ⟨_, by simpa using this⟩
  have b0 : Below w.heap.size w w2 := by rw [← hw2]; exact bwY2 (bwY w _) (bwY _ _)
  have HN : Hid (∀ wx, Below w2.heap.size w2 wx → NodeB wx w.heap.size 48 t (.slice na nl nc) (.slice ka n kc) ∧ NodeB wx (w.heap.size + 1) 48 t' (.slice na' nl' nc') (.slice ka' n kc')) := Lib.hid fun wx hb => ⟨N1.bel hb, N2.bel hb⟩
  obtain ⟨c0, c1, c2, c3, -, -, -, -⟩ := N1.cells
  obtain ⟨e0, e1, e2, e3, -, -, -, -⟩ := N2.cells
  clear N1 N2
  go_enter Tryz.func9, Tryz.ntmps9
  go_wp2_with (go_at_call 21; refine (hS _).mono ?_; rintro e w3 ⟨rfl, hb3⟩)
  all_goals go_ret
  exact ⟨rfl, bwY2 b0 hb3⟩
set_option maxRecDepth 100000 in
set_option maxHeartbeats 4000000 in
theorem alk_str (t t' : ByteArray) (na na' ka ka' : Option Addr) (nl nl' nc nc' n kc kc' : Nat) (w : World) (D : ByteArray) (hD : ∀ w : World, Calls Tryz.prog 22 #[.string t] w fun e w' => e = .returned (.tuple #[.string D, .bool true]) ∧ Below w.heap.size w w') (hD' : ∀ w : World, Calls Tryz.prog 22 #[.string t'] w fun e w' => e = .returned (.tuple #[.string D, .bool true]) ∧ Below w.heap.size w w') :
    Calls Tryz.prog 9 #[.agg #[.int .u8 34, .string t, .slice na nl nc, .slice ka n kc], .agg #[.int .u8 34, .string t', .slice na' nl' nc', .slice ka' n kc']] w fun e w' => e = .returned (.bool true) ∧ Below w.heap.size w w' := by
  obtain ⟨w2, hw2⟩ : ∃ w2, (w.alloc (.cells #[.int .u8 34, .string t, .slice na nl nc, .slice ka n kc] 25)).alloc (.cells #[.int .u8 34, .string t', .slice na' nl' nc', .slice ka' n kc'] 25) = w2 := ⟨_, rfl⟩
  have N1 : NodeB w2 w.heap.size 34 t (.slice na nl nc) (.slice ka n kc) := by
    rw [← hw2]
    exact NodeB.other (w := w.alloc (.cells #[.int .u8 34, .string t, .slice na nl nc, .slice ka n kc] 25)) ⟨_, heap_alloc_new w _⟩ (Below.heap_alloc _ _ _ (by simp))
  have N2 : NodeB w2 (w.heap.size + 1) 34 t' (.slice na' nl' nc') (.slice ka' n kc') := by
    rw [← hw2]
    have := heap_alloc_new (w.alloc (.cells #[.int .u8 34, .string t, .slice na nl nc, .slice ka n kc] 25)) (.cells #[.int .u8 34, .string t', .slice na' nl' nc', .slice ka' n kc'] 25)
    exact ⟨_, by simpa using this⟩
  have b0 : Below w.heap.size w w2 := by rw [← hw2]; exact bwY2 (bwY w _) (bwY _ _)
  have HN : Hid (∀ wx, Below w2.heap.size w2 wx → NodeB wx w.heap.size 34 t (.slice na nl nc) (.slice ka n kc) ∧ NodeB wx (w.heap.size + 1) 34 t' (.slice na' nl' nc') (.slice ka' n kc')) := Lib.hid fun wx hb => ⟨N1.bel hb, N2.bel hb⟩
  obtain ⟨c0, c1, c2, c3, -, -, -, -⟩ := N1.cells
  obtain ⟨e0, e1, e2, e3, -, -, -, -⟩ := N2.cells
  clear N1 N2
  go_enter Tryz.func9, Tryz.ntmps9
  go_upto_region 8 with (go_at_call 22; refine (hD _).mono ?_; rintro e w3 ⟨rfl, hb3⟩)
  obtain ⟨M1, M2⟩ := HN.out w3 hb3
  clear c0 c1 c2 c3 e0 e1 e2 e3
  obtain ⟨c0, c1, c2, c3, -, -, -, -⟩ := M1.cells
  obtain ⟨e0, e1, e2, e3, -, -, -, -⟩ := M2.cells
  go_wp2_with (go_at_call 22; refine (hD' _).mono ?_; rintro e w4 ⟨rfl, hb4⟩)
  all_goals go_ret
  first
    | exact ⟨rfl, bwY2 b0 (bwY2 hb3 hb4)⟩
    | exact ⟨by simp, bwY2 b0 (bwY2 hb3 hb4)⟩
set_option maxRecDepth 100000 in
set_option maxHeartbeats 4000000 in
theorem alk_arr (t t' : ByteArray) (na na' ka ka' : Option Addr) (nl nl' nc nc' n kc kc' : Nat) (w : World) (hn : (n : Int) ≤ 9223372036854775807) (hkc : n ≤ kc) (hkc' : n ≤ kc')
    (hK : ∀ j, j < n → ∃ (g1 g2 : Nat) (k2 : Int) (t2 t3 : ByteArray) (na2 na3 ka2 ka3 : Option Addr) (nl2 nl3 nc2 nc3 kl2 kl3 kc2 kc3 : Nat), ka = some ⟨g1, 0, none⟩ ∧ ka' = some ⟨g2, 0, none⟩ ∧ ∀ wz : World, Below w.heap.size w wz →
      (wz.cell? ⟨g1, j * 4, none⟩ = some (.int .u8 k2) ∧ wz.cell? ⟨g1, j * 4 + 1, none⟩ = some (.string t2) ∧ wz.cell? ⟨g1, j * 4 + 2, none⟩ = some (.slice na2 nl2 nc2) ∧ wz.cell? ⟨g1, j * 4 + 3, none⟩ = some (.slice ka2 kl2 kc2)) ∧
      (wz.cell? ⟨g2, j * 4, none⟩ = some (.int .u8 k2) ∧ wz.cell? ⟨g2, j * 4 + 1, none⟩ = some (.string t3) ∧ wz.cell? ⟨g2, j * 4 + 2, none⟩ = some (.slice na3 nl3 nc3) ∧ wz.cell? ⟨g2, j * 4 + 3, none⟩ = some (.slice ka3 kl3 kc3)) ∧
      Calls Tryz.prog 9 #[.agg #[.int .u8 k2, .string t2, .slice na2 nl2 nc2, .slice ka2 kl2 kc2], .agg #[.int .u8 k2, .string t3, .slice na3 nl3 nc3, .slice ka3 kl3 kc3]] wz fun e w' => e = .returned (.bool true) ∧ Below wz.heap.size wz w') :
    Calls Tryz.prog 9 #[.agg #[.int .u8 91, .string t, .slice na nl nc, .slice ka n kc], .agg #[.int .u8 91, .string t', .slice na' nl' nc', .slice ka' n kc']] w fun e w' => e = .returned (.bool true) ∧ Below w.heap.size w w' := by
  obtain ⟨w2, hw2⟩ : ∃ w2, (w.alloc (.cells #[.int .u8 91, .string t, .slice na nl nc, .slice ka n kc] 25)).alloc (.cells #[.int .u8 91, .string t', .slice na' nl' nc', .slice ka' n kc'] 25) = w2 := ⟨_, rfl⟩
  have N1 : NodeB w2 w.heap.size 91 t (.slice na nl nc) (.slice ka n kc) := by
    rw [← hw2]
    exact NodeB.other (w := w.alloc (.cells #[.int .u8 91, .string t, .slice na nl nc, .slice ka n kc] 25)) ⟨_, heap_alloc_new w _⟩ (Below.heap_alloc _ _ _ (by simp))
  have N2 : NodeB w2 (w.heap.size + 1) 91 t' (.slice na' nl' nc') (.slice ka' n kc') := by
    rw [← hw2]
    have := heap_alloc_new (w.alloc (.cells #[.int .u8 91, .string t, .slice na nl nc, .slice ka n kc] 25)) (.cells #[.int .u8 91, .string t', .slice na' nl' nc', .slice ka' n kc'] 25)
    exact ⟨_, by simpa using this⟩
  have b0 : Below w.heap.size w w2 := by rw [← hw2]; exact bwY2 (bwY w _) (bwY _ _)
  have HN : Hid (∀ wx, Below w2.heap.size w2 wx → NodeB wx w.heap.size 91 t (.slice na nl nc) (.slice ka n kc) ∧ NodeB wx (w.heap.size + 1) 91 t' (.slice na' nl' nc') (.slice ka' n kc')) := Lib.hid fun wx hb => ⟨N1.bel hb, N2.bel hb⟩
  obtain ⟨c0, c1, c2, c3, -, -, -, -⟩ := N1.cells
  obtain ⟨e0, e1, e2, e3, -, -, -, -⟩ := N2.cells
  have hnI := hn
  have hkI : (n : Int) ≤ (kc : Int) := by omega
  have hkI' : (n : Int) ≤ (kc' : Int) := by omega
  have HK := Lib.hid hK
  clear hK
  clear N1 N2
  go_enter Tryz.func9, Tryz.ntmps9
  go_wp2_with fail
  clear c0 c1 c2 c3 e0 e1 e2 e3
  go_loopg [59] n (fun g c wr => ∃ j : Nat, c = .int .i64 j ∧ j ≤ n ∧ n - j ≤ g ∧ Below w2.heap.size w2 wr)
  case atStart => exact ⟨0, rfl, Nat.zero_le _, by omega, Below.refl _ _⟩
  case round =>
    obtain ⟨j, rfl, hj, hg, hb⟩ := hrel
    by_cases hlt : j < n
    case neg =>
      have hjI : (n : Int) ≤ (j : Int) := by omega
      clear hlt
      go_wp2_with fail
      all_goals go_ret
      exact ⟨rfl, bwY2 b0 hb⟩
    have hjI : (j : Int) < (n : Int) := by omega
    obtain ⟨g1, g2, k2, t2, t3, na2, na3, ka2, ka3, nl2, nl3, nc2, nc3, kl2, kl3, kc2, kc3, rfl, rfl, hW⟩ := HK.out j hlt
    obtain ⟨⟨z0, z1, z2, z3⟩, -, -⟩ := hW wr (bwY2 b0 hb)
    have HW := Lib.hid hW
    clear hW HK
    go_upto_region 14 with fail
    clear z0 z1 z2 z3
    have hba := bwY2 hb (bwY wr (.cells #[.int .u8 k2, .string t2, .slice na2 nl2 nc2, .slice ka2 kl2 kc2] 25))
    have hNa : NodeB (wr.alloc (.cells #[.int .u8 k2, .string t2, .slice na2 nl2 nc2, .slice ka2 kl2 kc2] 25)) wr.heap.size k2 t2 (.slice na2 nl2 nc2) (.slice ka2 kl2 kc2) := ⟨_, heap_alloc_new _ _⟩
    revert hba hNa
    generalize wr.alloc (.cells #[.int .u8 k2, .string t2, .slice na2 nl2 nc2, .slice ka2 kl2 kc2] 25) = wa
    generalize wr.heap.size = pb
    intro hba hNa
    have hbd : Below w2.heap.size w2 wa.drew := ⟨hba.os, hba.tape, hba.output, hba.size, hba.block⟩
    have hNd : NodeB wa.drew pb k2 t2 (.slice na2 nl2 nc2) (.slice ka2 kl2 kc2) := hNa
    obtain ⟨y0, y1, y2, y3, -, -, -, -⟩ := hNd.cells
    obtain ⟨-, M2⟩ := HN.out _ hbd
    obtain ⟨e0, e1, e2, e3, -, -, -, -⟩ := M2.cells
    obtain ⟨-, ⟨z0, z1, z2, z3⟩, hA⟩ := HW.out wa.drew (bwY2 b0 hbd)
    go_still_tail 6, (by kernel_rfl)
    change wpList _ _ _ _ _ wa.drew
    generalize wa.drew = wd at hbd hA e0 e1 e2 e3 z0 z1 z2 z3 y0 y1 y2 y3 ⊢
    go_wp2_with (go_at_call 9; refine hA.mono ?_; rintro e w5 ⟨rfl, hb5⟩)
    go_roundg (gk - 1)
    case measure => omega
    case rel => exact ⟨j + 1, by go_num, by omega, by omega, bwY2 hbd hb5⟩
set_option maxRecDepth 100000 in
set_option maxHeartbeats 4000000 in
theorem alk_obj (t t' : ByteArray) (na na' ka ka' : Option Addr) (nl' nc nc' n kc kc' : Nat) (w : World) (hn : (n : Int) ≤ 9223372036854775807) (hkc : n ≤ kc) (hkc' : n ≤ kc')
    (hK : ∀ j, j < n → ∃ (g1 g2 : Nat) (k2 : Int) (t2 t3 : ByteArray) (na2 na3 ka2 ka3 : Option Addr) (nl2 nl3 nc2 nc3 kl2 kl3 kc2 kc3 : Nat), ka = some ⟨g1, 0, none⟩ ∧ ka' = some ⟨g2, 0, none⟩ ∧ ∀ wz : World, Below w.heap.size w wz →
      (wz.cell? ⟨g1, j * 4, none⟩ = some (.int .u8 k2) ∧ wz.cell? ⟨g1, j * 4 + 1, none⟩ = some (.string t2) ∧ wz.cell? ⟨g1, j * 4 + 2, none⟩ = some (.slice na2 nl2 nc2) ∧ wz.cell? ⟨g1, j * 4 + 3, none⟩ = some (.slice ka2 kl2 kc2)) ∧
      (wz.cell? ⟨g2, j * 4, none⟩ = some (.int .u8 k2) ∧ wz.cell? ⟨g2, j * 4 + 1, none⟩ = some (.string t3) ∧ wz.cell? ⟨g2, j * 4 + 2, none⟩ = some (.slice na3 nl3 nc3) ∧ wz.cell? ⟨g2, j * 4 + 3, none⟩ = some (.slice ka3 kl3 kc3)) ∧
      Calls Tryz.prog 9 #[.agg #[.int .u8 k2, .string t2, .slice na2 nl2 nc2, .slice ka2 kl2 kc2], .agg #[.int .u8 k2, .string t3, .slice na3 nl3 nc3, .slice ka3 kl3 kc3]] wz fun e w' => e = .returned (.bool true) ∧ Below wz.heap.size wz w')
    (hN : ∀ j, j < n → ∃ (g0 : Nat) (x : ByteArray), na = some ⟨g0, 0, none⟩ ∧ ∀ wz : World, Below w.heap.size w wz → wz.cell? ⟨g0, j, none⟩ = some (.string x) ∧
      Calls Tryz.prog 23 #[.slice na' nl' nc', .string x] wz fun e w' => e = .returned (.int .i64 j) ∧ Below wz.heap.size wz w')
    (hnc : n ≤ nc) :
    Calls Tryz.prog 9 #[.agg #[.int .u8 123, .string t, .slice na n nc, .slice ka n kc], .agg #[.int .u8 123, .string t', .slice na' nl' nc', .slice ka' n kc']] w fun e w' => e = .returned (.bool true) ∧ Below w.heap.size w w' := by
  obtain ⟨w2, hw2⟩ : ∃ w2, (w.alloc (.cells #[.int .u8 123, .string t, .slice na n nc, .slice ka n kc] 25)).alloc (.cells #[.int .u8 123, .string t', .slice na' nl' nc', .slice ka' n kc'] 25) = w2 := ⟨_, rfl⟩
  have N1 : NodeB w2 w.heap.size 123 t (.slice na n nc) (.slice ka n kc) := by
    rw [← hw2]
    exact NodeB.other (w := w.alloc (.cells #[.int .u8 123, .string t, .slice na n nc, .slice ka n kc] 25)) ⟨_, heap_alloc_new w _⟩ (Below.heap_alloc _ _ _ (by simp))
  have N2 : NodeB w2 (w.heap.size + 1) 123 t' (.slice na' nl' nc') (.slice ka' n kc') := by
    rw [← hw2]
    have := heap_alloc_new (w.alloc (.cells #[.int .u8 123, .string t, .slice na n nc, .slice ka n kc] 25)) (.cells #[.int .u8 123, .string t', .slice na' nl' nc', .slice ka' n kc'] 25)
    exact ⟨_, by simpa using this⟩
  have b0 : Below w.heap.size w w2 := by rw [← hw2]; exact bwY2 (bwY w _) (bwY _ _)
  have HN : Hid (∀ wx, Below w2.heap.size w2 wx → NodeB wx w.heap.size 123 t (.slice na n nc) (.slice ka n kc) ∧ NodeB wx (w.heap.size + 1) 123 t' (.slice na' nl' nc') (.slice ka' n kc')) := Lib.hid fun wx hb => ⟨N1.bel hb, N2.bel hb⟩
  obtain ⟨c0, c1, c2, c3, -, -, -, -⟩ := N1.cells
  obtain ⟨e0, e1, e2, e3, -, -, -, -⟩ := N2.cells
  have hnI := hn
  have hkI : (n : Int) ≤ (kc : Int) := by omega
  have hkI' : (n : Int) ≤ (kc' : Int) := by omega
  have hcI : (n : Int) ≤ (nc : Int) := by omega
  have HK := Lib.hid hK
  have HM := Lib.hid hN
  clear hK hN
  clear N1 N2
  go_enter Tryz.func9, Tryz.ntmps9
  go_wp2_with fail
  clear c0 c1 c2 c3 e0 e1 e2 e3
  go_loopg [78] n (fun g c wr => ∃ j : Nat, c = .int .i64 j ∧ j ≤ n ∧ n - j ≤ g ∧ Below w2.heap.size w2 wr)
  case atStart => exact ⟨0, rfl, Nat.zero_le _, by omega, Below.refl _ _⟩
  case round =>
    obtain ⟨j, rfl, hj, hg, hb⟩ := hrel
    by_cases hlt : j < n
    case neg =>
      have hjI : (n : Int) ≤ (j : Int) := by omega
      clear hlt
      go_wp2_with fail
      all_goals go_ret
      exact ⟨rfl, bwY2 b0 hb⟩
    have hjI : (j : Int) < (n : Int) := by omega
    have hj0 : (0 : Int) ≤ (j : Int) := by omega
    obtain ⟨g1, g2, k2, t2, t3, na2, na3, ka2, ka3, nl2, nl3, nc2, nc3, kl2, kl3, kc2, kc3, rfl, rfl, hW⟩ := HK.out j hlt
    obtain ⟨g0, x, rfl, hX⟩ := HM.out j hlt
    obtain ⟨x0, hF⟩ := hX wr (bwY2 b0 hb)
    have HW := Lib.hid hW
    clear hW HK HM hX
    obtain ⟨-, M2⟩ := HN.out _ hb
    obtain ⟨e0, e1, e2, e3, -, -, -, -⟩ := M2.cells
    go_upto_region 23 with (go_at_call 23; refine hF.mono ?_; rintro e w4 ⟨rfl, hb4⟩)
    clear x0 e0 e1 e2 e3 M2
    have hba := bwY2 hb hb4
    have hbd : Below w2.heap.size w2 w4.drew := ⟨hba.os, hba.tape, hba.output, hba.size, hba.block⟩
    obtain ⟨M1, M2⟩ := HN.out _ hbd
    obtain ⟨c0, c1, c2, c3, -, -, -, -⟩ := M1.cells
    obtain ⟨e0, e1, e2, e3, -, -, -, -⟩ := M2.cells
    obtain ⟨⟨y0, y1, y2, y3⟩, ⟨z0, z1, z2, z3⟩, hA⟩ := HW.out w4.drew (bwY2 b0 hbd)
    go_still_tail 13, (by kernel_rfl)
    change wpList _ _ _ _ _ w4.drew
    generalize w4.drew = wd at hbd hA c0 c1 c2 c3 e0 e1 e2 e3 z0 z1 z2 z3 y0 y1 y2 y3 ⊢
    go_wp2_with (go_at_call 9; refine hA.mono ?_; rintro e w5 ⟨rfl, hb5⟩)
    go_roundg (gk - 1)
    case measure => omega
    case rel => exact ⟨j + 1, by go_num, by omega, by omega, bwY2 hbd hb5⟩
end
section
/- (Qc) Alike over two trees that mean the same. -/
open Go.RowKit

mutual
def dpN : Nd → Nat
  | .mk _ _ _ ks => 1 + dpL ks
def dpL : List Nd → Nat
  | [] => 0
  | n :: ks => dpN n + dpL ks
end
theorem dpL_get : ∀ (ks : List Nd) (i : Nat) (h : i < ks.length), dpN ks[i] ≤ dpL ks
  | n :: ks, 0, _ => by simp [dpL]
  | n :: ks, i + 1, h => by
    have := dpL_get ks i (by simpa using h)
    rw [dpL]
    simp only [List.getElem_cons_succ]
    omega
theorem ndm_form {w : World} {P : Nat → Prop} {n : Nd} {v : List Value} (h : NdM w P n v) : ∃ (k : Int) (t : ByteArray) (na : Option Addr) (nl nc : Nat) (ka : Option Addr) (kl kc : Nat), v = [.int .u8 k, .string t, .slice na nl nc, .slice ka kl kc] := by
  cases n with
  | mk k t ns ks =>
    rw [NdM] at h
    obtain ⟨nm, kd, ys, hF, hK⟩ := h
    obtain ⟨a1, c1, e1⟩ := own_slice hF.o1
    obtain ⟨a2, c2, e2⟩ := own_slice hF.o2
    exact ⟨k, t, a1, _, c1, a2, _, c2, by rw [hF.vs, e1, e2]⟩
theorem kid_of {w : World} {P : Nat → Prop} {ks : List Nd} {ys : List Value} (hK : KdM w P ks ys) (i : Nat) (hi : i < ks.length) :
    ∃ (k : Int) (t : ByteArray) (na : Option Addr) (nl nc : Nat) (ka : Option Addr) (kl kc : Nat), NdM w P ks[i] [.int .u8 k, .string t, .slice na nl nc, .slice ka kl kc] ∧
      ys[i * 4]? = some (.int .u8 k) ∧ ys[i * 4 + 1]? = some (.string t) ∧ ys[i * 4 + 2]? = some (.slice na nl nc) ∧ ys[i * 4 + 3]? = some (.slice ka kl kc) := by
  obtain ⟨a, a1, a2, a3⟩ := hK.at ks ys i hi
  obtain ⟨k, t, na, nl, nc, ka, kl, kc, rfl⟩ := ndm_form a2
  refine ⟨k, t, na, nl, nc, ka, kl, kc, a2, ?_, ?_, ?_, ?_⟩
  · have := a3 0 (by decide); rw [Nat.mul_comm] at this; simpa using this
  · have := a3 1 (by decide); rw [Nat.mul_comm] at this; simpa using this
  · have := a3 2 (by decide); rw [Nat.mul_comm] at this; simpa using this
  · have := a3 3 (by decide); rw [Nat.mul_comm] at this; simpa using this
theorem LkK.len {M : Nat} : ∀ (ks ks' : List Nd), LkK M ks ks' → ks'.length = ks.length
  | [], l, h => by rw [LkK] at h; subst h; rfl
  | n :: ks, l, h => by
    rw [LkK] at h
    obtain ⟨n', r, rfl, h1, h2⟩ := h
    simp [LkK.len ks r h2]
theorem LkK.get {M : Nat} : ∀ (ks ks' : List Nd), LkK M ks ks' → ∀ (i : Nat) (h : i < ks.length) (h' : i < ks'.length), LkN M ks[i] ks'[i]
  | n :: ks, l, hl, i, h, h' => by
    rw [LkK] at hl
    obtain ⟨n', r, rfl, h1, h2⟩ := hl
    cases i with
    | zero => exact h1
    | succ i => exact LkK.get ks r h2 i (by simpa using h) (by simpa using h')
theorem Fn.len {M : Nat} : ∀ (ns ns' : List ByteArray), Fn M ns ns' → ns'.length = ns.length
  | [], l, h => by rw [Fn] at h; subst h; rfl
  | n :: ks, l, h => by
    obtain ⟨n', r, rfl, h1, h2⟩ := h
    simp [Fn.len ks r h2]
theorem Fn.get {M : Nat} : ∀ (ns ns' : List ByteArray), Fn M ns ns' → ∀ (i : Nat) (h : i < ns.length) (h' : i < ns'.length), SmS M ns[i] ns'[i]
  | n :: ks, l, hl, i, h, h' => by
    obtain ⟨n', r, rfl, h1, h2⟩ := hl
    cases i with
    | zero => exact h1
    | succ i => exact Fn.get ks r h2 i (by simpa using h) (by simpa using h')
theorem SmS.nq {M : Nat} (hM : M ≤ 2500000000) {t t' : ByteArray} (h : SmS M t t') : NqS (.string t) ∧ NqS (.string t') := by
  obtain ⟨X, h1, h2, h3, h4⟩ := h
  exact ⟨⟨t, X, rfl, h1, by omega⟩, ⟨t', X, rfl, h2, by omega⟩⟩
theorem Pw.ne {ns : List ByteArray} (h : Pw ns) {i j : Nat} (hi : i < ns.length) (hj : j < ns.length) (hne : i ≠ j) : decF ns[i] ≠ decF ns[j] := by
  unfold Pw at h
  rw [List.pairwise_iff_getElem] at h
  rcases Nat.lt_or_gt_of_ne hne with hl | hl
  · exact h i j hi hj hl
  · exact fun e => h j i hj hi hl e.symm
theorem own_len2 {w : World} {B : Nat} {e : TypeId} {sz n : Nat} {ka : Option Addr} {kc : Nat} {xs : List Value} (h : w.ownsRow B e sz (.slice ka n kc) n xs) : n ≤ kc ∧ kc ≤ 9223372036854775807 := by
  rcases h.2 with ⟨e1, e2⟩ | ⟨g, cap, cur, e1, _⟩
  · injection e1 with _ e3 e4
    omega
  · injection e1 with e2 _ e4
    subst e2 e4
    have := own_len h
    omega
/-- Numbers of the same text are the same. -/
def SnK (M : Nat) : Prop := ∀ (t : ByteArray) (w : World), t.size ≤ M → Calls Tryz.prog 21 #[.string t, .string t] w fun e w' => e = .returned (.bool true) ∧ Below w.heap.size w w'
def AlkQ (M m : Nat) : Prop := ∀ (a b : Nd) (P Q : Nat → Prop) (k : Int) (t : ByteArray) (na : Option Addr) (nl nc : Nat) (ka : Option Addr) (kl kc : Nat) (k' : Int) (t' : ByteArray) (na' : Option Addr) (nl' nc' : Nat) (ka' : Option Addr) (kl' kc' : Nat) (w : World),
  dpN a ≤ m → NdM w P a [.int .u8 k, .string t, .slice na nl nc, .slice ka kl kc] → NdM w Q b [.int .u8 k', .string t', .slice na' nl' nc', .slice ka' kl' kc'] → (∀ g, P g → g < w.heap.size) → (∀ g, Q g → g < w.heap.size) → LkN M a b →
  Calls Tryz.prog 9 #[.agg #[.int .u8 k, .string t, .slice na nl nc, .slice ka kl kc], .agg #[.int .u8 k', .string t', .slice na' nl' nc', .slice ka' kl' kc']] w fun e w' => e = .returned (.bool true) ∧ Below w.heap.size w w'
theorem kids_alike {M m : Nat} (ih : AlkQ M m) {ks ks' : List Nd} {P Q : Nat → Prop} {ka ka' : Option Addr} {n kc kc' : Nat} {ys ys' : List Value} {w : World} (hd : dpL ks ≤ m) (hn : ks.length = n)
    (o2 : w.ownsRow 0 25 4 (.slice ka n kc) n ys) (o2' : w.ownsRow 0 25 4 (.slice ka' n kc') n ys') (hK : KdM w P ks ys) (hK' : KdM w Q ks' ys') (hP : ∀ g, P g → g < w.heap.size) (hQ : ∀ g, Q g → g < w.heap.size) (hL : LkK M ks ks') :
    ∀ j, j < n → ∃ (g1 g2 : Nat) (k2 : Int) (t2 t3 : ByteArray) (na2 na3 ka2 ka3 : Option Addr) (nl2 nl3 nc2 nc3 kl2 kl3 kc2 kc3 : Nat), ka = some ⟨g1, 0, none⟩ ∧ ka' = some ⟨g2, 0, none⟩ ∧ ∀ wz : World, Below w.heap.size w wz →
      (wz.cell? ⟨g1, j * 4, none⟩ = some (.int .u8 k2) ∧ wz.cell? ⟨g1, j * 4 + 1, none⟩ = some (.string t2) ∧ wz.cell? ⟨g1, j * 4 + 2, none⟩ = some (.slice na2 nl2 nc2) ∧ wz.cell? ⟨g1, j * 4 + 3, none⟩ = some (.slice ka2 kl2 kc2)) ∧
      (wz.cell? ⟨g2, j * 4, none⟩ = some (.int .u8 k2) ∧ wz.cell? ⟨g2, j * 4 + 1, none⟩ = some (.string t3) ∧ wz.cell? ⟨g2, j * 4 + 2, none⟩ = some (.slice na3 nl3 nc3) ∧ wz.cell? ⟨g2, j * 4 + 3, none⟩ = some (.slice ka3 kl3 kc3)) ∧
      Calls Tryz.prog 9 #[.agg #[.int .u8 k2, .string t2, .slice na2 nl2 nc2, .slice ka2 kl2 kc2], .agg #[.int .u8 k2, .string t3, .slice na3 nl3 nc3, .slice ka3 kl3 kc3]] wz fun e w' => e = .returned (.bool true) ∧ Below wz.heap.size wz w' := by
  intro j hj
  have hl := hL.len
  obtain ⟨g1, c1, e1⟩ := own_some o2 (by omega)
  obtain ⟨g2, c2, e2⟩ := own_some o2' (by omega)
  injection e1 with e1 _ _
  injection e2 with e2 _ _
  subst e1 e2
  obtain ⟨k2, t2, na2, nl2, nc2, ka2, kl2, kc2, hM2, y0, y1, y2, y3⟩ := kid_of hK j (by omega)
  obtain ⟨k3, t3, na3, nl3, nc3, ka3, kl3, kc3, hM3, z0, z1, z2, z3⟩ := kid_of hK' j (by omega)
  have hLk := hL.get _ _ j (by omega) (by omega)
  have hkk : k3 = k2 := by
    generalize ks[j]'(by omega) = a at hM2 hLk
    generalize ks'[j]'(by omega) = b at hM3 hLk
    cases a with
    | mk ak at_ ans aks =>
      cases b with
      | mk bk bt bns bks =>
        rw [LkN] at hLk
        rw [NdM] at hM2 hM3
        obtain ⟨_, _, _, f1, _⟩ := hM2
        obtain ⟨_, _, _, f2, _⟩ := hM3
        have v1 := f1.vs
        have v2 := f2.vs
        simp only [List.cons.injEq, Value.int.injEq, true_and] at v1 v2
        rw [v1.1, v2.1]
        exact hLk.1
  subst hkk
  have hyl := o2.1
  have hzl := o2'.1
  refine ⟨g1, g2, k3, t2, t3, na2, na3, ka2, ka3, nl2, nl3, nc2, nc3, kl2, kl3, kc2, kc3, rfl, rfl, fun wz hb => ⟨?_, ?_, ?_⟩⟩
  · have hr := own_bel o2 (Nat.le_refl _) hb
    exact ⟨by rw [World.ownsRow.cellAt hr _ (by omega)]; exact y0, by rw [World.ownsRow.cellAt hr _ (by omega)]; exact y1, by rw [World.ownsRow.cellAt hr _ (by omega)]; exact y2, by rw [World.ownsRow.cellAt hr _ (by omega)]; exact y3⟩
  · have hr := own_bel o2' (Nat.le_refl _) hb
    exact ⟨by rw [World.ownsRow.cellAt hr _ (by omega)]; exact z0, by rw [World.ownsRow.cellAt hr _ (by omega)]; exact z1, by rw [World.ownsRow.cellAt hr _ (by omega)]; exact z2, by rw [World.ownsRow.cellAt hr _ (by omega)]; exact z3⟩
  · exact ih _ _ P Q _ _ _ _ _ _ _ _ _ _ _ _ _ _ _ _ wz (Nat.le_trans (dpL_get ks j (by omega)) hd) (NdM.keep (w := w) (P := P) (fun g hg => ⟨hg, hb.block g (hP g hg)⟩) _ _ hM2) (NdM.keep (w := w) (P := Q) (fun g hg => ⟨hg, hb.block g (hQ g hg)⟩) _ _ hM3)
      (fun g hg => by have := hP g hg; have := hb.size; omega) (fun g hg => by have := hQ g hg; have := hb.size; omega) hLk
/-- Two trees that mean the same: Alike says so. -/
theorem alike_all {M : Nat} (hM : M ≤ 2500000000) (hS : SnK M) : ∀ m : Nat, AlkQ M m
  | 0 => fun a b P Q k t na nl nc ka kl kc k' t' na' nl' nc' ka' kl' kc' w hm => by cases a; rw [dpN] at hm; omega
  | m + 1 => fun a b P Q k t na nl nc ka kl kc k' t' na' nl' nc' ka' kl' kc' w hm hA hB hP hQ hL => by
    cases a with
    | mk ak at_ ns ks =>
      cases b with
      | mk bk bt ns' ks' =>
        rw [NdM] at hA hB
        obtain ⟨nm, kd, ys, hF, hK⟩ := hA
        obtain ⟨nm', kd', ys', hF', hK'⟩ := hB
        obtain ⟨vs, o1, p1, o2, p2⟩ := hF
        obtain ⟨vs', o1', p1', o2', p2'⟩ := hF'
        simp only [List.cons.injEq, Value.int.injEq, Value.string.injEq, true_and, and_true] at vs vs'
        obtain ⟨rfl, rfl, rfl, rfl⟩ := vs
        obtain ⟨rfl, rfl, rfl, rfl⟩ := vs'
        rw [LkN] at hL
        obtain ⟨rfl, l48, l34, l123, lK⟩ := hL
        rw [dpN] at hm
        have q1 : nl = ns.length := by
          obtain ⟨ao, cp, e⟩ := own_slice o1
          injection e with _ e _
        have q2 : kl = ks.length := by
          obtain ⟨ao, cp, e⟩ := own_slice o2
          injection e with _ e _
        have q1' : nl' = ns'.length := by
          obtain ⟨ao, cp, e⟩ := own_slice o1'
          injection e with _ e _
        have q2' : kl' = ks'.length := by
          obtain ⟨ao, cp, e⟩ := own_slice o2'
          injection e with _ e _
        subst q1 q2 q1' q2'
        have hlen := lK.len
        rw [hlen] at o2' ⊢
        obtain ⟨u1, u2⟩ := own_len2 o2
        obtain ⟨u1', u2'⟩ := own_len2 o2'
        have hnI : (ks.length : Int) ≤ 9223372036854775807 := by omega
        by_cases h123 : k' = 123
        · subst h123
          obtain ⟨lF, lL, lP⟩ := l123 rfl
          have hfl := lF.len
          rw [← lL] at o1 ⊢
          obtain ⟨x1, x2⟩ := own_len2 o1
          refine alk_obj t t' na na' ka ka' _ nc nc' _ kc kc' w hnI u1 u1' (kids_alike (alike_all hM hS m) (by omega) rfl o2 o2' hK hK' hP hQ lK) (fun j hj => ?_) x1
          obtain ⟨g0, c0, e0⟩ := own_some o1 (by omega)
          injection e0 with e0 _ _
          subst e0
          have hjn : j < ns.length := by omega
          have hjn' : j < ns'.length := by omega
          refine ⟨g0, ns[j], rfl, fun wz hb => ⟨?_, ?_⟩⟩
          · have hr := own_bel o1 (Nat.le_refl _) hb
            rw [World.ownsRow.cellAt hr j (by simp [nmv]; omega)]
            simp [nmv, List.getElem?_eq_getElem hjn]
          · have hr := own_bel o1' (Nat.le_refl _) hb
            have hsm := lF.get _ _ j hjn hjn'
            refine find_at ns' ns[j] na' _ nc' j wz hr (fun y hy => ?_) (hsm.nq hM).1 hjn' hsm.dec (fun i hi hij => ?_)
            · obtain ⟨i, hi, rfl⟩ := List.getElem_of_mem hy
              exact ((lF.get _ _ i (by omega) hi).nq hM).2
            · rw [(lF.get _ _ i (by omega) hi).dec]
              exact lP.ne (by omega) hjn (by omega)
        by_cases h91 : k' = 91
        · subst h91
          exact alk_arr t t' na na' ka ka' _ _ nc nc' _ kc kc' w hnI u1 u1' (kids_alike (alike_all hM hS m) (by omega) rfl o2 o2' hK hK' hP hQ lK)
        by_cases h48 : k' = 48
        · subst h48
          obtain ⟨rfl, hz⟩ := l48 rfl
          exact alk_num _ _ na na' ka ka' _ _ nc nc' _ kc kc' w fun w => hS _ w hz
        by_cases h34 : k' = 34
        · subst h34
          have hsm := l34 rfl
          obtain ⟨X, s1, s2, s3, s4⟩ := hsm
          exact alk_str _ _ na na' ka ka' _ _ nc nc' _ kc kc' w (txt X) (fun w => decode_str s1 (by omega) w) (fun w => decode_str s2 (by omega) w)
        exact alk_lit k' _ _ na na' ka ka' _ _ nc nc' _ kc kc' w h48 h34 h91 h123
end
end Go.Proofs.YtjbffgjclnjkoaaGreatDoor
