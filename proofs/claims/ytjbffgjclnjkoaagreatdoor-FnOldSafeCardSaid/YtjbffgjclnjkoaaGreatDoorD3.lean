/- The reader of the reference with content, by strict names (mkd.py): names, objects, values, Parse. -/
import Derived.Test.YtjbffgjclnjkoaaGreatDoorWm
import Derived.Test.YtjbffgjclnjkoaaGreatDoorD2
import Derived.Test.YtjbffgjclnjkoaaGreatDoorWq
import Derived.Deep.DeepCutAuto
import Derived.Test.YtjbffgjclnjkoaaGreatDoorWv
import Derived.Test.YtjbffgjclnjkoaaGreatDoorPs
import Derived.RegionTactic
import Derived.BigRegion
import Derived.ChangeAlike
namespace Go.Proofs.YtjbffgjclnjkoaaGreatDoor
set_option linter.unusedVariables false
set_option linter.unusedSimpArgs false
section
/- (Cm) The reader of the reference, with content: name. Lines by program (mkc.py). -/
open Go.RowKit

theorem St.fail_ne0 (σ : St) {k : Int} (hk : k ≠ 0) : (σ.fail k).fault ≠ 0 := by
  unfold St.fail
  split
  · exact hk
  · assumption
theorem nm_bad {X : Int} (h : true = ((X != 34) && St.badName X)) : X ≠ 34 ∧ St.badName X = true := by
  have h' := h.symm
  simpa using h'
theorem nm_ok {X : Int} (h : false = ((X != 34) && St.badName X)) : X = 34 ∨ St.badName X = false := by
  by_cases hx : X = 34
  · exact .inl hx
  · refine .inr ?_
    have : (X != 34) = true := by simpa using hx
    rw [this] at h
    simpa using h.symm
set_option maxRecDepth 100000 in
set_option maxHeartbeats 4000000 in
theorem name_cn (Nq : Value → Prop) (b n B : Nat) (s : ByteArray) (tw lo : Bool) (σ : St) (w0 w : World) (k0 : Int) (t0 : ByteArray) (ns : List ByteArray) (ks : List Nd) (L : Nat) (h : RC Nq b n B σ.at_ s tw lo σ w0 k0 t0 ns ks L w) (hs : s.size ≤ 2147483647) (ha : σ.at_ ≤ s.size)
    (hQ : ∀ σ σ', St.quoted s lo σ = (true, σ') → Nq (.string (s.extract σ.at_ (σ'.at_ + 1)))) (hag : tw = false → AgX Nq b B s lo) :
    Calls Tryz.prog 53 #[.pointer (some ⟨b, 0, none⟩), .pointer (some ⟨n, 0, none⟩)] w fun e w' => ∃ (r : Bool) (σ' : St) (M : Nat) (ns' : List ByteArray) (L' : Nat), e = .returned (.bool r) ∧ RC Nq b n B M s tw lo σ' w0 k0 t0 ns' ks L' w' ∧ σ.at_ ≤ σ'.at_ ∧ σ'.at_ ≤ s.size ∧ (r = true → M ≤ σ'.at_) ∧ RdN s tw lo (.name ns) σ r σ' ∧ (r = true → ∃ t, CnN s tw lo (.name ns) σ σ' [t] [] ∧ ns' = ns ++ [t]) := by
  have hsm : s.size ≤ maxLen := by unfold maxLen; omega
  go_enter Tryz.func53, Tryz.ntmps53
  go_upto_region 2 with (go_at_call 29; refine (see_ex b s tw lo σ _ h.r hsm ha).mono ?_; rintro e w2 ⟨X, rfl, hR2, hM2, hX, hbX⟩; have h2 := h.mv hR2 hM2 (Nat.le_refl _))
  go_cut [42] from 9 to 41 (fun v wx => ∃ q : Bool, v = .bool q ∧ wx = w2 ∧ q = ((X != 34) && St.badName X))
  case first =>
    clear hX
    cases e34 : (X != 34)
    case false => go_wp2_with fail; go_meet; exact ⟨_, rfl, rfl, by rw [e34]; rfl⟩
    cases e123 : (X == 123)
    case true => go_wp2_with fail; go_meet; exact ⟨_, rfl, rfl, by simp [St.badName, e34, e123]⟩
    cases e91 : (X == 91)
    case true => go_wp2_with fail; go_meet; exact ⟨_, rfl, rfl, by simp [St.badName, e34, e91]⟩
    cases e45 : (X == 45)
    case true => go_wp2_with fail; go_meet; exact ⟨_, rfl, rfl, by simp [St.badName, e34, e45]⟩
    have tail : ∀ q : Bool, q = q := fun _ => rfl
    by_cases h48 : 48 ≤ X
    · by_cases h57 : X ≤ 57
      · go_wp2_with fail
        go_meet
        exact ⟨_, rfl, rfl, by simp [St.badName, e34, h48, h57]⟩
      · have h57' : 57 < X := by omega
        have h57n := Lib.hid (show decide (X ≤ 57) = false from decide_eq_false (by omega))
        clear h57
        cases e110 : (X == 110)
        case true => go_wp2_with fail; go_meet; exact ⟨_, rfl, rfl, by simp [St.badName, e34, e110]⟩
        cases e116 : (X == 116)
        case true => go_wp2_with fail; go_meet; exact ⟨_, rfl, rfl, by simp [St.badName, e34, e116]⟩
        cases e102 : (X == 102)
        all_goals (go_wp2_with fail; go_meet; exact ⟨_, rfl, rfl, by simp only [St.badName, e34, e123, e91, e45, e110, e116, e102, h57n.out]; simp⟩)
    · have h48' : X < 48 := by omega
      have h48n := Lib.hid (show decide (48 ≤ X) = false from decide_eq_false (by omega))
      clear h48
      cases e110 : (X == 110)
      case true => go_wp2_with fail; go_meet; exact ⟨_, rfl, rfl, by simp [St.badName, e34, e110]⟩
      cases e116 : (X == 116)
      case true => go_wp2_with fail; go_meet; exact ⟨_, rfl, rfl, by simp [St.badName, e34, e116]⟩
      cases e102 : (X == 102)
      all_goals (go_wp2_with fail; go_meet; exact ⟨_, rfl, rfl, by simp only [St.badName, e34, e123, e91, e45, e110, e116, e102, h48n.out]; simp⟩)
  case rest =>
  obtain ⟨q, rfl, rfl, hqv⟩ := hcut
  have HQv := Lib.hid hqv
  clear hqv
  cases q
  case true =>
    go_wp2_with (go_at_call 16; refine (fail_any b s tw lo σ _ _ hR2).mono ?_; rintro e w3 ⟨rfl, hR3, hM3⟩)
    all_goals go_ret
    exact ⟨_, _, _, _, _, rfl, h2.mv hR3 hM3 (Nat.le_refl _), by rw [St.fail_at]; exact Nat.le_refl _, by rw [St.fail_at]; exact ha, fun h => (by cases h), .nameK (by rw [hbX.out]; exact (nm_bad HQv.out).1) (St.fail_ne0 _ (by decide)), fun h => (by cases h)⟩
  obtain ⟨c0, c1, c2, c3, c4, c5, f1, f4, f5⟩ := hR2.cells
  obtain ⟨r1, σ1, H1⟩ := named (St.quoted s lo σ)
  have hle := St.quoted_le (s := s) lo ha
  have hqe := quoted_end (s := s) lo (σ := σ)
  have hq := fun w' hR => quoted_any b s tw lo σ w' hR hsm ha
  rw [H1.out] at hle hq hqe
  dsimp only at hle hq hqe
  obtain ⟨hl1, hl2⟩ := hle
  cases r1
  case false =>
    have HN := Lib.hid (show RdN s tw lo (.name ns) σ false σ1 from .nameQ H1.out)
    clear hqe H1 hX
    go_wp2_with (go_at_call 56; refine (hq _ hR2).mono ?_; rintro e w3 ⟨rfl, hR3, hM3⟩)
    all_goals go_ret
    exact ⟨_, σ1, _, _, _, rfl, h2.mv hR3 hM3 (Nat.le_refl _), hl1, hl2, fun h => (by cases h), HN.out, fun h => (by cases h)⟩
  obtain ⟨hlt, hb34⟩ := hqe rfl
  have hSB := hQ σ σ1 H1.out
  obtain ⟨SB, hSBe⟩ : ∃ SB, s.extract σ.at_ (σ1.at_ + 1) = SB := ⟨_, rfl⟩
  rw [hSBe] at hSB
  have HSB := Lib.hid hSBe
  clear hqe hX hb34 hSBe hQ
  go_upto_region 7 with (go_at_call 56; refine (hq _ hR2).mono ?_; rintro e w3 ⟨rfl, hR3, hM3⟩; have h3 := h2.mv hR3 hM3 (Nat.le_refl _))
  clear hq c0 c1 c2 c3 c4 c5 f1 f4 f5
  have hfr : (σ.at_ : Int) ≤ (σ1.at_ : Int) + 1 := by omega
  have hto : (σ1.at_ : Int) + 1 ≤ (s.size : Int) := by omega
  go_cut [] from 52 to 71 (fun wx => ∃ (nm kd : Value) (m1 m2 : Nat) (xs ys : List Value), KB b n B s tw lo σ1 w0 k0 t0 nm kd nm kd m1 m2 xs ys wx ∧ 0 < m1 ∧ m1 ≤ σ.at_ + 1 ∧ m2 ≤ σ.at_ + 1 ∧ (∀ x ∈ xs, Nq x) ∧ Cont wx B nm kd xs ys (ns ++ [SB]) ks)
  case first =>
    obtain ⟨nm, kd, m1, m2, xs, ys, hK, e1, e2, e3, C3, hL1, hL2⟩ := h3
    obtain ⟨ao, cp, rfl⟩ := own_slice hK.o1
    have K5 := hK.drew
    have C5 := C3.keep (w' := w3.drew) (Nat.le_refl _) (fun _ _ _ _ _ => rfl)
    clear hK h2 h hR2 hR3 hM2 hM3 C3 hL1 hL2
    refine wp_region_any (by kernel_rfl) ?_
    try (change wpAny _ _ _ _ _ _ _ (World.drew _))
    generalize w3.drew = w5 at K5 C5 ⊢
    have K6 := K5.alloc (.cells #[.string SB] 9)
    have HN : ∀ (j : Nat) (u : Value), ([.string SB] : List Value)[j]? = some u → (w5.alloc (.cells #[.string SB] 9)).cell? ((⟨w5.heap.size, 0, none⟩ : Addr).add j) = some u := by
      intro j u hu
      have := heap_alloc_new w5 (.cells #[.string SB] 9)
      rw [show ((⟨w5.heap.size, 0, none⟩ : Addr).add j) = ⟨w5.heap.size, j, none⟩ from by unfold Addr.add; split <;> simp_all]
      simp only [World.cell?, this]
      simpa using hu
    have HW : Hid (IntKind.i64.wrap ((σ1.at_ : Int) + 1) = (σ1.at_ : Int) + 1) := Lib.hid (by unfold IntKind.wrap; simp [IntKind.signed, IntKind.bits]; omega)
    obtain ⟨i0, hi0, hz⟩ := Option.map_eq_some_iff.1 infoS
    obtain ⟨hz0, hz1, hz2⟩ : i0.zero = some (.string ⟨#[]⟩) ∧ i0.size = 1 ∧ i0.bytes = 16 := by injection hz with x y; injection y with y z; exact ⟨x, y, z⟩
    clear hz
    obtain ⟨a0, a1, a2, a3, fa0, fa1, fa2, fa3⟩ := K5.node.cells
    obtain ⟨b0, b1, b2, b3, b4, b5, g1, g4, g5⟩ := K5.r.cells
    obtain ⟨c0, c1, c2, c3, fc0, fc1, fc2, fc3⟩ := K6.node.cells
    obtain ⟨d0, d1, d2, d3, d4, d5, h1, h4, h5⟩ := K6.r.cells
    -- orders
    refine wpAny_take (i := 0) (v := ?_) rfl (by kernel_rfl) (by kernel_rfl) (by kernel_rfl) (fun _ _ _ h => h) (Or.inl ⟨by rfl, ?_⟩) ?_
    rotate_left
    · intro wx; go_simp; try with_reducible rfl
    rotate_left
    refine wpAny_take (i := 1) (v := ?_) rfl (by kernel_rfl) (by kernel_rfl) (by kernel_rfl) (fun _ _ _ h => h) (Or.inl ⟨by rfl, ?_⟩) ?_
    rotate_left
    · intro wx; go_simp; try with_reducible rfl
    rotate_left
    refine wpAny_take (i := 2) (v := ?_) rfl (by kernel_rfl) (by kernel_rfl) (by kernel_rfl) (fun _ _ _ h => h) (Or.inl ⟨by rfl, ?_⟩) ?_
    rotate_left
    · intro wx; go_simp; try with_reducible rfl
    rotate_left
    refine wpAny_take (i := 3) (v := ?_) rfl (by kernel_rfl) (by kernel_rfl) (by kernel_rfl) (fun _ _ _ h => h) (Or.inl ⟨by rfl, ?_⟩) ?_
    rotate_left
    · intro wx; go_simp; try with_reducible rfl
    rotate_left
    refine wpAny_take (i := 5) (v := ?_) rfl (by kernel_rfl) (by kernel_rfl) (by kernel_rfl) (fun _ _ _ h => h) (Or.inl ⟨by rfl, ?_⟩) ?_
    rotate_left
    · intro wx; go_simp; try with_reducible rfl
    rotate_left
    refine wpAny_take (i := 6) (v := ?_) rfl (by kernel_rfl) (by kernel_rfl) (by kernel_rfl) (fun _ _ _ h => h) (Or.inl ⟨by rfl, ?_⟩) ?_
    rotate_left
    · intro wx; go_simp; try with_reducible rfl
    rotate_left
    refine wpAny_take (i := 7) (v := ?_) rfl (by kernel_rfl) (by kernel_rfl) (by kernel_rfl) (fun _ _ _ h => h) (Or.inl ⟨by rfl, ?_⟩) ?_
    rotate_left
    · intro wx; go_simp; try with_reducible rfl
    rotate_left
    refine wpAny_take (i := 9) (v := ?_) rfl (by kernel_rfl) (by kernel_rfl) (by kernel_rfl) (fun _ _ _ h => h) (Or.inl ⟨by rfl, ?_⟩) ?_
    rotate_left
    · intro wx; go_simp; try with_reducible rfl
    rotate_left
    refine wpAny_take (i := 10) (v := ?_) rfl (by kernel_rfl) (by kernel_rfl) (by kernel_rfl) (fun _ _ _ h => h) (Or.inl ⟨by rfl, ?_⟩) ?_
    rotate_left
    · intro wx; go_simp; try with_reducible rfl
    rotate_left
    refine wpAny_take (i := 11) (v := ?_) rfl (by kernel_rfl) (by kernel_rfl) (by kernel_rfl) (fun _ _ _ h => h) (Or.inl ⟨by rfl, ?_⟩) ?_
    rotate_left
    · intro wx; go_simp; try with_reducible rfl
    rotate_left
    refine wpAny_take (i := 12) (v := ?_) rfl (by kernel_rfl) (by kernel_rfl) (by kernel_rfl) (fun _ _ _ h => h) (Or.inl ⟨by rfl, ?_⟩) ?_
    rotate_left
    · intro wx; go_simp; try with_reducible rfl
    rotate_left
    simp only [List.getElem_toArray, List.getElem_cons_succ, List.getElem_cons_zero, Act.put, List.setIfInBounds_toArray, List.set_cons_succ, List.set_cons_zero]
    refine wpAny_all (rs := [4, 8, 13]) (by kernel_rfl) (by decide) ?_
    intro i hi
    simp only [List.mem_cons, List.not_mem_nil, or_false] at hi
    rcases hi with rfl | rfl | rfl
    · refine wpOp_val (v := .slice ao m1 cp) (w' := w5) rfl (by rfl) (by go_simp) ?_
      refine wpAny_all (rs := [8, 13]) (by kernel_rfl) (by decide) ?_
      intro i hi
      simp only [List.mem_cons, List.not_mem_nil, or_false] at hi
      rcases hi with rfl | rfl
      · refine wpOp_val (v := .string s) (w' := w5) rfl (by rfl) (by go_simp) ?_
        refine wpAny_all (rs := [13]) (by kernel_rfl) (by decide) ?_
        intro i hi
        simp only [List.mem_cons, List.not_mem_nil, or_false] at hi
        subst hi
        refine wpOp_val (v := .int .i64 (σ1.at_ : Nat)) (w' := w5) rfl (by rfl) (by go_simp) ?_
        refine wpAny_take (i := 14) (v := .int .i64 ((σ1.at_ : Int) + 1)) rfl (by kernel_rfl) (by kernel_rfl) (by kernel_rfl) (fun _ _ _ h => h) (Or.inl ⟨by rfl, ?_⟩) ?_
        · intro wx; go_simp; rw [HW.out]
        simp only [List.getElem_toArray, List.getElem_cons_succ, List.getElem_cons_zero, Act.put, List.setIfInBounds_toArray, List.set_cons_succ, List.set_cons_zero]
        refine wpAny_take (i := 15) (v := .string SB) rfl (by kernel_rfl) (by kernel_rfl) (by kernel_rfl) (fun _ _ _ h => h) (Or.inl ⟨by rfl, ?_⟩) ?_
        · intro wx
          go_simp
          exact HSB.out
        refine wpAny_all (rs := [16]) (by kernel_rfl) (by decide) ?_
        intro i hi
        simp only [List.mem_cons, List.not_mem_nil, or_false] at hi
        subst hi
        refine wpOp_val (v := .slice (some ⟨w5.heap.size, 0, none⟩) 1 1) (w' := w5.alloc (.cells #[.string SB] 9)) rfl (by rfl) (by go_simp) ?_
        refine wpAny_all (rs := [17]) (by kernel_rfl) (by decide) ?_
        intro i hi
        simp only [List.mem_cons, List.not_mem_nil, or_false] at hi
        subst hi
        refine wpOp_of (i := 17) rfl (by rfl) ?_
        refine wp_append_lies _ (.tmp 56) (.tmp 68) 22 rfl B 9 i0 _ 1 16 Tryz.underlying22 hi0 hz0 hz1 hz2 rfl (by decide) (.slice ao m1 cp) m1 xs rfl K6.o1 ⟨w5.heap.size, 0, none⟩ 1 1 [.string SB] rfl rfl HN (by simp [Value.oneCell']) (by decide) (by unfold maxLen; omega) (by omega) K6.hB _ rfl ?_
        intro g cp' w7 ho hg hat hlt7
        have H7 := Lib.hid (kid_grown hg hat)
        have K7 := K6.appN ho hg
        obtain ⟨m0, m1', m2', m3, fm0, fm1, fm2, fm3⟩ := K7.node.cells
        simp only [List.getElem_toArray, List.getElem_cons_succ, List.getElem_cons_zero, Act.put, List.setIfInBounds_toArray, List.set_cons_succ, List.set_cons_zero]
        refine wpAny_take (i := 18) (v := ?_) rfl (by kernel_rfl) (by kernel_rfl) (by kernel_rfl) (fun _ _ _ h => h) (Or.inl ⟨by rfl, ?_⟩) ?_
        rotate_left
        · intro wx; go_simp; try with_reducible rfl
        rotate_left
        refine wpAny_take (i := 19) (v := ?_) rfl (by kernel_rfl) (by kernel_rfl) (by kernel_rfl) (fun _ _ _ h => h) (Or.inl ⟨by rfl, ?_⟩) ?_
        rotate_left
        · intro wx; go_simp; try with_reducible rfl
        rotate_left
        simp only [List.getElem_toArray, List.getElem_cons_succ, List.getElem_cons_zero, Act.put, List.setIfInBounds_toArray, List.set_cons_succ, List.set_cons_zero]
        refine wpAny_some [20] (by kernel_rfl) (by kernel_rfl) ?_
        simp only [List.filterMap_cons, List.filterMap_nil, List.getElem?_cons_succ, List.getElem?_cons_zero, List.getElem_toArray, List.getElem_cons_succ, List.getElem_cons_zero, Act.put, List.setIfInBounds_toArray, List.set_cons_succ, List.set_cons_zero]
        go_wp2_with fail
        go_meet
        refine ⟨_, kd, m1 + 1, m2, _, ys, K7.names _, by omega, by omega, by omega, fun x hx => ?_, C5.addN (by simpa [World.setCell] using H7.out.2.1) H7.out.2.2 (fun g' q1 q2 q3 q4 => (Below.heap_setCell _ _ _ _ (by have := K7.hn; simp; omega)).trans (H7.out.1 g' q2 q4)) SB⟩
        rcases List.mem_append.1 hx with h | h
        · exact e3 x h
        · obtain rfl : x = .string SB := by simpa using h
          exact hSB
      · refine wpOp_val (v := .int .i64 (σ1.at_ : Nat)) (w' := w5) rfl (by rfl) (by go_simp) ?_
        refine wpAny_take (i := 14) (v := .int .i64 ((σ1.at_ : Int) + 1)) rfl (by kernel_rfl) (by kernel_rfl) (by kernel_rfl) (fun _ _ _ h => h) (Or.inl ⟨by rfl, ?_⟩) ?_
        · intro wx; go_simp; rw [HW.out]
        refine wpAny_all (rs := [8]) (by kernel_rfl) (by decide) ?_
        intro i hi
        simp only [List.mem_cons, List.not_mem_nil, or_false] at hi
        subst hi
        refine wpOp_val (v := .string s) (w' := w5) rfl (by rfl) (by go_simp) ?_
        simp only [List.getElem_toArray, List.getElem_cons_succ, List.getElem_cons_zero, Act.put, List.setIfInBounds_toArray, List.set_cons_succ, List.set_cons_zero]
        refine wpAny_take (i := 15) (v := .string SB) rfl (by kernel_rfl) (by kernel_rfl) (by kernel_rfl) (fun _ _ _ h => h) (Or.inl ⟨by rfl, ?_⟩) ?_
        · intro wx
          go_simp
          exact HSB.out
        refine wpAny_all (rs := [16]) (by kernel_rfl) (by decide) ?_
        intro i hi
        simp only [List.mem_cons, List.not_mem_nil, or_false] at hi
        subst hi
        refine wpOp_val (v := .slice (some ⟨w5.heap.size, 0, none⟩) 1 1) (w' := w5.alloc (.cells #[.string SB] 9)) rfl (by rfl) (by go_simp) ?_
        refine wpAny_all (rs := [17]) (by kernel_rfl) (by decide) ?_
        intro i hi
        simp only [List.mem_cons, List.not_mem_nil, or_false] at hi
        subst hi
        refine wpOp_of (i := 17) rfl (by rfl) ?_
        refine wp_append_lies _ (.tmp 56) (.tmp 68) 22 rfl B 9 i0 _ 1 16 Tryz.underlying22 hi0 hz0 hz1 hz2 rfl (by decide) (.slice ao m1 cp) m1 xs rfl K6.o1 ⟨w5.heap.size, 0, none⟩ 1 1 [.string SB] rfl rfl HN (by simp [Value.oneCell']) (by decide) (by unfold maxLen; omega) (by omega) K6.hB _ rfl ?_
        intro g cp' w7 ho hg hat hlt7
        have H7 := Lib.hid (kid_grown hg hat)
        have K7 := K6.appN ho hg
        obtain ⟨m0, m1', m2', m3, fm0, fm1, fm2, fm3⟩ := K7.node.cells
        simp only [List.getElem_toArray, List.getElem_cons_succ, List.getElem_cons_zero, Act.put, List.setIfInBounds_toArray, List.set_cons_succ, List.set_cons_zero]
        refine wpAny_take (i := 18) (v := ?_) rfl (by kernel_rfl) (by kernel_rfl) (by kernel_rfl) (fun _ _ _ h => h) (Or.inl ⟨by rfl, ?_⟩) ?_
        rotate_left
        · intro wx; go_simp; try with_reducible rfl
        rotate_left
        refine wpAny_take (i := 19) (v := ?_) rfl (by kernel_rfl) (by kernel_rfl) (by kernel_rfl) (fun _ _ _ h => h) (Or.inl ⟨by rfl, ?_⟩) ?_
        rotate_left
        · intro wx; go_simp; try with_reducible rfl
        rotate_left
        simp only [List.getElem_toArray, List.getElem_cons_succ, List.getElem_cons_zero, Act.put, List.setIfInBounds_toArray, List.set_cons_succ, List.set_cons_zero]
        refine wpAny_some [20] (by kernel_rfl) (by kernel_rfl) ?_
        simp only [List.filterMap_cons, List.filterMap_nil, List.getElem?_cons_succ, List.getElem?_cons_zero, List.getElem_toArray, List.getElem_cons_succ, List.getElem_cons_zero, Act.put, List.setIfInBounds_toArray, List.set_cons_succ, List.set_cons_zero]
        go_wp2_with fail
        go_meet
        refine ⟨_, kd, m1 + 1, m2, _, ys, K7.names _, by omega, by omega, by omega, fun x hx => ?_, C5.addN (by simpa [World.setCell] using H7.out.2.1) H7.out.2.2 (fun g' q1 q2 q3 q4 => (Below.heap_setCell _ _ _ _ (by have := K7.hn; simp; omega)).trans (H7.out.1 g' q2 q4)) SB⟩
        rcases List.mem_append.1 hx with h | h
        · exact e3 x h
        · obtain rfl : x = .string SB := by simpa using h
          exact hSB
    · refine wpOp_val (v := .string s) (w' := w5) rfl (by rfl) (by go_simp) ?_
      refine wpAny_all (rs := [4, 13]) (by kernel_rfl) (by decide) ?_
      intro i hi
      simp only [List.mem_cons, List.not_mem_nil, or_false] at hi
      rcases hi with rfl | rfl
      · refine wpOp_val (v := .slice ao m1 cp) (w' := w5) rfl (by rfl) (by go_simp) ?_
        refine wpAny_all (rs := [13]) (by kernel_rfl) (by decide) ?_
        intro i hi
        simp only [List.mem_cons, List.not_mem_nil, or_false] at hi
        subst hi
        refine wpOp_val (v := .int .i64 (σ1.at_ : Nat)) (w' := w5) rfl (by rfl) (by go_simp) ?_
        refine wpAny_take (i := 14) (v := .int .i64 ((σ1.at_ : Int) + 1)) rfl (by kernel_rfl) (by kernel_rfl) (by kernel_rfl) (fun _ _ _ h => h) (Or.inl ⟨by rfl, ?_⟩) ?_
        · intro wx; go_simp; rw [HW.out]
        simp only [List.getElem_toArray, List.getElem_cons_succ, List.getElem_cons_zero, Act.put, List.setIfInBounds_toArray, List.set_cons_succ, List.set_cons_zero]
        refine wpAny_take (i := 15) (v := .string SB) rfl (by kernel_rfl) (by kernel_rfl) (by kernel_rfl) (fun _ _ _ h => h) (Or.inl ⟨by rfl, ?_⟩) ?_
        · intro wx
          go_simp
          exact HSB.out
        refine wpAny_all (rs := [16]) (by kernel_rfl) (by decide) ?_
        intro i hi
        simp only [List.mem_cons, List.not_mem_nil, or_false] at hi
        subst hi
        refine wpOp_val (v := .slice (some ⟨w5.heap.size, 0, none⟩) 1 1) (w' := w5.alloc (.cells #[.string SB] 9)) rfl (by rfl) (by go_simp) ?_
        refine wpAny_all (rs := [17]) (by kernel_rfl) (by decide) ?_
        intro i hi
        simp only [List.mem_cons, List.not_mem_nil, or_false] at hi
        subst hi
        refine wpOp_of (i := 17) rfl (by rfl) ?_
        refine wp_append_lies _ (.tmp 56) (.tmp 68) 22 rfl B 9 i0 _ 1 16 Tryz.underlying22 hi0 hz0 hz1 hz2 rfl (by decide) (.slice ao m1 cp) m1 xs rfl K6.o1 ⟨w5.heap.size, 0, none⟩ 1 1 [.string SB] rfl rfl HN (by simp [Value.oneCell']) (by decide) (by unfold maxLen; omega) (by omega) K6.hB _ rfl ?_
        intro g cp' w7 ho hg hat hlt7
        have H7 := Lib.hid (kid_grown hg hat)
        have K7 := K6.appN ho hg
        obtain ⟨m0, m1', m2', m3, fm0, fm1, fm2, fm3⟩ := K7.node.cells
        simp only [List.getElem_toArray, List.getElem_cons_succ, List.getElem_cons_zero, Act.put, List.setIfInBounds_toArray, List.set_cons_succ, List.set_cons_zero]
        refine wpAny_take (i := 18) (v := ?_) rfl (by kernel_rfl) (by kernel_rfl) (by kernel_rfl) (fun _ _ _ h => h) (Or.inl ⟨by rfl, ?_⟩) ?_
        rotate_left
        · intro wx; go_simp; try with_reducible rfl
        rotate_left
        refine wpAny_take (i := 19) (v := ?_) rfl (by kernel_rfl) (by kernel_rfl) (by kernel_rfl) (fun _ _ _ h => h) (Or.inl ⟨by rfl, ?_⟩) ?_
        rotate_left
        · intro wx; go_simp; try with_reducible rfl
        rotate_left
        simp only [List.getElem_toArray, List.getElem_cons_succ, List.getElem_cons_zero, Act.put, List.setIfInBounds_toArray, List.set_cons_succ, List.set_cons_zero]
        refine wpAny_some [20] (by kernel_rfl) (by kernel_rfl) ?_
        simp only [List.filterMap_cons, List.filterMap_nil, List.getElem?_cons_succ, List.getElem?_cons_zero, List.getElem_toArray, List.getElem_cons_succ, List.getElem_cons_zero, Act.put, List.setIfInBounds_toArray, List.set_cons_succ, List.set_cons_zero]
        go_wp2_with fail
        go_meet
        refine ⟨_, kd, m1 + 1, m2, _, ys, K7.names _, by omega, by omega, by omega, fun x hx => ?_, C5.addN (by simpa [World.setCell] using H7.out.2.1) H7.out.2.2 (fun g' q1 q2 q3 q4 => (Below.heap_setCell _ _ _ _ (by have := K7.hn; simp; omega)).trans (H7.out.1 g' q2 q4)) SB⟩
        rcases List.mem_append.1 hx with h | h
        · exact e3 x h
        · obtain rfl : x = .string SB := by simpa using h
          exact hSB
      · refine wpOp_val (v := .int .i64 (σ1.at_ : Nat)) (w' := w5) rfl (by rfl) (by go_simp) ?_
        refine wpAny_take (i := 14) (v := .int .i64 ((σ1.at_ : Int) + 1)) rfl (by kernel_rfl) (by kernel_rfl) (by kernel_rfl) (fun _ _ _ h => h) (Or.inl ⟨by rfl, ?_⟩) ?_
        · intro wx; go_simp; rw [HW.out]
        simp only [List.getElem_toArray, List.getElem_cons_succ, List.getElem_cons_zero, Act.put, List.setIfInBounds_toArray, List.set_cons_succ, List.set_cons_zero]
        refine wpAny_take (i := 15) (v := .string SB) rfl (by kernel_rfl) (by kernel_rfl) (by kernel_rfl) (fun _ _ _ h => h) (Or.inl ⟨by rfl, ?_⟩) ?_
        · intro wx
          go_simp
          exact HSB.out
        refine wpAny_all (rs := [4, 16]) (by kernel_rfl) (by decide) ?_
        intro i hi
        simp only [List.mem_cons, List.not_mem_nil, or_false] at hi
        rcases hi with rfl | rfl
        · refine wpOp_val (v := .slice ao m1 cp) (w' := w5) rfl (by rfl) (by go_simp) ?_
          refine wpAny_all (rs := [16]) (by kernel_rfl) (by decide) ?_
          intro i hi
          simp only [List.mem_cons, List.not_mem_nil, or_false] at hi
          subst hi
          refine wpOp_val (v := .slice (some ⟨w5.heap.size, 0, none⟩) 1 1) (w' := w5.alloc (.cells #[.string SB] 9)) rfl (by rfl) (by go_simp) ?_
          refine wpAny_all (rs := [17]) (by kernel_rfl) (by decide) ?_
          intro i hi
          simp only [List.mem_cons, List.not_mem_nil, or_false] at hi
          subst hi
          refine wpOp_of (i := 17) rfl (by rfl) ?_
          refine wp_append_lies _ (.tmp 56) (.tmp 68) 22 rfl B 9 i0 _ 1 16 Tryz.underlying22 hi0 hz0 hz1 hz2 rfl (by decide) (.slice ao m1 cp) m1 xs rfl K6.o1 ⟨w5.heap.size, 0, none⟩ 1 1 [.string SB] rfl rfl HN (by simp [Value.oneCell']) (by decide) (by unfold maxLen; omega) (by omega) K6.hB _ rfl ?_
          intro g cp' w7 ho hg hat hlt7
          have H7 := Lib.hid (kid_grown hg hat)
          have K7 := K6.appN ho hg
          obtain ⟨m0, m1', m2', m3, fm0, fm1, fm2, fm3⟩ := K7.node.cells
          simp only [List.getElem_toArray, List.getElem_cons_succ, List.getElem_cons_zero, Act.put, List.setIfInBounds_toArray, List.set_cons_succ, List.set_cons_zero]
          refine wpAny_take (i := 18) (v := ?_) rfl (by kernel_rfl) (by kernel_rfl) (by kernel_rfl) (fun _ _ _ h => h) (Or.inl ⟨by rfl, ?_⟩) ?_
          rotate_left
          · intro wx; go_simp; try with_reducible rfl
          rotate_left
          refine wpAny_take (i := 19) (v := ?_) rfl (by kernel_rfl) (by kernel_rfl) (by kernel_rfl) (fun _ _ _ h => h) (Or.inl ⟨by rfl, ?_⟩) ?_
          rotate_left
          · intro wx; go_simp; try with_reducible rfl
          rotate_left
          simp only [List.getElem_toArray, List.getElem_cons_succ, List.getElem_cons_zero, Act.put, List.setIfInBounds_toArray, List.set_cons_succ, List.set_cons_zero]
          refine wpAny_some [20] (by kernel_rfl) (by kernel_rfl) ?_
          simp only [List.filterMap_cons, List.filterMap_nil, List.getElem?_cons_succ, List.getElem?_cons_zero, List.getElem_toArray, List.getElem_cons_succ, List.getElem_cons_zero, Act.put, List.setIfInBounds_toArray, List.set_cons_succ, List.set_cons_zero]
          go_wp2_with fail
          go_meet
          refine ⟨_, kd, m1 + 1, m2, _, ys, K7.names _, by omega, by omega, by omega, fun x hx => ?_, C5.addN (by simpa [World.setCell] using H7.out.2.1) H7.out.2.2 (fun g' q1 q2 q3 q4 => (Below.heap_setCell _ _ _ _ (by have := K7.hn; simp; omega)).trans (H7.out.1 g' q2 q4)) SB⟩
          rcases List.mem_append.1 hx with h | h
          · exact e3 x h
          · obtain rfl : x = .string SB := by simpa using h
            exact hSB
        · refine wpOp_val (v := .slice (some ⟨w5.heap.size, 0, none⟩) 1 1) (w' := w5.alloc (.cells #[.string SB] 9)) rfl (by rfl) (by go_simp) ?_
          refine wpAny_all (rs := [4]) (by kernel_rfl) (by decide) ?_
          intro i hi
          simp only [List.mem_cons, List.not_mem_nil, or_false] at hi
          subst hi
          refine wpOp_val (v := .slice ao m1 cp) (w' := (w5.alloc (.cells #[.string SB] 9))) rfl (by rfl) (by go_simp) ?_
          refine wpAny_all (rs := [17]) (by kernel_rfl) (by decide) ?_
          intro i hi
          simp only [List.mem_cons, List.not_mem_nil, or_false] at hi
          subst hi
          refine wpOp_of (i := 17) rfl (by rfl) ?_
          refine wp_append_lies _ (.tmp 56) (.tmp 68) 22 rfl B 9 i0 _ 1 16 Tryz.underlying22 hi0 hz0 hz1 hz2 rfl (by decide) (.slice ao m1 cp) m1 xs rfl K6.o1 ⟨w5.heap.size, 0, none⟩ 1 1 [.string SB] rfl rfl HN (by simp [Value.oneCell']) (by decide) (by unfold maxLen; omega) (by omega) K6.hB _ rfl ?_
          intro g cp' w7 ho hg hat hlt7
          have H7 := Lib.hid (kid_grown hg hat)
          have K7 := K6.appN ho hg
          obtain ⟨m0, m1', m2', m3, fm0, fm1, fm2, fm3⟩ := K7.node.cells
          simp only [List.getElem_toArray, List.getElem_cons_succ, List.getElem_cons_zero, Act.put, List.setIfInBounds_toArray, List.set_cons_succ, List.set_cons_zero]
          refine wpAny_take (i := 18) (v := ?_) rfl (by kernel_rfl) (by kernel_rfl) (by kernel_rfl) (fun _ _ _ h => h) (Or.inl ⟨by rfl, ?_⟩) ?_
          rotate_left
          · intro wx; go_simp; try with_reducible rfl
          rotate_left
          refine wpAny_take (i := 19) (v := ?_) rfl (by kernel_rfl) (by kernel_rfl) (by kernel_rfl) (fun _ _ _ h => h) (Or.inl ⟨by rfl, ?_⟩) ?_
          rotate_left
          · intro wx; go_simp; try with_reducible rfl
          rotate_left
          simp only [List.getElem_toArray, List.getElem_cons_succ, List.getElem_cons_zero, Act.put, List.setIfInBounds_toArray, List.set_cons_succ, List.set_cons_zero]
          refine wpAny_some [20] (by kernel_rfl) (by kernel_rfl) ?_
          simp only [List.filterMap_cons, List.filterMap_nil, List.getElem?_cons_succ, List.getElem?_cons_zero, List.getElem_toArray, List.getElem_cons_succ, List.getElem_cons_zero, Act.put, List.setIfInBounds_toArray, List.set_cons_succ, List.set_cons_zero]
          go_wp2_with fail
          go_meet
          refine ⟨_, kd, m1 + 1, m2, _, ys, K7.names _, by omega, by omega, by omega, fun x hx => ?_, C5.addN (by simpa [World.setCell] using H7.out.2.1) H7.out.2.2 (fun g' q1 q2 q3 q4 => (Below.heap_setCell _ _ _ _ (by have := K7.hn; simp; omega)).trans (H7.out.1 g' q2 q4)) SB⟩
          rcases List.mem_append.1 hx with h | h
          · exact e3 x h
          · obtain rfl : x = .string SB := by simpa using h
            exact hSB
    · refine wpOp_val (v := .int .i64 (σ1.at_ : Nat)) (w' := w5) rfl (by rfl) (by go_simp) ?_
      refine wpAny_take (i := 14) (v := .int .i64 ((σ1.at_ : Int) + 1)) rfl (by kernel_rfl) (by kernel_rfl) (by kernel_rfl) (fun _ _ _ h => h) (Or.inl ⟨by rfl, ?_⟩) ?_
      · intro wx; go_simp; rw [HW.out]
      refine wpAny_all (rs := [4, 8]) (by kernel_rfl) (by decide) ?_
      intro i hi
      simp only [List.mem_cons, List.not_mem_nil, or_false] at hi
      rcases hi with rfl | rfl
      · refine wpOp_val (v := .slice ao m1 cp) (w' := w5) rfl (by rfl) (by go_simp) ?_
        refine wpAny_all (rs := [8]) (by kernel_rfl) (by decide) ?_
        intro i hi
        simp only [List.mem_cons, List.not_mem_nil, or_false] at hi
        subst hi
        refine wpOp_val (v := .string s) (w' := w5) rfl (by rfl) (by go_simp) ?_
        simp only [List.getElem_toArray, List.getElem_cons_succ, List.getElem_cons_zero, Act.put, List.setIfInBounds_toArray, List.set_cons_succ, List.set_cons_zero]
        refine wpAny_take (i := 15) (v := .string SB) rfl (by kernel_rfl) (by kernel_rfl) (by kernel_rfl) (fun _ _ _ h => h) (Or.inl ⟨by rfl, ?_⟩) ?_
        · intro wx
          go_simp
          exact HSB.out
        refine wpAny_all (rs := [16]) (by kernel_rfl) (by decide) ?_
        intro i hi
        simp only [List.mem_cons, List.not_mem_nil, or_false] at hi
        subst hi
        refine wpOp_val (v := .slice (some ⟨w5.heap.size, 0, none⟩) 1 1) (w' := w5.alloc (.cells #[.string SB] 9)) rfl (by rfl) (by go_simp) ?_
        refine wpAny_all (rs := [17]) (by kernel_rfl) (by decide) ?_
        intro i hi
        simp only [List.mem_cons, List.not_mem_nil, or_false] at hi
        subst hi
        refine wpOp_of (i := 17) rfl (by rfl) ?_
        refine wp_append_lies _ (.tmp 56) (.tmp 68) 22 rfl B 9 i0 _ 1 16 Tryz.underlying22 hi0 hz0 hz1 hz2 rfl (by decide) (.slice ao m1 cp) m1 xs rfl K6.o1 ⟨w5.heap.size, 0, none⟩ 1 1 [.string SB] rfl rfl HN (by simp [Value.oneCell']) (by decide) (by unfold maxLen; omega) (by omega) K6.hB _ rfl ?_
        intro g cp' w7 ho hg hat hlt7
        have H7 := Lib.hid (kid_grown hg hat)
        have K7 := K6.appN ho hg
        obtain ⟨m0, m1', m2', m3, fm0, fm1, fm2, fm3⟩ := K7.node.cells
        simp only [List.getElem_toArray, List.getElem_cons_succ, List.getElem_cons_zero, Act.put, List.setIfInBounds_toArray, List.set_cons_succ, List.set_cons_zero]
        refine wpAny_take (i := 18) (v := ?_) rfl (by kernel_rfl) (by kernel_rfl) (by kernel_rfl) (fun _ _ _ h => h) (Or.inl ⟨by rfl, ?_⟩) ?_
        rotate_left
        · intro wx; go_simp; try with_reducible rfl
        rotate_left
        refine wpAny_take (i := 19) (v := ?_) rfl (by kernel_rfl) (by kernel_rfl) (by kernel_rfl) (fun _ _ _ h => h) (Or.inl ⟨by rfl, ?_⟩) ?_
        rotate_left
        · intro wx; go_simp; try with_reducible rfl
        rotate_left
        simp only [List.getElem_toArray, List.getElem_cons_succ, List.getElem_cons_zero, Act.put, List.setIfInBounds_toArray, List.set_cons_succ, List.set_cons_zero]
        refine wpAny_some [20] (by kernel_rfl) (by kernel_rfl) ?_
        simp only [List.filterMap_cons, List.filterMap_nil, List.getElem?_cons_succ, List.getElem?_cons_zero, List.getElem_toArray, List.getElem_cons_succ, List.getElem_cons_zero, Act.put, List.setIfInBounds_toArray, List.set_cons_succ, List.set_cons_zero]
        go_wp2_with fail
        go_meet
        refine ⟨_, kd, m1 + 1, m2, _, ys, K7.names _, by omega, by omega, by omega, fun x hx => ?_, C5.addN (by simpa [World.setCell] using H7.out.2.1) H7.out.2.2 (fun g' q1 q2 q3 q4 => (Below.heap_setCell _ _ _ _ (by have := K7.hn; simp; omega)).trans (H7.out.1 g' q2 q4)) SB⟩
        rcases List.mem_append.1 hx with h | h
        · exact e3 x h
        · obtain rfl : x = .string SB := by simpa using h
          exact hSB
      · refine wpOp_val (v := .string s) (w' := w5) rfl (by rfl) (by go_simp) ?_
        simp only [List.getElem_toArray, List.getElem_cons_succ, List.getElem_cons_zero, Act.put, List.setIfInBounds_toArray, List.set_cons_succ, List.set_cons_zero]
        refine wpAny_take (i := 15) (v := .string SB) rfl (by kernel_rfl) (by kernel_rfl) (by kernel_rfl) (fun _ _ _ h => h) (Or.inl ⟨by rfl, ?_⟩) ?_
        · intro wx
          go_simp
          exact HSB.out
        refine wpAny_all (rs := [4, 16]) (by kernel_rfl) (by decide) ?_
        intro i hi
        simp only [List.mem_cons, List.not_mem_nil, or_false] at hi
        rcases hi with rfl | rfl
        · refine wpOp_val (v := .slice ao m1 cp) (w' := w5) rfl (by rfl) (by go_simp) ?_
          refine wpAny_all (rs := [16]) (by kernel_rfl) (by decide) ?_
          intro i hi
          simp only [List.mem_cons, List.not_mem_nil, or_false] at hi
          subst hi
          refine wpOp_val (v := .slice (some ⟨w5.heap.size, 0, none⟩) 1 1) (w' := w5.alloc (.cells #[.string SB] 9)) rfl (by rfl) (by go_simp) ?_
          refine wpAny_all (rs := [17]) (by kernel_rfl) (by decide) ?_
          intro i hi
          simp only [List.mem_cons, List.not_mem_nil, or_false] at hi
          subst hi
          refine wpOp_of (i := 17) rfl (by rfl) ?_
          refine wp_append_lies _ (.tmp 56) (.tmp 68) 22 rfl B 9 i0 _ 1 16 Tryz.underlying22 hi0 hz0 hz1 hz2 rfl (by decide) (.slice ao m1 cp) m1 xs rfl K6.o1 ⟨w5.heap.size, 0, none⟩ 1 1 [.string SB] rfl rfl HN (by simp [Value.oneCell']) (by decide) (by unfold maxLen; omega) (by omega) K6.hB _ rfl ?_
          intro g cp' w7 ho hg hat hlt7
          have H7 := Lib.hid (kid_grown hg hat)
          have K7 := K6.appN ho hg
          obtain ⟨m0, m1', m2', m3, fm0, fm1, fm2, fm3⟩ := K7.node.cells
          simp only [List.getElem_toArray, List.getElem_cons_succ, List.getElem_cons_zero, Act.put, List.setIfInBounds_toArray, List.set_cons_succ, List.set_cons_zero]
          refine wpAny_take (i := 18) (v := ?_) rfl (by kernel_rfl) (by kernel_rfl) (by kernel_rfl) (fun _ _ _ h => h) (Or.inl ⟨by rfl, ?_⟩) ?_
          rotate_left
          · intro wx; go_simp; try with_reducible rfl
          rotate_left
          refine wpAny_take (i := 19) (v := ?_) rfl (by kernel_rfl) (by kernel_rfl) (by kernel_rfl) (fun _ _ _ h => h) (Or.inl ⟨by rfl, ?_⟩) ?_
          rotate_left
          · intro wx; go_simp; try with_reducible rfl
          rotate_left
          simp only [List.getElem_toArray, List.getElem_cons_succ, List.getElem_cons_zero, Act.put, List.setIfInBounds_toArray, List.set_cons_succ, List.set_cons_zero]
          refine wpAny_some [20] (by kernel_rfl) (by kernel_rfl) ?_
          simp only [List.filterMap_cons, List.filterMap_nil, List.getElem?_cons_succ, List.getElem?_cons_zero, List.getElem_toArray, List.getElem_cons_succ, List.getElem_cons_zero, Act.put, List.setIfInBounds_toArray, List.set_cons_succ, List.set_cons_zero]
          go_wp2_with fail
          go_meet
          refine ⟨_, kd, m1 + 1, m2, _, ys, K7.names _, by omega, by omega, by omega, fun x hx => ?_, C5.addN (by simpa [World.setCell] using H7.out.2.1) H7.out.2.2 (fun g' q1 q2 q3 q4 => (Below.heap_setCell _ _ _ _ (by have := K7.hn; simp; omega)).trans (H7.out.1 g' q2 q4)) SB⟩
          rcases List.mem_append.1 hx with h | h
          · exact e3 x h
          · obtain rfl : x = .string SB := by simpa using h
            exact hSB
        · refine wpOp_val (v := .slice (some ⟨w5.heap.size, 0, none⟩) 1 1) (w' := w5.alloc (.cells #[.string SB] 9)) rfl (by rfl) (by go_simp) ?_
          refine wpAny_all (rs := [4]) (by kernel_rfl) (by decide) ?_
          intro i hi
          simp only [List.mem_cons, List.not_mem_nil, or_false] at hi
          subst hi
          refine wpOp_val (v := .slice ao m1 cp) (w' := (w5.alloc (.cells #[.string SB] 9))) rfl (by rfl) (by go_simp) ?_
          refine wpAny_all (rs := [17]) (by kernel_rfl) (by decide) ?_
          intro i hi
          simp only [List.mem_cons, List.not_mem_nil, or_false] at hi
          subst hi
          refine wpOp_of (i := 17) rfl (by rfl) ?_
          refine wp_append_lies _ (.tmp 56) (.tmp 68) 22 rfl B 9 i0 _ 1 16 Tryz.underlying22 hi0 hz0 hz1 hz2 rfl (by decide) (.slice ao m1 cp) m1 xs rfl K6.o1 ⟨w5.heap.size, 0, none⟩ 1 1 [.string SB] rfl rfl HN (by simp [Value.oneCell']) (by decide) (by unfold maxLen; omega) (by omega) K6.hB _ rfl ?_
          intro g cp' w7 ho hg hat hlt7
          have H7 := Lib.hid (kid_grown hg hat)
          have K7 := K6.appN ho hg
          obtain ⟨m0, m1', m2', m3, fm0, fm1, fm2, fm3⟩ := K7.node.cells
          simp only [List.getElem_toArray, List.getElem_cons_succ, List.getElem_cons_zero, Act.put, List.setIfInBounds_toArray, List.set_cons_succ, List.set_cons_zero]
          refine wpAny_take (i := 18) (v := ?_) rfl (by kernel_rfl) (by kernel_rfl) (by kernel_rfl) (fun _ _ _ h => h) (Or.inl ⟨by rfl, ?_⟩) ?_
          rotate_left
          · intro wx; go_simp; try with_reducible rfl
          rotate_left
          refine wpAny_take (i := 19) (v := ?_) rfl (by kernel_rfl) (by kernel_rfl) (by kernel_rfl) (fun _ _ _ h => h) (Or.inl ⟨by rfl, ?_⟩) ?_
          rotate_left
          · intro wx; go_simp; try with_reducible rfl
          rotate_left
          simp only [List.getElem_toArray, List.getElem_cons_succ, List.getElem_cons_zero, Act.put, List.setIfInBounds_toArray, List.set_cons_succ, List.set_cons_zero]
          refine wpAny_some [20] (by kernel_rfl) (by kernel_rfl) ?_
          simp only [List.filterMap_cons, List.filterMap_nil, List.getElem?_cons_succ, List.getElem?_cons_zero, List.getElem_toArray, List.getElem_cons_succ, List.getElem_cons_zero, Act.put, List.setIfInBounds_toArray, List.set_cons_succ, List.set_cons_zero]
          go_wp2_with fail
          go_meet
          refine ⟨_, kd, m1 + 1, m2, _, ys, K7.names _, by omega, by omega, by omega, fun x hx => ?_, C5.addN (by simpa [World.setCell] using H7.out.2.1) H7.out.2.2 (fun g' q1 q2 q3 q4 => (Below.heap_setCell _ _ _ _ (by have := K7.hn; simp; omega)).trans (H7.out.1 g' q2 q4)) SB⟩
          rcases List.mem_append.1 hx with h | h
          · exact e3 x h
          · obtain rfl : x = .string SB := by simpa using h
            exact hSB
  case rest =>
    obtain ⟨nm, kd, m1, m2, xs, ys, hK, p1, e1, e2, e3, C5⟩ := hcut
    have hbB := hK.hb
    clear h h2 hR2 hM2 h3 hR3 hM3
    cases tw
    case true =>
      obtain ⟨c0, c1, c2, c3, c4, c5, f1, f4, f5⟩ := hK.r.cells
      go_upto_if 85 with fail
      clear c0 c1 c2 c3 c4 c5 f1 f4 f5
      have hKs := hK.mv (hK.r.setAt (σ1.at_ + 1)) ((Mv.refl b wc).setCell 1 (.int .i64 ((σ1.at_ + 1 : Nat) : Int)))
      have hts : σ1.at_ + 1 ≤ s.size := by omega
      obtain ⟨c0, c1, c2, c3, c4, c5, f1, f4, f5⟩ := hK.r.cells
      go_wp2_with (first
        | (go_at_call 15; refine (space_ex b s _ lo _ _ hKs.r hsm hts).mono ?_; rintro e w7 ⟨σ3, rfl, hR7, hM7, l3, l3', hsp3⟩; have hK7 := hKs.mv hR7 hM7)
        | (go_at_call 54; refine (need_ex b s _ lo σ3 _ _ _ hR7 hsm l3').mono ?_; rintro e w8 ⟨r8, σ4, rfl, hR8, hM8, l4, l4', l4'', hn4⟩; have hK8 := hK7.mv hR8 hM8))
      all_goals go_ret
      have l3 : σ1.at_ + 1 ≤ σ3.at_ := l3
      exact ⟨_, σ4, σ.at_ + 1, _, _, rfl, ⟨⟨nm, kd, m1, m2, xs, ys, hK8, by omega, by omega, e3, ((C5.mv ((Mv.refl b wc).setCell 1 (.int .i64 ((σ1.at_ + 1 : Nat) : Int))) hbB).mv hM7 hbB).mv hM8 hbB, fun g e => (hK8.o2.lt g e).2, fun g e => (hK8.o1.lt g e).2⟩⟩, by omega, l4', fun _ => (by omega), .nameY H1.out (fun e => by cases e) (by rw [show St.sp s σ1.at1 = σ3 from hsp3.out]; exact hn4.out), fun hr => ⟨SB, by rw [← HSB.out]; exact CnN.nameY H1.out (fun e => by cases e) (by rw [show St.sp s σ1.at1 = σ3 from hsp3.out]; exact hr ▸ hn4.out), rfl⟩⟩
    case false =>
      obtain ⟨m0', m1', m2', m3', fm0, fm1, fm2, fm3⟩ := hK.node.cells
      obtain ⟨c0, c1, c2, c3, c4, c5, f1, f4, f5⟩ := hK.r.cells
      go_upto_if 85 with (go_at_call 76; refine (hag rfl hK.hb σ1 wc nm m1 xs ns SB hK.r hK.o1 C5.xs p1 e3).mono ?_; rintro e w6 ⟨r6, rfl, hR6, hM6, HD1, HD2⟩; have hK6 := hK.mv hR6 hM6)
      clear m0' m1' m2' m3' fm0 fm1 fm2 fm3 c0 c1 c2 c3 c4 c5 f1 f4 f5
      cases r6
      case true =>
        go_wp2_with (go_at_call 16; refine (fail_any b s false lo _ _ _ hR6).mono ?_; rintro e w7 ⟨rfl, hR7, hM7⟩)
        all_goals go_ret
        exact ⟨_, _, σ.at_ + 1, _, _, rfl, ⟨⟨nm, kd, m1, m2, xs, ys, hK6.mv hR7 hM7, by omega, by omega, e3, (C5.mv hM6 hbB).mv hM7 hbB, fun g e => ((hK6.mv hR7 hM7).o2.lt g e).2, fun g e => ((hK6.mv hR7 hM7).o1.lt g e).2⟩⟩, by rw [St.fail_at]; exact hl1, by rw [St.fail_at]; exact hl2, fun h => (by cases h), .nameT H1.out rfl (by rw [HSB.out]; exact HD1.out (by first | rfl | trivial)) (St.fail_ne0 _ (by decide)), fun h => (by cases h)⟩
      have hKs := hK6.mv (hK6.r.setAt (σ1.at_ + 1)) ((Mv.refl b w6).setCell 1 (.int .i64 ((σ1.at_ + 1 : Nat) : Int)))
      have hts : σ1.at_ + 1 ≤ s.size := by omega
      obtain ⟨c0, c1, c2, c3, c4, c5, f1, f4, f5⟩ := hK6.r.cells
      go_wp2_with (first
        | (go_at_call 15; refine (space_ex b s _ lo _ _ hKs.r hsm hts).mono ?_; rintro e w7 ⟨σ3, rfl, hR7, hM7, l3, l3', hsp3⟩; have hK7 := hKs.mv hR7 hM7)
        | (go_at_call 54; refine (need_ex b s _ lo σ3 _ _ _ hR7 hsm l3').mono ?_; rintro e w8 ⟨r8, σ4, rfl, hR8, hM8, l4, l4', l4'', hn4⟩; have hK8 := hK7.mv hR8 hM8))
      all_goals go_ret
      have l3 : σ1.at_ + 1 ≤ σ3.at_ := l3
      exact ⟨_, σ4, σ.at_ + 1, _, _, rfl, ⟨⟨nm, kd, m1, m2, xs, ys, hK8, by omega, by omega, e3, (((C5.mv hM6 hbB).mv ((Mv.refl b w6).setCell 1 (.int .i64 ((σ1.at_ + 1 : Nat) : Int))) hbB).mv hM7 hbB).mv hM8 hbB, fun g e => (hK8.o2.lt g e).2, fun g e => (hK8.o1.lt g e).2⟩⟩, by omega, l4', fun _ => (by omega), .nameY H1.out (fun _ => by rw [HSB.out]; exact HD2.out (by first | rfl | trivial)) (by rw [show St.sp s σ1.at1 = σ3 from hsp3.out]; exact hn4.out), fun hr => ⟨SB, by rw [← HSB.out]; exact CnN.nameY H1.out (fun _ => by rw [HSB.out]; exact HD2.out (by first | rfl | trivial)) (by rw [show St.sp s σ1.at1 = σ3 from hsp3.out]; exact hr ▸ hn4.out), rfl⟩⟩
end
section
/- (Cq) The reader of the reference, with content: object. Lines by program (mkc.py). -/
open Go.RowKit

set_option maxRecDepth 100000 in
set_option maxHeartbeats 4000000 in
theorem object_cn (Nq : Value → Prop) (b n B : Nat) (s : ByteArray) (tw lo : Bool) (σ : St) (w0 w : World) (k0 : Int) (t0 : ByteArray) (L : Nat) (h : RC Nq b n B σ.at_ s tw lo σ w0 k0 t0 [] [] L w) (hs : s.size ≤ 2147483647) (ha : σ.at_ ≤ s.size)
    (ih : ∀ σ', σ.at_ ≤ σ'.at_ → σ'.at_ ≤ s.size → ValC b s tw lo σ')
    (hQ : ∀ σ σ', St.quoted s lo σ = (true, σ') → Nq (.string (s.extract σ.at_ (σ'.at_ + 1)))) (hag : tw = false → ∀ B, AgX Nq b B s lo) :
    Calls Tryz.prog 30 #[.pointer (some ⟨b, 0, none⟩), .pointer (some ⟨n, 0, none⟩)] w (FillC .obj Nq b n B s tw lo σ w0 k0 t0) := by
  have hsm : s.size ≤ maxLen := by unfold maxLen; omega
  go_enter Tryz.func30, Tryz.ntmps30
  go_upto_if 11 with (first
    | (go_at_call 15; refine (space_ex b s tw lo σ _ h.r hsm ha).mono ?_; rintro e w1 ⟨σ1, rfl, hR1, hM1, l1, l1', hsp1⟩; have h1 := h.mv hR1 hM1 l1)
    | (go_at_call 29; refine (see_ex b s tw lo σ1 _ hR1 hsm l1').mono ?_; rintro e w2 ⟨X, rfl, hR2, hM2, hX, hb1⟩; have h2 := h1.mv hR2 hM2 (Nat.le_refl _)))
  cases hx : (X == 125)
  case true =>
    have hlt := hX (by have := of_decide_eq_true hx; omega)
    have HA := Lib.hid (show RdN s tw lo .obj σ true { σ1 with at_ := σ1.at_ + 1 } by rw [← hsp1.out]; exact .obj0 (by rw [hsp1.out, hb1.out]; simpa using hx))
    have HA2 := Lib.hid (show CnN s tw lo .obj σ { σ1 with at_ := σ1.at_ + 1 } [] [] by rw [← hsp1.out]; exact .obj0 (by rw [hsp1.out, hb1.out]; simpa using hx))
    obtain ⟨c0, c1, c2, c3, c4, c5, f1, f4, f5⟩ := hR2.cells
    have hl63 : (σ1.at_ : Int) < 9223372036854775807 := by omega
    go_wp2_with fail
    all_goals go_ret
    exact ⟨_, _, σ1.at_, [], [], L, rfl, h2.mv (hR2.setAt (σ1.at_ + 1)) ((Mv.refl _ _).setCell _ _) (Nat.le_refl _), by simp; omega, by simp; omega, HA.out, fun _ => HA2.out⟩
  have HLC := Lib.hid (show ∀ σ2 ns2 ks2, CnN s tw lo (.objL []) σ1 σ2 ns2 ks2 → CnN s tw lo .obj σ σ2 ([] ++ ns2) ([] ++ ks2) from fun σ2 ns2 ks2 h => .objB (by rw [hsp1.out, hb1.out]; simpa using hx) (by rw [hsp1.out]; exact h))
  have HL := Lib.hid (show ∀ r σ2, RdN s tw lo (.objL []) σ1 r σ2 → RdN s tw lo .obj σ r σ2 from fun r σ2 h => .objB (by rw [hsp1.out, hb1.out]; simpa using hx) (by rw [hsp1.out]; exact h))
  clear hX hx h h1 hsp1 hb1 hR1 hM1 hM2 hR2
  go_wp2_with fail
  go_loopg [] s.size (fun g wx => ∃ σ' ns ks L, RC Nq b n B σ'.at_ s tw lo σ' w0 k0 t0 ns ks L wx ∧ s.size - σ'.at_ ≤ g ∧ σ.at_ ≤ σ'.at_ ∧ σ'.at_ ≤ s.size ∧ Hid (∀ r σ2, RdN s tw lo (.objL ns) σ' r σ2 → RdN s tw lo .obj σ r σ2) ∧ Hid (∀ σ2 ns2 ks2, CnN s tw lo (.objL ns) σ' σ2 ns2 ks2 → CnN s tw lo .obj σ σ2 (ns ++ ns2) (ks ++ ks2)))
  case atStart => exact ⟨σ1, [], [], L, h2, by omega, l1, l1', HL, HLC⟩
  case round =>
    clear h2 l1 l1' HL HLC
    obtain ⟨σ', ns, ks, L1, hB, hg, l0, l0', HL, HLC⟩ := hrel
    go_upto_if 22 with (go_at_call 53; refine (name_cn Nq b n B s tw lo σ' w0 wr k0 t0 ns ks _ hB hs l0' hQ (fun h => hag h B)).mono ?_; rintro e w2 ⟨r2, σn, Mn, ns', L2, rfl, h2n, ln, ln', lM, hnm, hnc⟩; have HNm := Lib.hid hnm; have HNC := Lib.hid hnc; clear hnm hnc)
    cases r2
    case false =>
      go_wp2_with fail
      all_goals go_ret
      exact ⟨_, σn, Mn, _, _, _, rfl, h2n, by omega, ln', HL.out _ _ (.objF HNm.out), fun h => (by cases h)⟩
    obtain ⟨tn, hnt, hns⟩ := HNC.out rfl
    have HNT := Lib.hid hnt
    have HNS := Lib.hid hns
    clear hnt hns HNC
    have h3' := (h2n.mv h2n.r (Mv.refl _ _) (lM rfl)).low
    go_upto_if 29 with (go_at_call 14; refine (ih σn (by omega) ln' w2 h3'.r).mono ?_; rintro e w3 ⟨k, t, na, nl, nc, ka, kl, kc, r, σ2, rfl, hR3, hM3, l2, l2', _, hv, hcn⟩; have HV := Lib.hid hv; have HCN := Lib.hid hcn; clear hv hcn; have h3 := h3'.mv hR3 hM3 l2)
    cases r
    case false =>
      go_wp2_with fail
      all_goals go_ret
      exact ⟨_, σ2, σ2.at_, _, _, _, rfl, h3.alloc _, by omega, l2', HL.out _ _ (.objV HNm.out HV.out), fun h => (by cases h)⟩
    obtain ⟨nd, hcv, hnd⟩ := HCN.out rfl
    have HCV := Lib.hid hcv
    clear hcv HCN
    go_upto_region 10 with fail
    have h4 := h3.alloc (.cells #[.int .u8 k, .string t, .slice na nl nc, .slice ka kl kc] 25)
    have hk4 : NodeB (w3.alloc (.cells #[.int .u8 k, .string t, .slice na nl nc, .slice ka kl kc] 25)) w3.heap.size k t (.slice na nl nc) (.slice ka kl kc) := ⟨_, heap_alloc_new _ _⟩
    have hp5 := h3.hB
    have hd4 := NdM.keep (w := w3) (P := fun g => w2.heap.size ≤ g ∧ g < w3.heap.size) (w' := w3.alloc (.cells #[.int .u8 k, .string t, .slice na nl nc, .slice ka kl kc] 25)) (Q := fun g => w2.heap.size ≤ g ∧ g < (w3.alloc (.cells #[.int .u8 k, .string t, .slice na nl nc, .slice ka kl kc] 25)).heap.size) (fun g ⟨h1, h2⟩ => ⟨⟨h1, by simp; omega⟩, Below.heap_alloc _ _ _ h2⟩) _ _ hnd
    clear h3 hB hR3 hM3 h2n
    revert h4 hk4 hp5 hd4
    generalize w3.alloc (.cells #[.int .u8 k, .string t, .slice na nl nc, .slice ka kl kc] 25) = w4
    generalize w3.heap.size = p5
    intro h4 hk4 hp5 hd4
    have hlo := h3'.hB
    revert h4 hd4 hlo
    generalize w2.heap.size = lw
    intro h4 hd4 hlo
    clear h3'
    go_cut [] from 30 to 40 (fun wx => RC Nq b n B (σ2.at_ + 1) s tw lo σ2 w0 k0 t0 ns' (ks ++ [nd]) wx.heap.size wx)
    case first =>
      obtain ⟨nm, kd, m1, m2, xs, ys, hK, e1, e2, e3, C4, hL1, hL2⟩ := h4
      obtain ⟨ao, cp, rfl⟩ := own_slice hK.o2
      have K5 := hK.drew
      have C5 := C4.keep (w' := w4.drew) (Nat.le_refl _) (fun _ _ _ _ _ => rfl)
      have D5 := NdM.keep (w := w4) (w' := w4.drew) (P := fun g => lw ≤ g ∧ g < w4.heap.size) (Q := fun g => lw ≤ g ∧ g < w4.drew.heap.size) (fun g hg => ⟨hg, rfl⟩) _ _ hd4
      have N5 : NodeB w4.drew p5 k t (.slice na nl nc) (.slice ka kl kc) := hk4
      clear hK hk4 C4 hd4
      refine wp_region_any (by kernel_rfl) ?_
      try (change wpAny _ _ _ _ _ _ _ (World.drew _))
      generalize w4.drew = w5 at K5 N5 C5 D5 ⊢
      have K6 := K5.alloc (.cells #[.int .u8 0, .string ⟨#[]⟩, .slice none 0 0, .slice none 0 0] 25)
      have N6 := N5.other (Below.heap_alloc w5 (.cells #[.int .u8 0, .string ⟨#[]⟩, .slice none 0 0, .slice none 0 0] 25) p5 N5.lt)
      have HN : ∀ (j : Nat) (u : Value), ([.int .u8 0, .string ⟨#[]⟩, .slice none 0 0, .slice none 0 0] : List Value)[j]? = some u → (w5.alloc (.cells #[.int .u8 0, .string ⟨#[]⟩, .slice none 0 0, .slice none 0 0] 25)).cell? ((⟨w5.heap.size, 0, none⟩ : Addr).add j) = some u := by
        intro j u hu
        have := heap_alloc_new w5 (.cells #[.int .u8 0, .string ⟨#[]⟩, .slice none 0 0, .slice none 0 0] 25)
        rw [show ((⟨w5.heap.size, 0, none⟩ : Addr).add j) = ⟨w5.heap.size, j, none⟩ from by unfold Addr.add; split <;> simp_all]
        simp only [World.cell?, this]
        simpa using hu
      obtain ⟨i0, hi0, hz⟩ := Option.map_eq_some_iff.1 infoN
      obtain ⟨hz0, hz1, hz2⟩ : i0.zero = some (.agg #[.int .u8 0, .string ⟨#[]⟩, .slice none 0 0, .slice none 0 0]) ∧ i0.size = 4 ∧ i0.bytes = 72 := by injection hz with x y; injection y with y z; exact ⟨x, y, z⟩
      clear hz
      obtain ⟨a0, a1, a2, a3, fa0, fa1, fa2, fa3⟩ := K5.node.cells
      obtain ⟨b0, b1, b2, b3, fb0, fb1, fb2, fb3⟩ := N5.cells
      obtain ⟨c0, c1, c2, c3, fc0, fc1, fc2, fc3⟩ := K6.node.cells
      obtain ⟨d0, d1, d2, d3, fd0, fd1, fd2, fd3⟩ := N6.cells
      refine wpAny_take (i := 0) (v := ?_) rfl (by kernel_rfl) (by kernel_rfl) (by kernel_rfl) (fun _ _ _ h => h) (Or.inl ⟨by rfl, ?_⟩) ?_
      rotate_left
      · intro wx; go_simp; try with_reducible rfl
      rotate_left
      refine wpAny_take (i := 1) (v := ?_) rfl (by kernel_rfl) (by kernel_rfl) (by kernel_rfl) (fun _ _ _ h => h) (Or.inl ⟨by rfl, ?_⟩) ?_
      rotate_left
      · intro wx; go_simp; try with_reducible rfl
      rotate_left
      refine wpAny_take (i := 2) (v := ?_) rfl (by kernel_rfl) (by kernel_rfl) (by kernel_rfl) (fun _ _ _ h => h) (Or.inl ⟨by rfl, ?_⟩) ?_
      rotate_left
      · intro wx; go_simp; try with_reducible rfl
      rotate_left
      simp only [List.getElem_toArray, List.getElem_cons_succ, List.getElem_cons_zero, Act.put, List.setIfInBounds_toArray, List.set_cons_succ, List.set_cons_zero]
      refine wpAny_all (rs := [3, 4, 6]) (by kernel_rfl) (by decide) ?_
      intro i hi
      simp only [List.mem_cons, List.not_mem_nil, or_false] at hi
      rcases hi with rfl | rfl | rfl
      · refine wpOp_val (v := .slice ao m2 cp) (w' := w5) rfl (by rfl) (by go_simp) ?_
        refine wpAny_take (i := 5) (v := ?_) rfl (by kernel_rfl) (by kernel_rfl) (by kernel_rfl) (fun _ _ _ h => h) (Or.inl ⟨by rfl, ?_⟩) ?_
        rotate_left
        · intro wx; go_simp; try with_reducible rfl
        rotate_left
        refine wpAny_all (rs := [4, 6]) (by kernel_rfl) (by decide) ?_
        intro i hi
        simp only [List.mem_cons, List.not_mem_nil, or_false] at hi
        rcases hi with rfl | rfl
        · refine wpOp_val (v := .agg #[.int .u8 k, .string t, .slice na nl nc, .slice ka kl kc]) (w' := w5) rfl (by rfl) (by go_simp) ?_
          refine wpAny_all (rs := [6]) (by kernel_rfl) (by decide) ?_
          intro i hi
          simp only [List.mem_cons, List.not_mem_nil, or_false] at hi
          subst hi
          refine wpOp_val (v := .slice (some ⟨w5.heap.size, 0, none⟩) 1 1) (w' := w5.alloc (.cells #[.int .u8 0, .string ⟨#[]⟩, .slice none 0 0, .slice none 0 0] 25)) rfl (by rfl) (by go_simp) ?_
          refine wpAny_all (rs := [7]) (by kernel_rfl) (by decide) ?_
          intro i hi
          simp only [List.mem_cons, List.not_mem_nil, or_false] at hi
          subst hi
          refine wpOp_of (i := 7) rfl (by rfl) ?_
          refine wp_append_lies _ (.tmp 33) (.tmp 36) 23 rfl B 25 i0 _ 4 72 Tryz.underlying23 hi0 hz0 hz1 hz2 rfl (by decide) (.slice ao m2 cp) m2 ys rfl K6.o2 ⟨w5.heap.size, 0, none⟩ 1 1 [.int .u8 0, .string ⟨#[]⟩, .slice none 0 0, .slice none 0 0] rfl rfl HN (by simp [Value.oneCell']) (by decide) (by unfold maxLen; omega) (by omega) K6.hB _ rfl ?_
          intro g cp' w7 ho hg hat hlt7
          have H7 := Lib.hid (kid_grown hg hat)
          have K7 := K6.appK ho hg
          obtain ⟨m0, m1', m2', m3, fm0, fm1, fm2, fm3⟩ := K7.node.cells
          have hfz := World.ownsRow.frozenAt ho
          have hlz := own_len ho
          have hyl := K6.o2.1
          have z0 : w7.cell? ⟨g, m2 * 4, none⟩ = some (.int .u8 0) := by rw [World.ownsRow.cellAt ho _ (by omega), List.getElem?_append_right (by omega), hyl, Nat.sub_self]; rfl
          have z1 : w7.cell? ⟨g, m2 * 4 + 1, none⟩ = some (.string ⟨#[]⟩) := by rw [World.ownsRow.cellAt ho _ (by omega), List.getElem?_append_right (by omega), hyl, Nat.add_sub_cancel_left]; rfl
          have z2 : w7.cell? ⟨g, m2 * 4 + 2, none⟩ = some (.slice none 0 0) := by rw [World.ownsRow.cellAt ho _ (by omega), List.getElem?_append_right (by omega), hyl, Nat.add_sub_cancel_left]; rfl
          have z3 : w7.cell? ⟨g, m2 * 4 + 3, none⟩ = some (.slice none 0 0) := by rw [World.ownsRow.cellAt ho _ (by omega), List.getElem?_append_right (by omega), hyl, Nat.add_sub_cancel_left]; rfl
          have hgB : B ≤ g := (ho.lt g rfl).1
          have hgn : g ≠ n := by have := K7.hn; omega
          simp only [List.getElem_toArray, List.getElem_cons_succ, List.getElem_cons_zero, Act.put, List.setIfInBounds_toArray, List.set_cons_succ, List.set_cons_zero]
          refine wpAny_take (i := 8) (v := ?_) rfl (by kernel_rfl) (by kernel_rfl) (by kernel_rfl) (fun _ _ _ h => h) (Or.inl ⟨by rfl, ?_⟩) ?_
          rotate_left
          · intro wx; go_simp; rw [if_pos (by omega)]; try with_reducible rfl
          rotate_left
          refine wpAny_take (i := 10) (v := ?_) rfl (by kernel_rfl) (by kernel_rfl) (by kernel_rfl) (fun _ _ _ h => h) (Or.inl ⟨by rfl, ?_⟩) ?_
          rotate_left
          · intro wx; go_simp; try with_reducible rfl
          rotate_left
          refine wpAny_take (i := 11) (v := ?_) rfl (by kernel_rfl) (by kernel_rfl) (by kernel_rfl) (fun _ _ _ h => h) (Or.inl ⟨by rfl, ?_⟩) ?_
          rotate_left
          · intro wx; go_simp; try with_reducible rfl
          rotate_left
          simp only [List.getElem_toArray, List.getElem_cons_succ, List.getElem_cons_zero, Act.put, List.setIfInBounds_toArray, List.set_cons_succ, List.set_cons_zero]
          refine wpAny_two (i := 9) (j := 12) rfl rfl (by kernel_rfl) (by kernel_rfl) (by kernel_rfl) ?_ ?_
          · go_wp2_with fail
            go_meet
            exact RC.fin1 K7 (by omega) (by omega) e3 C5 (by omega) H7.out hlo hL1 hL2 D5
          · go_wp2_with fail
            go_meet
            exact RC.fin2 K7 (by omega) (by omega) e3 C5 (by omega) H7.out hlo hL1 hL2 D5
        · refine wpOp_val (v := .slice (some ⟨w5.heap.size, 0, none⟩) 1 1) (w' := w5.alloc (.cells #[.int .u8 0, .string ⟨#[]⟩, .slice none 0 0, .slice none 0 0] 25)) rfl (by rfl) (by go_simp) ?_
          refine wpAny_all (rs := [4]) (by kernel_rfl) (by decide) ?_
          intro i hi
          simp only [List.mem_cons, List.not_mem_nil, or_false] at hi
          subst hi
          refine wpOp_val (v := .agg #[.int .u8 k, .string t, .slice na nl nc, .slice ka kl kc]) (w' := (w5.alloc (.cells #[.int .u8 0, .string ⟨#[]⟩, .slice none 0 0, .slice none 0 0] 25))) rfl (by rfl) (by go_simp) ?_
          refine wpAny_all (rs := [7]) (by kernel_rfl) (by decide) ?_
          intro i hi
          simp only [List.mem_cons, List.not_mem_nil, or_false] at hi
          subst hi
          refine wpOp_of (i := 7) rfl (by rfl) ?_
          refine wp_append_lies _ (.tmp 33) (.tmp 36) 23 rfl B 25 i0 _ 4 72 Tryz.underlying23 hi0 hz0 hz1 hz2 rfl (by decide) (.slice ao m2 cp) m2 ys rfl K6.o2 ⟨w5.heap.size, 0, none⟩ 1 1 [.int .u8 0, .string ⟨#[]⟩, .slice none 0 0, .slice none 0 0] rfl rfl HN (by simp [Value.oneCell']) (by decide) (by unfold maxLen; omega) (by omega) K6.hB _ rfl ?_
          intro g cp' w7 ho hg hat hlt7
          have H7 := Lib.hid (kid_grown hg hat)
          have K7 := K6.appK ho hg
          obtain ⟨m0, m1', m2', m3, fm0, fm1, fm2, fm3⟩ := K7.node.cells
          have hfz := World.ownsRow.frozenAt ho
          have hlz := own_len ho
          have hyl := K6.o2.1
          have z0 : w7.cell? ⟨g, m2 * 4, none⟩ = some (.int .u8 0) := by rw [World.ownsRow.cellAt ho _ (by omega), List.getElem?_append_right (by omega), hyl, Nat.sub_self]; rfl
          have z1 : w7.cell? ⟨g, m2 * 4 + 1, none⟩ = some (.string ⟨#[]⟩) := by rw [World.ownsRow.cellAt ho _ (by omega), List.getElem?_append_right (by omega), hyl, Nat.add_sub_cancel_left]; rfl
          have z2 : w7.cell? ⟨g, m2 * 4 + 2, none⟩ = some (.slice none 0 0) := by rw [World.ownsRow.cellAt ho _ (by omega), List.getElem?_append_right (by omega), hyl, Nat.add_sub_cancel_left]; rfl
          have z3 : w7.cell? ⟨g, m2 * 4 + 3, none⟩ = some (.slice none 0 0) := by rw [World.ownsRow.cellAt ho _ (by omega), List.getElem?_append_right (by omega), hyl, Nat.add_sub_cancel_left]; rfl
          have hgB : B ≤ g := (ho.lt g rfl).1
          have hgn : g ≠ n := by have := K7.hn; omega
          simp only [List.getElem_toArray, List.getElem_cons_succ, List.getElem_cons_zero, Act.put, List.setIfInBounds_toArray, List.set_cons_succ, List.set_cons_zero]
          refine wpAny_take (i := 8) (v := ?_) rfl (by kernel_rfl) (by kernel_rfl) (by kernel_rfl) (fun _ _ _ h => h) (Or.inl ⟨by rfl, ?_⟩) ?_
          rotate_left
          · intro wx; go_simp; rw [if_pos (by omega)]; try with_reducible rfl
          rotate_left
          refine wpAny_take (i := 10) (v := ?_) rfl (by kernel_rfl) (by kernel_rfl) (by kernel_rfl) (fun _ _ _ h => h) (Or.inl ⟨by rfl, ?_⟩) ?_
          rotate_left
          · intro wx; go_simp; try with_reducible rfl
          rotate_left
          refine wpAny_take (i := 11) (v := ?_) rfl (by kernel_rfl) (by kernel_rfl) (by kernel_rfl) (fun _ _ _ h => h) (Or.inl ⟨by rfl, ?_⟩) ?_
          rotate_left
          · intro wx; go_simp; try with_reducible rfl
          rotate_left
          simp only [List.getElem_toArray, List.getElem_cons_succ, List.getElem_cons_zero, Act.put, List.setIfInBounds_toArray, List.set_cons_succ, List.set_cons_zero]
          refine wpAny_two (i := 9) (j := 12) rfl rfl (by kernel_rfl) (by kernel_rfl) (by kernel_rfl) ?_ ?_
          · go_wp2_with fail
            go_meet
            exact RC.fin1 K7 (by omega) (by omega) e3 C5 (by omega) H7.out hlo hL1 hL2 D5
          · go_wp2_with fail
            go_meet
            exact RC.fin2 K7 (by omega) (by omega) e3 C5 (by omega) H7.out hlo hL1 hL2 D5
      · refine wpOp_val (v := .agg #[.int .u8 k, .string t, .slice na nl nc, .slice ka kl kc]) (w' := w5) rfl (by rfl) (by go_simp) ?_
        refine wpAny_all (rs := [3, 6]) (by kernel_rfl) (by decide) ?_
        intro i hi
        simp only [List.mem_cons, List.not_mem_nil, or_false] at hi
        rcases hi with rfl | rfl
        · refine wpOp_val (v := .slice ao m2 cp) (w' := w5) rfl (by rfl) (by go_simp) ?_
          refine wpAny_take (i := 5) (v := ?_) rfl (by kernel_rfl) (by kernel_rfl) (by kernel_rfl) (fun _ _ _ h => h) (Or.inl ⟨by rfl, ?_⟩) ?_
          rotate_left
          · intro wx; go_simp; try with_reducible rfl
          rotate_left
          refine wpAny_all (rs := [6]) (by kernel_rfl) (by decide) ?_
          intro i hi
          simp only [List.mem_cons, List.not_mem_nil, or_false] at hi
          subst hi
          refine wpOp_val (v := .slice (some ⟨w5.heap.size, 0, none⟩) 1 1) (w' := w5.alloc (.cells #[.int .u8 0, .string ⟨#[]⟩, .slice none 0 0, .slice none 0 0] 25)) rfl (by rfl) (by go_simp) ?_
          refine wpAny_all (rs := [7]) (by kernel_rfl) (by decide) ?_
          intro i hi
          simp only [List.mem_cons, List.not_mem_nil, or_false] at hi
          subst hi
          refine wpOp_of (i := 7) rfl (by rfl) ?_
          refine wp_append_lies _ (.tmp 33) (.tmp 36) 23 rfl B 25 i0 _ 4 72 Tryz.underlying23 hi0 hz0 hz1 hz2 rfl (by decide) (.slice ao m2 cp) m2 ys rfl K6.o2 ⟨w5.heap.size, 0, none⟩ 1 1 [.int .u8 0, .string ⟨#[]⟩, .slice none 0 0, .slice none 0 0] rfl rfl HN (by simp [Value.oneCell']) (by decide) (by unfold maxLen; omega) (by omega) K6.hB _ rfl ?_
          intro g cp' w7 ho hg hat hlt7
          have H7 := Lib.hid (kid_grown hg hat)
          have K7 := K6.appK ho hg
          obtain ⟨m0, m1', m2', m3, fm0, fm1, fm2, fm3⟩ := K7.node.cells
          have hfz := World.ownsRow.frozenAt ho
          have hlz := own_len ho
          have hyl := K6.o2.1
          have z0 : w7.cell? ⟨g, m2 * 4, none⟩ = some (.int .u8 0) := by rw [World.ownsRow.cellAt ho _ (by omega), List.getElem?_append_right (by omega), hyl, Nat.sub_self]; rfl
          have z1 : w7.cell? ⟨g, m2 * 4 + 1, none⟩ = some (.string ⟨#[]⟩) := by rw [World.ownsRow.cellAt ho _ (by omega), List.getElem?_append_right (by omega), hyl, Nat.add_sub_cancel_left]; rfl
          have z2 : w7.cell? ⟨g, m2 * 4 + 2, none⟩ = some (.slice none 0 0) := by rw [World.ownsRow.cellAt ho _ (by omega), List.getElem?_append_right (by omega), hyl, Nat.add_sub_cancel_left]; rfl
          have z3 : w7.cell? ⟨g, m2 * 4 + 3, none⟩ = some (.slice none 0 0) := by rw [World.ownsRow.cellAt ho _ (by omega), List.getElem?_append_right (by omega), hyl, Nat.add_sub_cancel_left]; rfl
          have hgB : B ≤ g := (ho.lt g rfl).1
          have hgn : g ≠ n := by have := K7.hn; omega
          simp only [List.getElem_toArray, List.getElem_cons_succ, List.getElem_cons_zero, Act.put, List.setIfInBounds_toArray, List.set_cons_succ, List.set_cons_zero]
          refine wpAny_take (i := 8) (v := ?_) rfl (by kernel_rfl) (by kernel_rfl) (by kernel_rfl) (fun _ _ _ h => h) (Or.inl ⟨by rfl, ?_⟩) ?_
          rotate_left
          · intro wx; go_simp; rw [if_pos (by omega)]; try with_reducible rfl
          rotate_left
          refine wpAny_take (i := 10) (v := ?_) rfl (by kernel_rfl) (by kernel_rfl) (by kernel_rfl) (fun _ _ _ h => h) (Or.inl ⟨by rfl, ?_⟩) ?_
          rotate_left
          · intro wx; go_simp; try with_reducible rfl
          rotate_left
          refine wpAny_take (i := 11) (v := ?_) rfl (by kernel_rfl) (by kernel_rfl) (by kernel_rfl) (fun _ _ _ h => h) (Or.inl ⟨by rfl, ?_⟩) ?_
          rotate_left
          · intro wx; go_simp; try with_reducible rfl
          rotate_left
          simp only [List.getElem_toArray, List.getElem_cons_succ, List.getElem_cons_zero, Act.put, List.setIfInBounds_toArray, List.set_cons_succ, List.set_cons_zero]
          refine wpAny_two (i := 9) (j := 12) rfl rfl (by kernel_rfl) (by kernel_rfl) (by kernel_rfl) ?_ ?_
          · go_wp2_with fail
            go_meet
            exact RC.fin1 K7 (by omega) (by omega) e3 C5 (by omega) H7.out hlo hL1 hL2 D5
          · go_wp2_with fail
            go_meet
            exact RC.fin2 K7 (by omega) (by omega) e3 C5 (by omega) H7.out hlo hL1 hL2 D5
        · refine wpOp_val (v := .slice (some ⟨w5.heap.size, 0, none⟩) 1 1) (w' := w5.alloc (.cells #[.int .u8 0, .string ⟨#[]⟩, .slice none 0 0, .slice none 0 0] 25)) rfl (by rfl) (by go_simp) ?_
          refine wpAny_all (rs := [3]) (by kernel_rfl) (by decide) ?_
          intro i hi
          simp only [List.mem_cons, List.not_mem_nil, or_false] at hi
          subst hi
          refine wpOp_val (v := .slice ao m2 cp) (w' := (w5.alloc (.cells #[.int .u8 0, .string ⟨#[]⟩, .slice none 0 0, .slice none 0 0] 25))) rfl (by rfl) (by go_simp) ?_
          refine wpAny_take (i := 5) (v := ?_) rfl (by kernel_rfl) (by kernel_rfl) (by kernel_rfl) (fun _ _ _ h => h) (Or.inl ⟨by rfl, ?_⟩) ?_
          rotate_left
          · intro wx; go_simp; try with_reducible rfl
          rotate_left
          refine wpAny_all (rs := [7]) (by kernel_rfl) (by decide) ?_
          intro i hi
          simp only [List.mem_cons, List.not_mem_nil, or_false] at hi
          subst hi
          refine wpOp_of (i := 7) rfl (by rfl) ?_
          refine wp_append_lies _ (.tmp 33) (.tmp 36) 23 rfl B 25 i0 _ 4 72 Tryz.underlying23 hi0 hz0 hz1 hz2 rfl (by decide) (.slice ao m2 cp) m2 ys rfl K6.o2 ⟨w5.heap.size, 0, none⟩ 1 1 [.int .u8 0, .string ⟨#[]⟩, .slice none 0 0, .slice none 0 0] rfl rfl HN (by simp [Value.oneCell']) (by decide) (by unfold maxLen; omega) (by omega) K6.hB _ rfl ?_
          intro g cp' w7 ho hg hat hlt7
          have H7 := Lib.hid (kid_grown hg hat)
          have K7 := K6.appK ho hg
          obtain ⟨m0, m1', m2', m3, fm0, fm1, fm2, fm3⟩ := K7.node.cells
          have hfz := World.ownsRow.frozenAt ho
          have hlz := own_len ho
          have hyl := K6.o2.1
          have z0 : w7.cell? ⟨g, m2 * 4, none⟩ = some (.int .u8 0) := by rw [World.ownsRow.cellAt ho _ (by omega), List.getElem?_append_right (by omega), hyl, Nat.sub_self]; rfl
          have z1 : w7.cell? ⟨g, m2 * 4 + 1, none⟩ = some (.string ⟨#[]⟩) := by rw [World.ownsRow.cellAt ho _ (by omega), List.getElem?_append_right (by omega), hyl, Nat.add_sub_cancel_left]; rfl
          have z2 : w7.cell? ⟨g, m2 * 4 + 2, none⟩ = some (.slice none 0 0) := by rw [World.ownsRow.cellAt ho _ (by omega), List.getElem?_append_right (by omega), hyl, Nat.add_sub_cancel_left]; rfl
          have z3 : w7.cell? ⟨g, m2 * 4 + 3, none⟩ = some (.slice none 0 0) := by rw [World.ownsRow.cellAt ho _ (by omega), List.getElem?_append_right (by omega), hyl, Nat.add_sub_cancel_left]; rfl
          have hgB : B ≤ g := (ho.lt g rfl).1
          have hgn : g ≠ n := by have := K7.hn; omega
          simp only [List.getElem_toArray, List.getElem_cons_succ, List.getElem_cons_zero, Act.put, List.setIfInBounds_toArray, List.set_cons_succ, List.set_cons_zero]
          refine wpAny_take (i := 8) (v := ?_) rfl (by kernel_rfl) (by kernel_rfl) (by kernel_rfl) (fun _ _ _ h => h) (Or.inl ⟨by rfl, ?_⟩) ?_
          rotate_left
          · intro wx; go_simp; rw [if_pos (by omega)]; try with_reducible rfl
          rotate_left
          refine wpAny_take (i := 10) (v := ?_) rfl (by kernel_rfl) (by kernel_rfl) (by kernel_rfl) (fun _ _ _ h => h) (Or.inl ⟨by rfl, ?_⟩) ?_
          rotate_left
          · intro wx; go_simp; try with_reducible rfl
          rotate_left
          refine wpAny_take (i := 11) (v := ?_) rfl (by kernel_rfl) (by kernel_rfl) (by kernel_rfl) (fun _ _ _ h => h) (Or.inl ⟨by rfl, ?_⟩) ?_
          rotate_left
          · intro wx; go_simp; try with_reducible rfl
          rotate_left
          simp only [List.getElem_toArray, List.getElem_cons_succ, List.getElem_cons_zero, Act.put, List.setIfInBounds_toArray, List.set_cons_succ, List.set_cons_zero]
          refine wpAny_two (i := 9) (j := 12) rfl rfl (by kernel_rfl) (by kernel_rfl) (by kernel_rfl) ?_ ?_
          · go_wp2_with fail
            go_meet
            exact RC.fin1 K7 (by omega) (by omega) e3 C5 (by omega) H7.out hlo hL1 hL2 D5
          · go_wp2_with fail
            go_meet
            exact RC.fin2 K7 (by omega) (by omega) e3 C5 (by omega) H7.out hlo hL1 hL2 D5
      · refine wpOp_val (v := .slice (some ⟨w5.heap.size, 0, none⟩) 1 1) (w' := w5.alloc (.cells #[.int .u8 0, .string ⟨#[]⟩, .slice none 0 0, .slice none 0 0] 25)) rfl (by rfl) (by go_simp) ?_
        refine wpAny_all (rs := [3, 4]) (by kernel_rfl) (by decide) ?_
        intro i hi
        simp only [List.mem_cons, List.not_mem_nil, or_false] at hi
        rcases hi with rfl | rfl
        · refine wpOp_val (v := .slice ao m2 cp) (w' := (w5.alloc (.cells #[.int .u8 0, .string ⟨#[]⟩, .slice none 0 0, .slice none 0 0] 25))) rfl (by rfl) (by go_simp) ?_
          refine wpAny_take (i := 5) (v := ?_) rfl (by kernel_rfl) (by kernel_rfl) (by kernel_rfl) (fun _ _ _ h => h) (Or.inl ⟨by rfl, ?_⟩) ?_
          rotate_left
          · intro wx; go_simp; try with_reducible rfl
          rotate_left
          refine wpAny_all (rs := [4]) (by kernel_rfl) (by decide) ?_
          intro i hi
          simp only [List.mem_cons, List.not_mem_nil, or_false] at hi
          subst hi
          refine wpOp_val (v := .agg #[.int .u8 k, .string t, .slice na nl nc, .slice ka kl kc]) (w' := (w5.alloc (.cells #[.int .u8 0, .string ⟨#[]⟩, .slice none 0 0, .slice none 0 0] 25))) rfl (by rfl) (by go_simp) ?_
          refine wpAny_all (rs := [7]) (by kernel_rfl) (by decide) ?_
          intro i hi
          simp only [List.mem_cons, List.not_mem_nil, or_false] at hi
          subst hi
          refine wpOp_of (i := 7) rfl (by rfl) ?_
          refine wp_append_lies _ (.tmp 33) (.tmp 36) 23 rfl B 25 i0 _ 4 72 Tryz.underlying23 hi0 hz0 hz1 hz2 rfl (by decide) (.slice ao m2 cp) m2 ys rfl K6.o2 ⟨w5.heap.size, 0, none⟩ 1 1 [.int .u8 0, .string ⟨#[]⟩, .slice none 0 0, .slice none 0 0] rfl rfl HN (by simp [Value.oneCell']) (by decide) (by unfold maxLen; omega) (by omega) K6.hB _ rfl ?_
          intro g cp' w7 ho hg hat hlt7
          have H7 := Lib.hid (kid_grown hg hat)
          have K7 := K6.appK ho hg
          obtain ⟨m0, m1', m2', m3, fm0, fm1, fm2, fm3⟩ := K7.node.cells
          have hfz := World.ownsRow.frozenAt ho
          have hlz := own_len ho
          have hyl := K6.o2.1
          have z0 : w7.cell? ⟨g, m2 * 4, none⟩ = some (.int .u8 0) := by rw [World.ownsRow.cellAt ho _ (by omega), List.getElem?_append_right (by omega), hyl, Nat.sub_self]; rfl
          have z1 : w7.cell? ⟨g, m2 * 4 + 1, none⟩ = some (.string ⟨#[]⟩) := by rw [World.ownsRow.cellAt ho _ (by omega), List.getElem?_append_right (by omega), hyl, Nat.add_sub_cancel_left]; rfl
          have z2 : w7.cell? ⟨g, m2 * 4 + 2, none⟩ = some (.slice none 0 0) := by rw [World.ownsRow.cellAt ho _ (by omega), List.getElem?_append_right (by omega), hyl, Nat.add_sub_cancel_left]; rfl
          have z3 : w7.cell? ⟨g, m2 * 4 + 3, none⟩ = some (.slice none 0 0) := by rw [World.ownsRow.cellAt ho _ (by omega), List.getElem?_append_right (by omega), hyl, Nat.add_sub_cancel_left]; rfl
          have hgB : B ≤ g := (ho.lt g rfl).1
          have hgn : g ≠ n := by have := K7.hn; omega
          simp only [List.getElem_toArray, List.getElem_cons_succ, List.getElem_cons_zero, Act.put, List.setIfInBounds_toArray, List.set_cons_succ, List.set_cons_zero]
          refine wpAny_take (i := 8) (v := ?_) rfl (by kernel_rfl) (by kernel_rfl) (by kernel_rfl) (fun _ _ _ h => h) (Or.inl ⟨by rfl, ?_⟩) ?_
          rotate_left
          · intro wx; go_simp; rw [if_pos (by omega)]; try with_reducible rfl
          rotate_left
          refine wpAny_take (i := 10) (v := ?_) rfl (by kernel_rfl) (by kernel_rfl) (by kernel_rfl) (fun _ _ _ h => h) (Or.inl ⟨by rfl, ?_⟩) ?_
          rotate_left
          · intro wx; go_simp; try with_reducible rfl
          rotate_left
          refine wpAny_take (i := 11) (v := ?_) rfl (by kernel_rfl) (by kernel_rfl) (by kernel_rfl) (fun _ _ _ h => h) (Or.inl ⟨by rfl, ?_⟩) ?_
          rotate_left
          · intro wx; go_simp; try with_reducible rfl
          rotate_left
          simp only [List.getElem_toArray, List.getElem_cons_succ, List.getElem_cons_zero, Act.put, List.setIfInBounds_toArray, List.set_cons_succ, List.set_cons_zero]
          refine wpAny_two (i := 9) (j := 12) rfl rfl (by kernel_rfl) (by kernel_rfl) (by kernel_rfl) ?_ ?_
          · go_wp2_with fail
            go_meet
            exact RC.fin1 K7 (by omega) (by omega) e3 C5 (by omega) H7.out hlo hL1 hL2 D5
          · go_wp2_with fail
            go_meet
            exact RC.fin2 K7 (by omega) (by omega) e3 C5 (by omega) H7.out hlo hL1 hL2 D5
        · refine wpOp_val (v := .agg #[.int .u8 k, .string t, .slice na nl nc, .slice ka kl kc]) (w' := (w5.alloc (.cells #[.int .u8 0, .string ⟨#[]⟩, .slice none 0 0, .slice none 0 0] 25))) rfl (by rfl) (by go_simp) ?_
          refine wpAny_all (rs := [3]) (by kernel_rfl) (by decide) ?_
          intro i hi
          simp only [List.mem_cons, List.not_mem_nil, or_false] at hi
          subst hi
          refine wpOp_val (v := .slice ao m2 cp) (w' := (w5.alloc (.cells #[.int .u8 0, .string ⟨#[]⟩, .slice none 0 0, .slice none 0 0] 25))) rfl (by rfl) (by go_simp) ?_
          refine wpAny_take (i := 5) (v := ?_) rfl (by kernel_rfl) (by kernel_rfl) (by kernel_rfl) (fun _ _ _ h => h) (Or.inl ⟨by rfl, ?_⟩) ?_
          rotate_left
          · intro wx; go_simp; try with_reducible rfl
          rotate_left
          refine wpAny_all (rs := [7]) (by kernel_rfl) (by decide) ?_
          intro i hi
          simp only [List.mem_cons, List.not_mem_nil, or_false] at hi
          subst hi
          refine wpOp_of (i := 7) rfl (by rfl) ?_
          refine wp_append_lies _ (.tmp 33) (.tmp 36) 23 rfl B 25 i0 _ 4 72 Tryz.underlying23 hi0 hz0 hz1 hz2 rfl (by decide) (.slice ao m2 cp) m2 ys rfl K6.o2 ⟨w5.heap.size, 0, none⟩ 1 1 [.int .u8 0, .string ⟨#[]⟩, .slice none 0 0, .slice none 0 0] rfl rfl HN (by simp [Value.oneCell']) (by decide) (by unfold maxLen; omega) (by omega) K6.hB _ rfl ?_
          intro g cp' w7 ho hg hat hlt7
          have H7 := Lib.hid (kid_grown hg hat)
          have K7 := K6.appK ho hg
          obtain ⟨m0, m1', m2', m3, fm0, fm1, fm2, fm3⟩ := K7.node.cells
          have hfz := World.ownsRow.frozenAt ho
          have hlz := own_len ho
          have hyl := K6.o2.1
          have z0 : w7.cell? ⟨g, m2 * 4, none⟩ = some (.int .u8 0) := by rw [World.ownsRow.cellAt ho _ (by omega), List.getElem?_append_right (by omega), hyl, Nat.sub_self]; rfl
          have z1 : w7.cell? ⟨g, m2 * 4 + 1, none⟩ = some (.string ⟨#[]⟩) := by rw [World.ownsRow.cellAt ho _ (by omega), List.getElem?_append_right (by omega), hyl, Nat.add_sub_cancel_left]; rfl
          have z2 : w7.cell? ⟨g, m2 * 4 + 2, none⟩ = some (.slice none 0 0) := by rw [World.ownsRow.cellAt ho _ (by omega), List.getElem?_append_right (by omega), hyl, Nat.add_sub_cancel_left]; rfl
          have z3 : w7.cell? ⟨g, m2 * 4 + 3, none⟩ = some (.slice none 0 0) := by rw [World.ownsRow.cellAt ho _ (by omega), List.getElem?_append_right (by omega), hyl, Nat.add_sub_cancel_left]; rfl
          have hgB : B ≤ g := (ho.lt g rfl).1
          have hgn : g ≠ n := by have := K7.hn; omega
          simp only [List.getElem_toArray, List.getElem_cons_succ, List.getElem_cons_zero, Act.put, List.setIfInBounds_toArray, List.set_cons_succ, List.set_cons_zero]
          refine wpAny_take (i := 8) (v := ?_) rfl (by kernel_rfl) (by kernel_rfl) (by kernel_rfl) (fun _ _ _ h => h) (Or.inl ⟨by rfl, ?_⟩) ?_
          rotate_left
          · intro wx; go_simp; rw [if_pos (by omega)]; try with_reducible rfl
          rotate_left
          refine wpAny_take (i := 10) (v := ?_) rfl (by kernel_rfl) (by kernel_rfl) (by kernel_rfl) (fun _ _ _ h => h) (Or.inl ⟨by rfl, ?_⟩) ?_
          rotate_left
          · intro wx; go_simp; try with_reducible rfl
          rotate_left
          refine wpAny_take (i := 11) (v := ?_) rfl (by kernel_rfl) (by kernel_rfl) (by kernel_rfl) (fun _ _ _ h => h) (Or.inl ⟨by rfl, ?_⟩) ?_
          rotate_left
          · intro wx; go_simp; try with_reducible rfl
          rotate_left
          simp only [List.getElem_toArray, List.getElem_cons_succ, List.getElem_cons_zero, Act.put, List.setIfInBounds_toArray, List.set_cons_succ, List.set_cons_zero]
          refine wpAny_two (i := 9) (j := 12) rfl rfl (by kernel_rfl) (by kernel_rfl) (by kernel_rfl) ?_ ?_
          · go_wp2_with fail
            go_meet
            exact RC.fin1 K7 (by omega) (by omega) e3 C5 (by omega) H7.out hlo hL1 hL2 D5
          · go_wp2_with fail
            go_meet
            exact RC.fin2 K7 (by omega) (by omega) e3 C5 (by omega) H7.out hlo hL1 hL2 D5
    case rest =>
      have h5 : RC Nq b n B (σ2.at_ + 1) s tw lo σ2 w0 k0 t0 ns' (ks ++ [nd]) wc.heap.size wc := hcut
      clear hcut
      go_upto_if 45 with (first
        | (go_at_call 15; refine (space_ex b s tw lo σ2 _ h5.r hsm l2').mono ?_; rintro e w6 ⟨σ3, rfl, hR6, hM6, l3, l3', hsp3⟩; have h6 := h5.mv hR6 hM6 (Nat.le_refl _))
        | (go_at_call 29; refine (see_ex b s tw lo σ3 _ hR6 hsm l3').mono ?_; rintro e w7 ⟨X2, rfl, hR7, hM7, hX2, hb3⟩; have h7 := h6.mv hR7 hM7 (Nat.le_refl _)))
      cases hx2 : (X2 == 125)
      case true =>
        have hlt := hX2 (by have := of_decide_eq_true hx2; omega)
        have HA := Lib.hid (show RdN s tw lo .obj σ true { σ3 with at_ := σ3.at_ + 1 } from HL.out _ _ (by rw [← hsp3.out]; exact .objE HNm.out HV.out (by rw [hsp3.out, hb3.out]; simpa using hx2)))
        have HA2 := Lib.hid (show CnN s tw lo .obj σ { σ3 with at_ := σ3.at_ + 1 } ns' (ks ++ [nd]) from HNS.out ▸ HLC.out _ _ _ (by rw [← hsp3.out]; exact .objE HNT.out HCV.out (by rw [hsp3.out, hb3.out]; simpa using hx2)))
        obtain ⟨c0, c1, c2, c3, c4, c5, f1, f4, f5⟩ := hR7.cells
        have hl63 : (σ3.at_ : Int) < 9223372036854775807 := by omega
        go_wp2_with fail
        all_goals go_ret
        exact ⟨_, _, _, _, _, _, rfl, h7.mv (hR7.setAt (σ3.at_ + 1)) ((Mv.refl _ _).setCell _ _) (Nat.le_refl _), by simp; omega, by simp; omega, HA.out, fun _ => HA2.out⟩
      have Hne := Lib.hid (show bAt s (St.sp s σ2).at_ ≠ 125 by rw [hsp3.out, hb3.out]; simpa using hx2)
      clear hX2 hx2 hb3 h5 h6 hR6 hM6 hM7
      go_upto_if 55 with (go_at_call 54; refine (need_ex b s tw lo σ3 _ _ _ hR7 hsm l3').mono ?_; rintro e w8 ⟨r8, σ4, rfl, hR8, hM8, l4, l4', l4'', hn4⟩; have h8 := h7.mv hR8 hM8 (Nat.le_refl _))
      cases r8
      case false =>
        go_wp2_with fail
        all_goals go_ret
        exact ⟨_, σ4, _, _, _, _, rfl, h8, by omega, l4', HL.out _ _ (.objN HNm.out HV.out Hne.out (by rw [hsp3.out]; exact hn4.out)), fun h => (by cases h)⟩
      have HLC1 := Lib.hid (show ∀ x ns2 ks2, CnN s tw lo (.objL ns') (St.sp s σ4) x ns2 ks2 → CnN s tw lo .obj σ x (ns' ++ ns2) ((ks ++ [nd]) ++ ks2) from fun x ns2 ks2 h => by rw [HNS.out, List.append_assoc, List.append_assoc]; exact HLC.out _ _ _ (.objC HNT.out HCV.out Hne.out (by rw [hsp3.out]; exact hn4.out) (HNS.out ▸ h)))
      have HL1 := Lib.hid (show ∀ r x, RdN s tw lo (.objL ns') (St.sp s σ4) r x → RdN s tw lo .obj σ r x from fun r x h => HL.out _ _ (.objC HNT.out HV.out Hne.out (by rw [hsp3.out]; exact hn4.out) (HNS.out ▸ h)))
      have l5 := l4'' rfl
      go_wp2_with (go_at_call 15; refine (space_ex b s tw lo σ4 _ hR8 hsm l4').mono ?_; rintro e w9 ⟨σ5, rfl, hR9, hM9, l6, l6', hsp5⟩; have HL2 := Lib.hid (hsp5.out ▸ HL1.out); have HLC2 := Lib.hid (hsp5.out ▸ HLC1.out); have h9 := h8.mv hR9 hM9 (Nat.le_refl _))
      go_roundg (gk - 1)
      case measure => omega
      case rel => exact ⟨σ5, _, _, _, h9.mv hR9 (Mv.refl _ _) (by omega), by omega, by omega, l6', HL2, HLC2⟩
end
section
/- (Cv) The reader of the reference, with content: value. Lines by program (mkc.py). -/
open Go.RowKit

theorem NdM.newCells {w3 : World} {B r lo : Nat} {n : Nd} {vs : List Value} (h : NdM w3 (fun g => B ≤ g ∧ g < w3.heap.size) n vs) (hr : r < B) (hl : lo ≤ B) (a b c d : Value) :
    NdM ((((w3.setCell ⟨r, 0, none⟩ a).setCell ⟨r, 1, none⟩ b).setCell ⟨r, 2, none⟩ c).setCell ⟨r, 3, none⟩ d) (fun g => lo ≤ g ∧ g < ((((w3.setCell ⟨r, 0, none⟩ a).setCell ⟨r, 1, none⟩ b).setCell ⟨r, 2, none⟩ c).setCell ⟨r, 3, none⟩ d).heap.size) n vs :=
  NdM.keep (w := w3) (P := fun g => B ≤ g ∧ g < w3.heap.size) (fun g ⟨h1, h2⟩ => ⟨⟨by omega, by simpa [World.setCell] using h2⟩,
    (Below.heap_setCell _ _ _ _ (by simp; omega)).trans ((Below.heap_setCell _ _ _ _ (by simp; omega)).trans ((Below.heap_setCell _ _ _ _ (by simp; omega)).trans (Below.heap_setCell _ _ _ _ (by simp; omega))))⟩) _ _ h
theorem NdM.scal (w : World) (P : Nat → Prop) (k : Int) (t : ByteArray) : NdM w P (.mk k t [] []) [.int .u8 k, .string t, .slice none 0 0, .slice none 0 0] := by
  rw [NdM]
  exact ⟨.slice none 0 0, .slice none 0 0, [], ⟨rfl, World.ownsRow_nil _ _ _ _, (fun g e => by cases e), World.ownsRow_nil _ _ _ _, (fun g e => by cases e)⟩, by rw [KdM]⟩
theorem CnN.names {s : ByteArray} {tw lo : Bool} {t : Tn} {σ σ' : St} {ns : List ByteArray} {ks : List Nd} (h : CnN s tw lo t σ σ' ns ks) : t = .arr ∨ t = .arrL → ns = [] := by
  cases h <;> intro ht <;> first | rfl | (rcases ht with h | h <;> cases h)
theorem CnN.arr_names {s : ByteArray} {tw lo : Bool} {σ σ' : St} {ns : List ByteArray} {ks : List Nd} (h : CnN s tw lo .arr σ σ' ns ks) : ns = [] := h.names (.inl rfl)
set_option maxRecDepth 100000 in
set_option maxHeartbeats 4000000 in
theorem value_cn (Nq : Value → Prop) (b : Nat) (s : ByteArray) (tw lo : Bool) (hs : s.size ≤ 2147483647)
    (hQ : ∀ σ σ', St.quoted s lo σ = (true, σ') → Nq (.string (s.extract σ.at_ (σ'.at_ + 1)))) (hag : tw = false → ∀ B, AgX Nq b B s lo) :
    ∀ (m : Nat) (σ : St), s.size - σ.at_ ≤ m → σ.at_ ≤ s.size → ValC b s tw lo σ := by
  have hsm : s.size ≤ maxLen := by unfold maxLen; omega
  intro m
  induction m using Nat.strongRecOn with
  | _ m ih =>
  intro σ hm ha w h
  have hlt0 := h.lt
  go_enter Tryz.func14, Tryz.ntmps14
  go_upto_if 15 with (first
    | (go_at_call 15; refine (space_ex b s tw lo σ _ (h.other (Below.heap_alloc _ _ _ hlt0)) hsm ha).mono ?_; rintro e w1 ⟨σ1, rfl, hR1, hM1, l1, l1', hsp1⟩)
    | (go_at_call 29; refine (see_ex b s tw lo σ1 _ hR1 hsm l1').mono ?_; rintro e w2 ⟨X, rfl, hR2, hM2, hX, hbX⟩))
  have hM12 := hM1.trans hM2
  have hsz2 := hM12.size
  simp at hsz2
  have hMA : Mv b w (w2.alloc (.cells #[.int .u8 X, .string ⟨#[]⟩, .slice none 0 0, .slice none 0 0] 25)) := (((Mv.refl b w).alloc _).trans hM12).alloc _
  have hRA : IsR (w2.alloc (.cells #[.int .u8 X, .string ⟨#[]⟩, .slice none 0 0, .slice none 0 0] 25)) b s tw lo σ1 := hR2.other (Below.heap_alloc _ _ _ hR2.lt)
  have hnA : NodeB (w2.alloc (.cells #[.int .u8 X, .string ⟨#[]⟩, .slice none 0 0, .slice none 0 0] 25)) w2.heap.size X ⟨#[]⟩ (.slice none 0 0) (.slice none 0 0) := ⟨_, heap_alloc_new _ _⟩
  have hrA : NodeB (w2.alloc (.cells #[.int .u8 X, .string ⟨#[]⟩, .slice none 0 0, .slice none 0 0] 25)) w.heap.size 0 ⟨#[]⟩ (.slice none 0 0) (.slice none 0 0) :=
    ⟨_, (Below.heap_alloc _ _ _ (by omega)).trans ((hM12.block w.heap.size (by simp) (by simp; omega)).trans (heap_alloc_new w _))⟩
  have hpb : w2.heap.size ≠ b := by have := hR2.lt; omega
  have hpw : w.heap.size < w2.heap.size := by omega
  clear hM12 hsz2 hR1 hM1 hR2 hM2 h
  revert hMA hRA hnA hrA hpb hpw
  generalize w2.alloc (.cells #[.int .u8 X, .string ⟨#[]⟩, .slice none 0 0, .slice none 0 0] 25) = wA
  generalize w2.heap.size = p
  intro hMA hRA hnA hrA hpb hpw
  cases hx : (X == 123)
  case true =>
    have HC := Lib.hid (show bAt s (St.sp s σ).at_ = 123 by rw [hsp1.out, hbX.out]; simpa using hx)
    have hlt := hX (by have := of_decide_eq_true hx; omega)
    have hts : σ1.at_ + 1 ≤ s.size := by omega
    obtain ⟨c0, c1, c2, c3, c4, c5, f1, f4, f5⟩ := hRA.cells
    have hRB := hRA.setAt (σ1.at_ + 1)
    have hMB := hMA.setCell 1 (.int .i64 ((σ1.at_ + 1 : Nat) : Int))
    have hnB : NodeB (wA.setCell ⟨b, 1, none⟩ (.int .i64 ((σ1.at_ + 1 : Nat) : Int))) p X ⟨#[]⟩ (.slice none 0 0) (.slice none 0 0) := hnA.other (Below.heap_setCell _ _ _ _ (by simpa using hpb))
    have hrB : NodeB (wA.setCell ⟨b, 1, none⟩ (.int .i64 ((σ1.at_ + 1 : Nat) : Int))) w.heap.size 0 ⟨#[]⟩ (.slice none 0 0) (.slice none 0 0) := hrA.other (Below.heap_setCell _ _ _ _ (by simp; omega))
    have hcall := fun wB => object_cn Nq b p wB.heap.size s tw lo { σ1 with at_ := σ1.at_ + 1 } wB wB X ⟨#[]⟩ 0
    have hbl := hRB.lt
    have hpl := hnB.lt
    have hrl := hrB.lt
    have hRBB : ∀ wB : World, wB = wA.setCell ⟨b, 1, none⟩ (.int .i64 ((σ1.at_ + 1 : Nat) : Int)) → RC Nq b p wB.heap.size (σ1.at_ + 1) s tw lo { σ1 with at_ := σ1.at_ + 1 } wB X ⟨#[]⟩ [] [] 0 wB := fun wB e => by
      subst e
      exact ⟨⟨.slice none 0 0, .slice none 0 0, 0, 0, [], [], ⟨hRB, hnB, World.ownsRow_nil _ _ _ _, World.ownsRow_nil _ _ _ _, FrB.refl _ _ _ _, hbl, hpl, hpb, Nat.le_refl _⟩, Nat.zero_le _, Nat.zero_le _, (fun x hx => by cases hx), Cont.nil _ _, (fun g e => by cases e), (fun g e => by cases e)⟩⟩
    have ih' : ∀ σ' : St, σ1.at_ + 1 ≤ σ'.at_ → σ'.at_ ≤ s.size → ValC b s tw lo σ' := fun σ' h1 h2 => ih (s.size - σ'.at_) (by omega) σ' (Nat.le_refl _) h2
    clear hX
    go_upto_region 7 with (go_at_call 30; refine (hcall _ (hRBB _ rfl) hs hts ih' hQ hag).mono ?_; rintro e w3 ⟨r, σ2, M, ns, ks, L3, rfl, hB3, l2, l2', ho, hoc⟩; have HO := Lib.hid ho; have HOC := Lib.hid hoc; clear ho hoc)
    clear hx hcall hRBB ih' c0 c1 c2 c3 c4 c5 f1 f4 f5
    have l2 : σ1.at_ + 1 ≤ σ2.at_ := l2
    have hz0 : s.size = 0 → σ2.fault ≠ 0 := fun h => by omega
    obtain ⟨nm, kd, nl, kl, xs, ys, hK, _, _, _, hC3, _⟩ := hB3
    have hX0 : X = 123 := by rw [← hbX.out, ← hsp1.out]; exact HC.out
    have HX0 := Lib.hid hX0
    clear hX0
    obtain ⟨na, nc, rfl⟩ := own_slice hK.o1
    obtain ⟨ka, kc, rfl⟩ := own_slice hK.o2
    have hR3 := hK.r
    have hF : Fr2 b p (wA.setCell ⟨b, 1, none⟩ (.int .i64 ((σ1.at_ + 1 : Nat) : Int))) w3 := ⟨hK.fr.os, hK.fr.tape, hK.fr.output, hK.fr.size, hK.fr.block⟩
    have hM3 : Mv b w w3 := hF.mv hMB (by omega)
    have hres : NodeB w3 w.heap.size 0 ⟨#[]⟩ (.slice none 0 0) (.slice none 0 0) := hrB.other (hF.block _ hrB.lt (by omega) (by omega))
    have hD3 := hC3.done hK.o1 hK.o2 X ⟨#[]⟩
    obtain ⟨m0, m1, m2, m3, fm0, fm1, fm2, fm3⟩ := hK.node.cells
    obtain ⟨p0, p1, p2, p3, fp0, fp1, fp2, fp3⟩ := hres.cells
    clear hRA hnA hMA hrA hRB hMB hnB hrB
    go_wp2_with fail
    have hres4 := hres.putNode X ⟨#[]⟩ (.slice na nl nc) (.slice ka kl kc)
    have hR4 := IsR.newCells hR3 (n := w.heap.size) (by omega) (.int .u8 X) (.string ⟨#[]⟩) (.slice na nl nc) (.slice ka kl kc)
    have hM4 := Mv.newCells hM3 (.int .u8 X) (.string ⟨#[]⟩) (.slice na nl nc) (.slice ka kl kc)
    have hD4 := hD3.newCells (r := w.heap.size) (lo := w.heap.size) hrl (Nat.le_of_lt hrl) (.int .u8 X) (.string ⟨#[]⟩) (.slice na nl nc) (.slice ka kl kc)
    revert hres4 hR4 hM4 hD4
    generalize ((((w3.setCell ⟨w.heap.size, 0, none⟩ (.int .u8 X)).setCell ⟨w.heap.size, 1, none⟩ (.string ⟨#[]⟩)).setCell ⟨w.heap.size, 2, none⟩ (.slice na nl nc)).setCell ⟨w.heap.size, 3, none⟩ (.slice ka kl kc)) = w4
    intro hres4 hR4 hM4 hD4
    obtain ⟨q0, q1, q2, q3, _, _, _, _⟩ := hres4.cells
    refine bodyPost_ret (v := .tuple #[.agg #[.int .u8 X, .string ⟨#[]⟩, .slice na nl nc, .slice ka kl kc], .bool r]) (by simp [results, Tryz.results14, go_sem, q0, q1, q2, q3]; try rfl) rfl ?_
    refine ⟨X, ⟨#[]⟩, na, nl, nc, ka, kl, kc, r, σ2, rfl, hR4, hM4, by omega, l2', hz0, .vobj HC.out (by rw [hsp1.out]; exact HO.out), fun hr => ?_⟩
    exact ⟨.mk 123 ⟨#[]⟩ ns ks, .vobj HC.out (by rw [hsp1.out]; exact HOC.out hr), by have := hD4; rw [HX0.out] at this ⊢; exact this⟩
  have H123 := Lib.hid (show bAt s σ1.at_ ≠ 123 by rw [hbX.out]; simpa using hx)
  clear hx
  cases hx : (X == 91)
  case true =>
    have HC := Lib.hid (show bAt s (St.sp s σ).at_ = 91 by rw [hsp1.out, hbX.out]; simpa using hx)
    have hlt := hX (by have := of_decide_eq_true hx; omega)
    have hts : σ1.at_ + 1 ≤ s.size := by omega
    obtain ⟨c0, c1, c2, c3, c4, c5, f1, f4, f5⟩ := hRA.cells
    have hRB := hRA.setAt (σ1.at_ + 1)
    have hMB := hMA.setCell 1 (.int .i64 ((σ1.at_ + 1 : Nat) : Int))
    have hnB : NodeB (wA.setCell ⟨b, 1, none⟩ (.int .i64 ((σ1.at_ + 1 : Nat) : Int))) p X ⟨#[]⟩ (.slice none 0 0) (.slice none 0 0) := hnA.other (Below.heap_setCell _ _ _ _ (by simpa using hpb))
    have hrB : NodeB (wA.setCell ⟨b, 1, none⟩ (.int .i64 ((σ1.at_ + 1 : Nat) : Int))) w.heap.size 0 ⟨#[]⟩ (.slice none 0 0) (.slice none 0 0) := hrA.other (Below.heap_setCell _ _ _ _ (by simp; omega))
    have hcall := fun wB => array_cn Nq b p wB.heap.size s tw lo { σ1 with at_ := σ1.at_ + 1 } wB wB X ⟨#[]⟩ 0
    have hbl := hRB.lt
    have hpl := hnB.lt
    have hrl := hrB.lt
    have hRBB : ∀ wB : World, wB = wA.setCell ⟨b, 1, none⟩ (.int .i64 ((σ1.at_ + 1 : Nat) : Int)) → RC Nq b p wB.heap.size (σ1.at_ + 1) s tw lo { σ1 with at_ := σ1.at_ + 1 } wB X ⟨#[]⟩ [] [] 0 wB := fun wB e => by
      subst e
      exact ⟨⟨.slice none 0 0, .slice none 0 0, 0, 0, [], [], ⟨hRB, hnB, World.ownsRow_nil _ _ _ _, World.ownsRow_nil _ _ _ _, FrB.refl _ _ _ _, hbl, hpl, hpb, Nat.le_refl _⟩, Nat.zero_le _, Nat.zero_le _, (fun x hx => by cases hx), Cont.nil _ _, (fun g e => by cases e), (fun g e => by cases e)⟩⟩
    have ih' : ∀ σ' : St, σ1.at_ + 1 ≤ σ'.at_ → σ'.at_ ≤ s.size → ValC b s tw lo σ' := fun σ' h1 h2 => ih (s.size - σ'.at_) (by omega) σ' (Nat.le_refl _) h2
    clear hX
    go_upto_region 11 with (go_at_call 31; refine (hcall _ (hRBB _ rfl) hs hts ih').mono ?_; rintro e w3 ⟨r, σ2, M, ns, ks, L3, rfl, hB3, l2, l2', ho, hoc⟩; have HO := Lib.hid ho; have HOC := Lib.hid hoc; clear ho hoc)
    clear hx hcall hRBB ih' c0 c1 c2 c3 c4 c5 f1 f4 f5
    have l2 : σ1.at_ + 1 ≤ σ2.at_ := l2
    have hz0 : s.size = 0 → σ2.fault ≠ 0 := fun h => by omega
    obtain ⟨nm, kd, nl, kl, xs, ys, hK, _, _, _, hC3, _⟩ := hB3
    have hX0 : X = 91 := by rw [← hbX.out, ← hsp1.out]; exact HC.out
    have HX0 := Lib.hid hX0
    clear hX0
    obtain ⟨na, nc, rfl⟩ := own_slice hK.o1
    obtain ⟨ka, kc, rfl⟩ := own_slice hK.o2
    have hR3 := hK.r
    have hF : Fr2 b p (wA.setCell ⟨b, 1, none⟩ (.int .i64 ((σ1.at_ + 1 : Nat) : Int))) w3 := ⟨hK.fr.os, hK.fr.tape, hK.fr.output, hK.fr.size, hK.fr.block⟩
    have hM3 : Mv b w w3 := hF.mv hMB (by omega)
    have hres : NodeB w3 w.heap.size 0 ⟨#[]⟩ (.slice none 0 0) (.slice none 0 0) := hrB.other (hF.block _ hrB.lt (by omega) (by omega))
    have hD3 := hC3.done hK.o1 hK.o2 X ⟨#[]⟩
    obtain ⟨m0, m1, m2, m3, fm0, fm1, fm2, fm3⟩ := hK.node.cells
    obtain ⟨p0, p1, p2, p3, fp0, fp1, fp2, fp3⟩ := hres.cells
    clear hRA hnA hMA hrA hRB hMB hnB hrB
    go_wp2_with fail
    have hres4 := hres.putNode X ⟨#[]⟩ (.slice na nl nc) (.slice ka kl kc)
    have hR4 := IsR.newCells hR3 (n := w.heap.size) (by omega) (.int .u8 X) (.string ⟨#[]⟩) (.slice na nl nc) (.slice ka kl kc)
    have hM4 := Mv.newCells hM3 (.int .u8 X) (.string ⟨#[]⟩) (.slice na nl nc) (.slice ka kl kc)
    have hD4 := hD3.newCells (r := w.heap.size) (lo := w.heap.size) hrl (Nat.le_of_lt hrl) (.int .u8 X) (.string ⟨#[]⟩) (.slice na nl nc) (.slice ka kl kc)
    revert hres4 hR4 hM4 hD4
    generalize ((((w3.setCell ⟨w.heap.size, 0, none⟩ (.int .u8 X)).setCell ⟨w.heap.size, 1, none⟩ (.string ⟨#[]⟩)).setCell ⟨w.heap.size, 2, none⟩ (.slice na nl nc)).setCell ⟨w.heap.size, 3, none⟩ (.slice ka kl kc)) = w4
    intro hres4 hR4 hM4 hD4
    obtain ⟨q0, q1, q2, q3, _, _, _, _⟩ := hres4.cells
    refine bodyPost_ret (v := .tuple #[.agg #[.int .u8 X, .string ⟨#[]⟩, .slice na nl nc, .slice ka kl kc], .bool r]) (by simp [results, Tryz.results14, go_sem, q0, q1, q2, q3]; try rfl) rfl ?_
    refine ⟨X, ⟨#[]⟩, na, nl, nc, ka, kl, kc, r, σ2, rfl, hR4, hM4, by omega, l2', hz0, .varr HC.out (by rw [hsp1.out]; exact HO.out), fun hr => ?_⟩
    have hoc := HOC.out hr
    obtain rfl : ns = [] := hoc.arr_names
    exact ⟨.mk 91 ⟨#[]⟩ [] ks, .varr HC.out (by rw [hsp1.out]; exact hoc), by have := hD4; rw [HX0.out] at this ⊢; exact this⟩
  have H91 := Lib.hid (show bAt s σ1.at_ ≠ 91 by rw [hbX.out]; simpa using hx)
  clear hX
  go_upto_region 13 with (go_at_call 32; refine (scalar_cn b p s tw lo σ1 X ⟨#[]⟩ (.slice none 0 0) (.slice none 0 0) _ hRA hnA hpb hsm l1').mono ?_; rintro e w3 ⟨r, σ2, rfl, hR3, ⟨k3, t3, hn3, hkt⟩, hF, l2, l2', hz0, hsc⟩; have HS := Lib.hid hsc; have HKT := Lib.hid hkt; clear hsc hkt)
  obtain ⟨na, nl, nc, hna⟩ : ∃ na nl nc, Value.slice none 0 0 = .slice na nl nc := ⟨_, _, _, rfl⟩
  obtain ⟨ka, kl, kc, hka⟩ : ∃ ka kl kc, Value.slice none 0 0 = .slice ka kl kc := ⟨_, _, _, rfl⟩
  have hM3 : Mv b w w3 := hF.mv hMA (by omega)
  have hres : NodeB w3 w.heap.size 0 ⟨#[]⟩ (.slice none 0 0) (.slice none 0 0) := hrA.other (hF.block _ hrA.lt (by omega) (by omega))
  have hn4 : NodeB w3 p k3 t3 (.slice na nl nc) (.slice ka kl kc) := hna ▸ hka ▸ hn3
  have HNA := Lib.hid hna
  have HKA := Lib.hid hka
  clear hn3 hna hka hRA hnA hMA hrA
  obtain ⟨m0, m1, m2, m3, fm0, fm1, fm2, fm3⟩ := hn4.cells
  obtain ⟨p0, p1, p2, p3, fp0, fp1, fp2, fp3⟩ := hres.cells
  go_wp2_with fail
  have hres4 := hres.putNode k3 t3 (.slice na nl nc) (.slice ka kl kc)
  have hR4 := IsR.newCells hR3 (n := w.heap.size) (by omega) (.int .u8 k3) (.string t3) (.slice na nl nc) (.slice ka kl kc)
  have hM4 := Mv.newCells hM3 (.int .u8 k3) (.string t3) (.slice na nl nc) (.slice ka kl kc)
  revert hres4 hR4 hM4
  generalize ((((w3.setCell ⟨w.heap.size, 0, none⟩ (.int .u8 k3)).setCell ⟨w.heap.size, 1, none⟩ (.string t3)).setCell ⟨w.heap.size, 2, none⟩ (.slice na nl nc)).setCell ⟨w.heap.size, 3, none⟩ (.slice ka kl kc)) = w4
  intro hres4 hR4 hM4
  obtain ⟨q0, q1, q2, q3, _, _, _, _⟩ := hres4.cells
  refine bodyPost_ret (v := .tuple #[.agg #[.int .u8 k3, .string t3, .slice na nl nc, .slice ka kl kc], .bool r]) (by simp [results, Tryz.results14, go_sem, q0, q1, q2, q3]; try rfl) rfl ?_
  refine ⟨k3, t3, na, nl, nc, ka, kl, kc, r, σ2, rfl, hR4, hM4, by omega, l2', hz0, .scal (by rw [hsp1.out]; exact H123.out) (by rw [hsp1.out]; exact H91.out) (by rw [hsp1.out]; exact HS.out), fun hr => ?_⟩
  obtain ⟨q5, q6⟩ := HKT.out hr
  refine ⟨scN s (St.sp s σ) σ2, .scal (by rw [hsp1.out]; exact H123.out) (by rw [hsp1.out]; exact H91.out) (by rw [hsp1.out]; exact hr ▸ HS.out), ?_⟩
  rw [← HNA.out, ← HKA.out, q5, q6, hsp1.out]
  unfold scN
  rw [hbX.out]
  exact NdM.scal _ _ _ _
end
section
/- (Ct) The reader of the reference, with content: Parse. Lines by program (mkc.py). -/
open Go.RowKit

/-- What reading a whole text comes to, and the node that is read. -/
def FinC (s : ByteArray) (tw lo : Bool) (lw : Nat) (w' : World) (vs : List Value) (σ' : St) : Prop := ∃ (r : Bool) (σ1 : St), RdN s tw lo .val ⟨0, 0, false⟩ r σ1 ∧ σ' = (if r = true then (if (St.sp s σ1).at_ < s.size then (St.sp s σ1).fail 4 else St.sp s σ1) else σ1) ∧
  (r = true → ∃ nd, CnN s tw lo .val ⟨0, 0, false⟩ σ1 [] [nd] ∧ NdM w' (fun g => lw ≤ g ∧ g < w'.heap.size) nd vs)
/-- A node's block, and all that lies between lo and the world w1. -/
structure NodeK (u : World) (lo : Nat) (w1 : World) (k : Int) (t : ByteArray) (nm kd : Value) : Prop where
  node : NodeB u w1.heap.size k t nm kd
  keep : ∀ g, lo ≤ g → g < w1.heap.size → u.heap[g]? = w1.heap[g]?
theorem NodeK.mv {u v : World} {lo b : Nat} {w1 : World} {k : Int} {t : ByteArray} {nm kd : Value} (h : NodeK u lo w1 k t nm kd) (hM : Mv b u v) (hne : w1.heap.size ≠ b) (hb : b < lo) : NodeK v lo w1 k t nm kd :=
  ⟨h.node.mv hM hne, fun g h1 h2 => (hM.block g (by have := h.node.lt; omega) (by simp; omega)).trans (h.keep g h1 h2)⟩
theorem NodeK.set {u : World} {lo r : Nat} {w1 : World} {k : Int} {t : ByteArray} {nm kd : Value} (h : NodeK u lo w1 k t nm kd) (hr : r < lo) (hl : lo ≤ w1.heap.size) (j : Nat) (x : Value) : NodeK (u.setCell ⟨r, j, none⟩ x) lo w1 k t nm kd :=
  ⟨h.node.other (Below.heap_setCell _ _ _ _ (by simp; omega)), fun g h1 h2 => (Below.heap_setCell _ _ _ _ (by simp; omega)).trans (h.keep g h1 h2)⟩
set_option maxRecDepth 100000 in
set_option maxHeartbeats 4000000 in
theorem parse_cn (Nq : Value → Prop) (s : ByteArray) (tw lo : Bool) (w : World) (hs0 : s.size ≤ 2147483647)
    (hQ : ∀ σ σ', St.quoted s lo σ = (true, σ') → Nq (.string (s.extract σ.at_ (σ'.at_ + 1)))) (hag : tw = false → ∀ B, AgX Nq (w.heap.size + 1 + 1 + 1) B s lo) :
    Calls Tryz.prog 5 #[.string s, .agg #[.bool tw, .bool lo]] w fun e w' => (∃ (k1 : Int) (t1 : ByteArray) (na : Option Addr) (nl nc : Nat) (ka : Option Addr) (kl kc : Nat) (σF : St), e = .returned (.tuple #[.agg #[.int .u8 k1, .string t1, .slice na nl nc, .slice ka kl kc], .agg #[.int .i64 σF.fault, .int .i64 σF.at_, .bool σF.opn]]) ∧ FinC s tw lo w.heap.size w' [.int .u8 k1, .string t1, .slice na nl nc, .slice ka kl kc] σF) ∧ Below w.heap.size w w' := by
  have hs : s.size ≤ maxLen := by unfold maxLen; omega
  go_enter Tryz.func5, Tryz.ntmps5
  go_upto_region 2 with fail
  have hWB : Below w.heap.size w _ := (((((Below.refl _ w).alloc (Nat.le_refl _) (.cells #[.bool tw, .bool lo] 31)).alloc (by simp) (.cells #[.int .u8 0, .string ⟨#[]⟩, .slice none 0 0, .slice none 0 0] 25)).alloc (by simp; omega) (.cells #[.int .i64 0, .int .i64 0, .bool false] 27)).alloc (by simp; omega) (.cells #[.string s, .int .i64 0, .bool tw, .bool lo, .int .i64 0, .bool false] 47))
  have hR0 := newR (((w.alloc (.cells #[.bool tw, .bool lo] 31)).alloc (.cells #[.int .u8 0, .string ⟨#[]⟩, .slice none 0 0, .slice none 0 0] 25)).alloc (.cells #[.int .i64 0, .int .i64 0, .bool false] 27)) s tw lo 47
  have hN0 : NodeB ((((w.alloc (.cells #[.bool tw, .bool lo] 31)).alloc (.cells #[.int .u8 0, .string ⟨#[]⟩, .slice none 0 0, .slice none 0 0] 25)).alloc (.cells #[.int .i64 0, .int .i64 0, .bool false] 27)).alloc (.cells #[.string s, .int .i64 0, .bool tw, .bool lo, .int .i64 0, .bool false] 47)) (w.heap.size + 1) 0 ⟨#[]⟩ (.slice none 0 0) (.slice none 0 0) := by
    refine ⟨25, (Below.heap_alloc _ _ _ (by simp)).trans ((Below.heap_alloc _ _ _ (by simp)).trans ?_)⟩
    have := heap_alloc_new (w.alloc (.cells #[.bool tw, .bool lo] 31)) (.cells #[.int .u8 0, .string ⟨#[]⟩, .slice none 0 0, .slice none 0 0] 25)
    simpa using this
  have hO0 : OutB ((((w.alloc (.cells #[.bool tw, .bool lo] 31)).alloc (.cells #[.int .u8 0, .string ⟨#[]⟩, .slice none 0 0, .slice none 0 0] 25)).alloc (.cells #[.int .i64 0, .int .i64 0, .bool false] 27)).alloc (.cells #[.string s, .int .i64 0, .bool tw, .bool lo, .int .i64 0, .bool false] 47)) (w.heap.size + 1 + 1) 0 0 false := by
    refine ⟨27, (Below.heap_alloc _ _ _ (by simp)).trans ?_⟩
    have := heap_alloc_new ((w.alloc (.cells #[.bool tw, .bool lo] 31)).alloc (.cells #[.int .u8 0, .string ⟨#[]⟩, .slice none 0 0, .slice none 0 0] 25)) (.cells #[.int .i64 0, .int .i64 0, .bool false] 27)
    simpa using this
  revert hWB hR0 hN0 hO0
  simp only [World.size_alloc]
  generalize ((((w.alloc (.cells #[.bool tw, .bool lo] 31)).alloc (.cells #[.int .u8 0, .string ⟨#[]⟩, .slice none 0 0, .slice none 0 0] 25)).alloc (.cells #[.int .i64 0, .int .i64 0, .bool false] 27)).alloc (.cells #[.string s, .int .i64 0, .bool tw, .bool lo, .int .i64 0, .bool false] 47)) = w0
  intro hWB hR0 hN0 hO0
  have hlt0 := hR0.lt
  have hv := value_cn Nq (w.heap.size + 1 + 1 + 1) s tw lo hs0 hQ hag s.size ⟨0, 0, false⟩ (by simp) (Nat.zero_le _)
  go_upto_if 16 with (first
    | (go_at_call 14; refine (hv _ hR0).mono ?_; rintro e w1 ⟨k1, t1, na, nl, nc, ka, kl, kc, r, σ1, rfl, hR1, hM1, _, hle1, hz0, hv1, hvc⟩; have hz1 := And.intro hz0 hv1; have HVC := Lib.hid hvc; clear hz0 hv1 hvc))
  have hs1 := hM1.size
  have hRA : IsR (w1.alloc (.cells #[.int .u8 k1, .string t1, .slice na nl nc, .slice ka kl kc] 25)) (w.heap.size + 1 + 1 + 1) s tw lo σ1 := hR1.other (Below.heap_alloc _ _ _ hR1.lt)
  have hnA : NodeK (w1.alloc (.cells #[.int .u8 k1, .string t1, .slice na nl nc, .slice ka kl kc] 25)) w0.heap.size w1 k1 t1 (.slice na nl nc) (.slice ka kl kc) := ⟨⟨_, heap_alloc_new _ _⟩, fun g _ h2 => Below.heap_alloc _ _ _ h2⟩
  have hl1 := hN0.lt
  have hl2 := hO0.lt
  have hNA := (hN0.mv hM1 (by omega)).other (Below.heap_alloc w1 (.cells #[.int .u8 k1, .string t1, .slice na nl nc, .slice ka kl kc] 25) (w.heap.size + 1) (by omega))
  have hOA := (hO0.other (hM1.block _ hl2 (by simp))).other (Below.heap_alloc w1 (.cells #[.int .u8 k1, .string t1, .slice na nl nc, .slice ka kl kc] 25) (w.heap.size + 1 + 1) (by omega))
  have hBA := (hWB.trans (hM1.below (B := w.heap.size) (by omega) (by omega))).alloc (by have := hWB.size; omega) (.cells #[.int .u8 k1, .string t1, .slice na nl nc, .slice ka kl kc] 25)
  have hne1 : w.heap.size + 1 + 1 + 1 < w1.heap.size := hR1.lt
  have keep : ∀ {u v : World}, Mv (w.heap.size + 1 + 1 + 1) u v → NodeB u (w.heap.size + 1) 0 ⟨#[]⟩ (.slice none 0 0) (.slice none 0 0) ∧ OutB u (w.heap.size + 1 + 1) 0 0 false ∧ NodeK u w0.heap.size w1 k1 t1 (.slice na nl nc) (.slice ka kl kc) ∧ Below w.heap.size w u →
      NodeB v (w.heap.size + 1) 0 ⟨#[]⟩ (.slice none 0 0) (.slice none 0 0) ∧ OutB v (w.heap.size + 1 + 1) 0 0 false ∧ NodeK v w0.heap.size w1 k1 t1 (.slice na nl nc) (.slice ka kl kc) ∧ Below w.heap.size w v := fun hm ⟨k1, k2, k3, k4⟩ =>
    ⟨k1.mv hm (by omega), k2.other (hm.block _ k2.lt (by simp)), k3.mv hm (by omega) hlt0, k4.trans (hm.below (by omega) k4.size)⟩
  have hAll := And.intro hNA (And.intro hOA (And.intro hnA hBA))
  revert hRA hAll
  generalize (w1.alloc (.cells #[.int .u8 k1, .string t1, .slice na nl nc, .slice ka kl kc] 25)) = wA
  intro hRA hAll
  clear hNA hOA hnA hBA hv hN0 hO0 hR0 hWB hM1 hR1
  have HZ := Lib.hid hz1
  clear hz1
  go_cut [] (fun wx => ∃ σF : St, Hid (σF = (if r = true then (if (St.sp s σ1).at_ < s.size then (St.sp s σ1).fail 4 else St.sp s σ1) else σ1)) ∧ IsR wx (w.heap.size + 1 + 1 + 1) s tw lo σF ∧ NodeB wx (w.heap.size + 1) 0 ⟨#[]⟩ (.slice none 0 0) (.slice none 0 0) ∧ OutB wx (w.heap.size + 1 + 1) 0 0 false ∧ NodeK wx w0.heap.size w1 k1 t1 (.slice na nl nc) (.slice ka kl kc) ∧ Below w.heap.size w wx)
  case first =>
    cases r
    · go_wp2_with fail
      go_meet
      exact ⟨σ1, Lib.hid (by rw [if_neg (by decide)]), hRA, hAll⟩
    · obtain ⟨τ, HT⟩ : ∃ τ, Hid (St.space s (s.size - σ1.at_) σ1 = τ) := ⟨_, Lib.hid rfl⟩
      have hle2 : τ.at_ ≤ s.size := by rw [← HT.out, space_eq]; exact (spEnd_le s _ _ hle1).2
      have hsp : ∀ w', IsR w' (w.heap.size + 1 + 1 + 1) s tw lo σ1 → Calls Tryz.prog 15 #[.pointer (some ⟨w.heap.size + 1 + 1 + 1, 0, none⟩)] w' fun e w'' => e = .returned (.tuple #[]) ∧ IsR w'' (w.heap.size + 1 + 1 + 1) s tw lo τ ∧ Mv (w.heap.size + 1 + 1 + 1) w' w'' := fun w' h => by
        have := rspace_any _ s tw lo σ1 w' h hs hle1
        rwa [HT.out] at this
      by_cases hlt : τ.at_ < s.size
      · have hz2 : τ.fail 4 = (if true = true then (if (St.sp s σ1).at_ < s.size then (St.sp s σ1).fail 4 else St.sp s σ1) else σ1) := by
          have e : St.sp s σ1 = τ := HT.out
          rw [if_pos rfl, e, if_pos hlt]
        have HZ2 := Lib.hid hz2
        clear hz2
        have hltI : (τ.at_ : Int) < (s.size : Int) := by omega
        clear hlt
        go_wp2_with (first
          | (go_at_call 15; refine (hsp _ hRA).mono ?_; rintro e w2 ⟨rfl, hR2, hM2⟩; obtain ⟨c0, c1, c2, c3, c4, c5, f1, f4, f5⟩ := hR2.cells)
          | (go_at_call 16; refine (fail_any _ s tw lo τ _ _ hR2).mono ?_; rintro e w3 ⟨rfl, hR3, hM3⟩))
        go_meet
        exact ⟨_, HZ2, hR3, keep (hM2.trans hM3) hAll⟩
      · have HZ2 : Hid (τ = (if true = true then (if (St.sp s σ1).at_ < s.size then (St.sp s σ1).fail 4 else St.sp s σ1) else σ1)) := Lib.hid (by
          have e : St.sp s σ1 = τ := HT.out
          rw [if_pos rfl, e, if_neg hlt])
        have hltI : (s.size : Int) ≤ (τ.at_ : Int) := by omega
        clear hlt
        go_wp2_with (first
          | (go_at_call 15; refine (hsp _ hRA).mono ?_; rintro e w2 ⟨rfl, hR2, hM2⟩; obtain ⟨c0, c1, c2, c3, c4, c5, f1, f4, f5⟩ := hR2.cells))
        go_meet
        exact ⟨_, HZ2, hR2, keep hM2 hAll⟩
  case rest =>
    obtain ⟨σF, hzF, hRc, hNc, hOc, hnc, hBc⟩ := hcut
    have HZF := hzF
    clear hzF hQ hag hs0
    go_upto_region 7 with fail
    have hRd : IsR wc.drew (w.heap.size + 1 + 1 + 1) s tw lo σF := hRc
    have hNd : NodeB wc.drew (w.heap.size + 1) 0 ⟨#[]⟩ (.slice none 0 0) (.slice none 0 0) := hNc
    have hOd : OutB wc.drew (w.heap.size + 1 + 1) 0 0 false := hOc
    have hnd : NodeK wc.drew w0.heap.size w1 k1 t1 (.slice na nl nc) (.slice ka kl kc) := ⟨hnc.1, hnc.2⟩
    have hBd : Below w.heap.size w wc.drew := ⟨hBc.os, hBc.tape, hBc.output, hBc.size, hBc.block⟩
    refine wp_region_held (S := fun wx => IsR wx (w.heap.size + 1 + 1 + 1) s tw lo σF ∧ NodeK wx w0.heap.size w1 k1 t1 (.slice na nl nc) (.slice ka kl kc)) (by kernel_rfl) ?_
    try (change wpAnyH _ _ _ _ _ _ _ _ (World.drew _))
    generalize wc.drew = wd at hRd hNd hOd hnd hBd ⊢
    have hS : IsR wd (w.heap.size + 1 + 1 + 1) s tw lo σF ∧ NodeK wd w0.heap.size w1 k1 t1 (.slice na nl nc) (.slice ka kl kc) := ⟨hRd, hnd⟩
    have HS := Lib.hid hS
    clear hS
    clear hRc hNc hOc hnc hBc hRA hAll keep
    refine wpAnyH_take (i := 1) (v := ?_) rfl (by kernel_rfl) (by kernel_rfl) (by kernel_rfl) (fun _ _ _ h => h) (Or.inl ⟨by rfl, ?_⟩) HS.out ?_
    rotate_left
    · intro wx hx; go_simp; try with_reducible rfl
    rotate_left
    refine wpAnyH_take (i := 3) (v := ?_) rfl (by kernel_rfl) (by kernel_rfl) (by kernel_rfl) (fun _ _ _ h => h) (Or.inl ⟨by rfl, ?_⟩) HS.out ?_
    rotate_left
    · intro wx hx; go_simp; try with_reducible rfl
    rotate_left
    refine wpAnyH_take (i := 5) (v := ?_) rfl (by kernel_rfl) (by kernel_rfl) (by kernel_rfl) (fun _ _ _ h => h) (Or.inl ⟨by rfl, ?_⟩) HS.out ?_
    rotate_left
    · intro wx hx; go_simp; try with_reducible rfl
    rotate_left
    refine wpAnyH_take (i := 0) (v := (.agg #[.int .u8 k1, .string t1, .slice na nl nc, .slice ka kl kc])) rfl (by kernel_rfl) (by kernel_rfl) (by kernel_rfl) (fun _ _ _ h => h) (Or.inl ⟨by rfl, ?_⟩) HS.out ?_
    · intro wx hx; obtain ⟨q0, q1, q2, q3, _, _, _, _⟩ := hx.2.node.cells; go_simp; try with_reducible rfl
    refine wpAnyH_take (i := 2) (v := (.int .i64 σF.fault)) rfl (by kernel_rfl) (by kernel_rfl) (by kernel_rfl) (fun _ _ _ h => h) (Or.inl ⟨by rfl, ?_⟩) HS.out ?_
    · intro wx hx; obtain ⟨q0, q1, q2, q3, q4, q5, _, _, _⟩ := hx.1.cells; go_simp; try with_reducible rfl
    refine wpAnyH_take (i := 4) (v := (.int .i64 (σF.at_ : Nat))) rfl (by kernel_rfl) (by kernel_rfl) (by kernel_rfl) (fun _ _ _ h => h) (Or.inl ⟨by rfl, ?_⟩) HS.out ?_
    · intro wx hx; obtain ⟨q0, q1, q2, q3, q4, q5, _, _, _⟩ := hx.1.cells; go_simp; try with_reducible rfl
    refine wpAnyH_take (i := 6) (v := (.bool σF.opn)) rfl (by kernel_rfl) (by kernel_rfl) (by kernel_rfl) (fun _ _ _ h => h) (Or.inl ⟨by rfl, ?_⟩) HS.out ?_
    · intro wx hx; obtain ⟨q0, q1, q2, q3, q4, q5, _, _, _⟩ := hx.1.cells; go_simp; try with_reducible rfl
    simp only [List.getElem_toArray, List.getElem_cons_succ, List.getElem_cons_zero, Act.put, List.setIfInBounds_toArray, List.set_cons_succ, List.set_cons_zero]
    refine wpAnyH_take (i := 7) (v := (.agg #[.int .i64 σF.fault, .int .i64 (σF.at_ : Nat), .bool σF.opn])) rfl (by kernel_rfl) (by kernel_rfl) (by kernel_rfl) (fun _ _ _ h => h) (Or.inl ⟨by rfl, ?_⟩) HS.out ?_
    · intro wx hx; go_simp; try with_reducible rfl
    simp only [List.getElem_toArray, List.getElem_cons_succ, List.getElem_cons_zero, Act.put, List.setIfInBounds_toArray, List.set_cons_succ, List.set_cons_zero]
    obtain ⟨m0, m1, m2, m3, fm0, fm1, fm2, fm3⟩ := hNd.cells
    refine wpAnyH_all (rs := [8]) (by kernel_rfl) (by decide) ?_
    intro i hi
    simp only [List.mem_cons, List.not_mem_nil, or_false] at hi
    subst hi
    refine wpOp_skip (i := 8) (w' := ((((wd.setCell ⟨w.heap.size + 1, 0, none⟩ (.int .u8 k1)).setCell ⟨w.heap.size + 1, 1, none⟩ (.string t1)).setCell ⟨w.heap.size + 1, 2, none⟩ (.slice na nl nc)).setCell ⟨w.heap.size + 1, 3, none⟩ (.slice ka kl kc))) rfl (by rfl) (by go_simp) ?_
    have hNf := hNd.putNode k1 t1 (.slice na nl nc) (.slice ka kl kc)
    have hBf := Below.fourCells hBd (n := w.heap.size + 1) (by omega) (.int .u8 k1) (.string t1) (.slice na nl nc) (.slice ka kl kc)
    have hOf := hOd.fourCells (m := w.heap.size + 1) (by omega) (.int .u8 k1) (.string t1) (.slice na nl nc) (.slice ka kl kc)
    have hRf := IsR.newCells hRd (n := w.heap.size + 1) (by omega) (.int .u8 k1) (.string t1) (.slice na nl nc) (.slice ka kl kc)
    have hnf : NodeK ((((wd.setCell ⟨w.heap.size + 1, 0, none⟩ (.int .u8 k1)).setCell ⟨w.heap.size + 1, 1, none⟩ (.string t1)).setCell ⟨w.heap.size + 1, 2, none⟩ (.slice na nl nc)).setCell ⟨w.heap.size + 1, 3, none⟩ (.slice ka kl kc)) w0.heap.size w1 k1 t1 (.slice na nl nc) (.slice ka kl kc) := by
      have q : ∀ {v : World} (j : Nat) (x : Value), NodeK v w0.heap.size w1 k1 t1 (.slice na nl nc) (.slice ka kl kc) → NodeK (v.setCell ⟨w.heap.size + 1, j, none⟩ x) w0.heap.size w1 k1 t1 (.slice na nl nc) (.slice ka kl kc) := fun j x hv => hv.set hl1 hs1 j x
      exact q 3 _ (q 2 _ (q 1 _ (q 0 _ hnd)))
    clear m0 m1 m2 m3 fm0 fm1 fm2 fm3 HS hRd hNd hOd hnd hBd
    revert hNf hBf hOf hRf hnf
    generalize ((((wd.setCell ⟨w.heap.size + 1, 0, none⟩ (.int .u8 k1)).setCell ⟨w.heap.size + 1, 1, none⟩ (.string t1)).setCell ⟨w.heap.size + 1, 2, none⟩ (.slice na nl nc)).setCell ⟨w.heap.size + 1, 3, none⟩ (.slice ka kl kc)) = we
    intro hNf hBf hOf hRf hnf
    refine ⟨⟨hRf, hnf⟩, ?_⟩
    obtain ⟨o0, o1, o2, fo0, fo1, fo2⟩ := hOf.cells
    simp only [List.getElem_toArray, List.getElem_cons_succ, List.getElem_cons_zero, Act.put, List.setIfInBounds_toArray, List.set_cons_succ, List.set_cons_zero]
    refine wpAnyH_all (rs := [9]) (by kernel_rfl) (by decide) ?_
    intro i hi
    simp only [List.mem_cons, List.not_mem_nil, or_false] at hi
    subst hi
    refine wpOp_skip (i := 9) (w' := (((we.setCell ⟨w.heap.size + 1 + 1, 0, none⟩ (.int .i64 σF.fault)).setCell ⟨w.heap.size + 1 + 1, 1, none⟩ (.int .i64 σF.at_)).setCell ⟨w.heap.size + 1 + 1, 2, none⟩ (.bool σF.opn))) rfl (by rfl) (by go_simp) ?_
    obtain ⟨hOg, hNg, hBg⟩ := hOf.put hNf (by omega) hBf (by omega) σF.fault σF.at_ σF.opn
    have hRg : IsR (((we.setCell ⟨w.heap.size + 1 + 1, 0, none⟩ (.int .i64 σF.fault)).setCell ⟨w.heap.size + 1 + 1, 1, none⟩ (.int .i64 σF.at_)).setCell ⟨w.heap.size + 1 + 1, 2, none⟩ (.bool σF.opn)) (w.heap.size + 1 + 1 + 1) s tw lo σF := by
      have q : ∀ {v : World} (j : Nat) (x : Value), IsR v (w.heap.size + 1 + 1 + 1) s tw lo σF → IsR (v.setCell ⟨w.heap.size + 1 + 1, j, none⟩ x) (w.heap.size + 1 + 1 + 1) s tw lo σF := fun j x hv => hv.other (Below.heap_setCell _ _ _ _ (by simp))
      exact q 2 _ (q 1 _ (q 0 _ hRf))
    have hng : NodeK (((we.setCell ⟨w.heap.size + 1 + 1, 0, none⟩ (.int .i64 σF.fault)).setCell ⟨w.heap.size + 1 + 1, 1, none⟩ (.int .i64 σF.at_)).setCell ⟨w.heap.size + 1 + 1, 2, none⟩ (.bool σF.opn)) w0.heap.size w1 k1 t1 (.slice na nl nc) (.slice ka kl kc) := by
      have q : ∀ {v : World} (j : Nat) (x : Value), NodeK v w0.heap.size w1 k1 t1 (.slice na nl nc) (.slice ka kl kc) → NodeK (v.setCell ⟨w.heap.size + 1 + 1, j, none⟩ x) w0.heap.size w1 k1 t1 (.slice na nl nc) (.slice ka kl kc) := fun j x hv => hv.set hl2 hs1 j x
      exact q 2 _ (q 1 _ (q 0 _ hnf))
    clear o0 o1 o2 fo0 fo1 fo2
    revert hOg hNg hBg hRg hng
    generalize (((we.setCell ⟨w.heap.size + 1 + 1, 0, none⟩ (.int .i64 σF.fault)).setCell ⟨w.heap.size + 1 + 1, 1, none⟩ (.int .i64 σF.at_)).setCell ⟨w.heap.size + 1 + 1, 2, none⟩ (.bool σF.opn)) = w7
    intro hOg hNg hBg hRg hng
    refine ⟨⟨hRg, hng⟩, wpAnyH_done (by kernel_rfl) ?_ _⟩
    go_wp2_with fail
    obtain ⟨q0, q1, q2, q3, _, _, _, _⟩ := hNg.cells
    obtain ⟨p0, p1, p2, _, _, _⟩ := hOg.cells
    refine bodyPost_ret (v := .tuple #[.agg #[.int .u8 k1, .string t1, .slice na nl nc, .slice ka kl kc], .agg #[.int .i64 σF.fault, .int .i64 σF.at_, .bool σF.opn]]) (by simp [results, Tryz.results5, go_sem, q0, q1, q2, q3, p0, p1, p2]; try rfl) rfl ?_
    refine ⟨⟨k1, t1, na, nl, nc, ka, kl, kc, σF, rfl, r, σ1, HZ.out.2, HZF.out, fun hr => ?_⟩, hBg⟩
    obtain ⟨nd, hc, hn⟩ := HVC.out hr
    have hlt7 := hng.node.lt
    exact ⟨nd, hc, NdM.keep (w := w1) (P := fun g => w0.heap.size ≤ g ∧ g < w1.heap.size) (fun g ⟨h1, h2⟩ => ⟨⟨by omega, by omega⟩, hng.keep g h1 h2⟩) _ _ hn⟩
end
end Go.Proofs.YtjbffgjclnjkoaaGreatDoor
