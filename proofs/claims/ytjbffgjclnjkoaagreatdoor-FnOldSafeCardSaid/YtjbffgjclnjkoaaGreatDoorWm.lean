/- The reader of the reference at any text: a name of an object. -/
import Derived.Test.YtjbffgjclnjkoaaGreatDoorWn
namespace Go.Proofs.YtjbffgjclnjkoaaGreatDoor
set_option linter.unusedVariables false
set_option linter.unusedSimpArgs false
open Go.RowKit

/-- Names are asked for again. -/
def AgK (Nq : Value → Prop) (b B : Nat) (s : ByteArray) (lo : Bool) : Prop := b < B → ∀ (σ : St) (w : World) (nm : Value) (m : Nat) (xs : List Value), IsR w b s false lo σ → w.ownsRow B 9 1 nm m xs → 0 < m → (∀ x ∈ xs, Nq x) →
  Calls Tryz.prog 76 #[.pointer (some ⟨b, 0, none⟩), nm] w fun e w' => ∃ r o, e = .returned (.bool r) ∧ IsR w' b s false lo { σ with opn := o } ∧ Mv b w w'
theorem infoS : (Tryz.prog.info? 9).map (fun i => (i.zero, i.size, i.bytes)) = some (some (.string ⟨#[]⟩), 1, 16) := by kernel_rfl
theorem loop_quote {s : ByteArray} (lo : Bool) : ∀ (g : Nat) (σ : St), (St.strLoop s lo g σ).1 = true → (St.strLoop s lo g σ).2.at_ < s.size ∧ bAt s (St.strLoop s lo g σ).2.at_ = 34
  | 0, σ, h => by unfold St.strLoop at h; cases h
  | g + 1, σ, h => by
    unfold St.strLoop at h ⊢
    split at h
    · rename_i hl
      rw [if_pos hl]
      split at h
      · rename_i hq
        rw [if_pos hq]
        exact ⟨hl, hq⟩
      · rename_i hq
        rw [if_neg hq]
        unfold St.andThen at h ⊢
        split at h
        · rename_i hi
          rw [if_pos hi]
          exact loop_quote lo g _ h
        · cases h
    · cases h
theorem quoted_end {s : ByteArray} (lo : Bool) {σ : St} (h : (St.quoted s lo σ).1 = true) : (St.quoted s lo σ).2.at_ < s.size ∧ bAt s (St.quoted s lo σ).2.at_ = 34 := by
  unfold St.quoted St.andThen at h ⊢
  split at h
  · rename_i hn
    rw [if_pos hn]
    exact loop_quote lo _ _ h
  · cases h

set_option maxRecDepth 100000 in
set_option maxHeartbeats 4000000 in
theorem name_wk (Nq : Value → Prop) (b n B : Nat) (s : ByteArray) (tw lo : Bool) (σ : St) (w0 w : World) (h : RB Nq b n B σ.at_ s tw lo σ w0 w) (hs : s.size ≤ 2147483647) (ha : σ.at_ ≤ s.size)
    (hQ : ∀ σ σ', St.quoted s lo σ = (true, σ') → Nq (.string (s.extract σ.at_ (σ'.at_ + 1)))) (hag : tw = false → AgK Nq b B s lo) :
    Calls Tryz.prog 53 #[.pointer (some ⟨b, 0, none⟩), .pointer (some ⟨n, 0, none⟩)] w fun e w' => ∃ (r : Bool) (σ' : St) (M : Nat), e = .returned (.bool r) ∧ RB Nq b n B M s tw lo σ' w0 w' ∧ σ.at_ ≤ σ'.at_ ∧ σ'.at_ ≤ s.size ∧ (r = true → M ≤ σ'.at_) := by
  have hsm : s.size ≤ maxLen := by unfold maxLen; omega
  go_enter Tryz.func53, Tryz.ntmps53
  go_upto_region 2 with (go_at_call 29; refine (see_wk b s tw lo σ _ h.r hsm ha).mono ?_; rintro e w2 ⟨X, rfl, hR2, hM2, hX⟩; have h2 := h.mv hR2 hM2 (Nat.le_refl _))
  go_cut [42] from 9 to 41 (fun v wx => ∃ q : Bool, v = .bool q ∧ wx = w2)
  case first =>
    clear hX
    cases e34 : (X != 34)
    case false => go_wp2_with fail; go_meet; exact ⟨_, rfl, rfl⟩
    cases e123 : (X == 123)
    case true => go_wp2_with fail; go_meet; exact ⟨_, rfl, rfl⟩
    cases e91 : (X == 91)
    case true => go_wp2_with fail; go_meet; exact ⟨_, rfl, rfl⟩
    cases e45 : (X == 45)
    case true => go_wp2_with fail; go_meet; exact ⟨_, rfl, rfl⟩
    have tail : ∀ q : Bool, q = q := fun _ => rfl
    by_cases h48 : 48 ≤ X
    · by_cases h57 : X ≤ 57
      · go_wp2_with fail
        go_meet
        exact ⟨_, rfl, rfl⟩
      · have h57' : 57 < X := by omega
        clear h57
        cases e110 : (X == 110)
        case true => go_wp2_with fail; go_meet; exact ⟨_, rfl, rfl⟩
        cases e116 : (X == 116)
        case true => go_wp2_with fail; go_meet; exact ⟨_, rfl, rfl⟩
        cases e102 : (X == 102)
        all_goals (go_wp2_with fail; go_meet; exact ⟨_, rfl, rfl⟩)
    · have h48' : X < 48 := by omega
      clear h48
      cases e110 : (X == 110)
      case true => go_wp2_with fail; go_meet; exact ⟨_, rfl, rfl⟩
      cases e116 : (X == 116)
      case true => go_wp2_with fail; go_meet; exact ⟨_, rfl, rfl⟩
      cases e102 : (X == 102)
      all_goals (go_wp2_with fail; go_meet; exact ⟨_, rfl, rfl⟩)
  case rest =>
  obtain ⟨q, rfl, rfl⟩ := hcut
  cases q
  case true =>
    go_wp2_with (go_at_call 16; refine (fail_any b s tw lo σ _ _ hR2).mono ?_; rintro e w3 ⟨rfl, hR3, hM3⟩)
    all_goals go_ret
    exact ⟨_, _, _, rfl, h2.mv hR3 hM3 (Nat.le_refl _), by rw [St.fail_at]; exact Nat.le_refl _, by rw [St.fail_at]; exact ha, fun h => by cases h⟩
  obtain ⟨c0, c1, c2, c3, c4, c5, f1, f4, f5⟩ := hR2.cells
  obtain ⟨r1, σ1, H1⟩ := named (St.quoted s lo σ)
  have hle := St.quoted_le (s := s) lo ha
  have hqe := quoted_end (s := s) lo (σ := σ)
  have hq := fun w' hR => quoted_any b s tw lo σ w' hR hsm ha
  rw [H1.out] at hle hq hqe
  dsimp only at hle hq hqe
  obtain ⟨hl1, hl2⟩ := hle
  cases r1
  case false =>
    clear hqe H1 hX
    go_wp2_with (go_at_call 56; refine (hq _ hR2).mono ?_; rintro e w3 ⟨rfl, hR3, hM3⟩)
    all_goals go_ret
    exact ⟨_, σ1, _, rfl, h2.mv hR3 hM3 (Nat.le_refl _), hl1, hl2, fun h => by cases h⟩
  obtain ⟨hlt, hb34⟩ := hqe rfl
  have hSB := hQ σ σ1 H1.out
  obtain ⟨SB, hSBe⟩ : ∃ SB, s.extract σ.at_ (σ1.at_ + 1) = SB := ⟨_, rfl⟩
  rw [hSBe] at hSB
  have HSB := Lib.hid hSBe
  clear hqe hX H1 hb34 hSBe hQ
  go_upto_region 7 with (go_at_call 56; refine (hq _ hR2).mono ?_; rintro e w3 ⟨rfl, hR3, hM3⟩; have h3 := h2.mv hR3 hM3 (Nat.le_refl _))
  clear hq c0 c1 c2 c3 c4 c5 f1 f4 f5
  have hfr : (σ.at_ : Int) ≤ (σ1.at_ : Int) + 1 := by omega
  have hto : (σ1.at_ : Int) + 1 ≤ (s.size : Int) := by omega
  go_cut [] from 52 to 71 (fun wx => ∃ (k : Int) (t : ByteArray) (nm kd : Value) (m1 m2 : Nat) (xs ys : List Value), KB b n B s tw lo σ1 w0 k t nm kd nm kd m1 m2 xs ys wx ∧ 0 < m1 ∧ m1 ≤ σ.at_ + 1 ∧ m2 ≤ σ.at_ + 1 ∧ ∀ x ∈ xs, Nq x)
  case first =>
    obtain ⟨k0, t0, nm, kd, m1, m2, xs, ys, hK, e1, e2, e3⟩ := h3
    obtain ⟨ao, cp, rfl⟩ := own_slice hK.o1
    have K5 := hK.drew
    clear hK h2 h hR2 hR3 hM2 hM3
    refine wp_region_any (by kernel_rfl) ?_
    try (change wpAny _ _ _ _ _ _ _ (World.drew _))
    generalize w3.drew = w5 at K5 ⊢
    have K6 := K5.alloc (.cells #[.string SB] 9)
    have HN : ∀ (j : Nat) (u : Value), ([.string SB] : List Value)[j]? = some u → (w5.alloc (.cells #[.string SB] 9)).cell? ((⟨w5.heap.size, 0, none⟩ : Addr).add j) = some u := by
      intro j u hu
      have := heap_alloc_new w5 (.cells #[.string SB] 9)
      rw [show ((⟨w5.heap.size, 0, none⟩ : Addr).add j) = ⟨w5.heap.size, j, none⟩ from by unfold Addr.add; split <;> simp_all]
      simp only [World.cell?, this]
      simpa using hu
    have HW : Hid (IntKind.i64.wrap ((σ1.at_ : Int) + 1) = (σ1.at_ : Int) + 1) := Lib.hid (by unfold IntKind.wrap; simp [IntKind.signed, IntKind.bits]; omega)
    obtain ⟨i0, hi0, hz⟩ := Option.map_eq_some_iff.1 infoS
    obtain ⟨hz0, hz1, hz2⟩ : i0.zero = some (.string ⟨#[]⟩) ∧ i0.size = 1 ∧ i0.bytes = 16 := by injection hz with x y; injection y with y z; exact ⟨x, y, z⟩
    clear hz
    obtain ⟨a0, a1, a2, a3, fa0, fa1, fa2, fa3⟩ := K5.node.cells
    obtain ⟨b0, b1, b2, b3, b4, b5, g1, g4, g5⟩ := K5.r.cells
    obtain ⟨c0, c1, c2, c3, fc0, fc1, fc2, fc3⟩ := K6.node.cells
    obtain ⟨d0, d1, d2, d3, d4, d5, h1, h4, h5⟩ := K6.r.cells
    -- orders
    refine wpAny_take (i := 0) (v := ?_) rfl (by kernel_rfl) (by kernel_rfl) (by kernel_rfl) (fun _ _ _ h => h) (Or.inl ⟨by rfl, ?_⟩) ?_
    rotate_left
    · intro wx; go_simp; try with_reducible rfl
    rotate_left
    refine wpAny_take (i := 1) (v := ?_) rfl (by kernel_rfl) (by kernel_rfl) (by kernel_rfl) (fun _ _ _ h => h) (Or.inl ⟨by rfl, ?_⟩) ?_
    rotate_left
    · intro wx; go_simp; try with_reducible rfl
    rotate_left
    refine wpAny_take (i := 2) (v := ?_) rfl (by kernel_rfl) (by kernel_rfl) (by kernel_rfl) (fun _ _ _ h => h) (Or.inl ⟨by rfl, ?_⟩) ?_
    rotate_left
    · intro wx; go_simp; try with_reducible rfl
    rotate_left
    refine wpAny_take (i := 3) (v := ?_) rfl (by kernel_rfl) (by kernel_rfl) (by kernel_rfl) (fun _ _ _ h => h) (Or.inl ⟨by rfl, ?_⟩) ?_
    rotate_left
    · intro wx; go_simp; try with_reducible rfl
    rotate_left
    refine wpAny_take (i := 5) (v := ?_) rfl (by kernel_rfl) (by kernel_rfl) (by kernel_rfl) (fun _ _ _ h => h) (Or.inl ⟨by rfl, ?_⟩) ?_
    rotate_left
    · intro wx; go_simp; try with_reducible rfl
    rotate_left
    refine wpAny_take (i := 6) (v := ?_) rfl (by kernel_rfl) (by kernel_rfl) (by kernel_rfl) (fun _ _ _ h => h) (Or.inl ⟨by rfl, ?_⟩) ?_
    rotate_left
    · intro wx; go_simp; try with_reducible rfl
    rotate_left
    refine wpAny_take (i := 7) (v := ?_) rfl (by kernel_rfl) (by kernel_rfl) (by kernel_rfl) (fun _ _ _ h => h) (Or.inl ⟨by rfl, ?_⟩) ?_
    rotate_left
    · intro wx; go_simp; try with_reducible rfl
    rotate_left
    refine wpAny_take (i := 9) (v := ?_) rfl (by kernel_rfl) (by kernel_rfl) (by kernel_rfl) (fun _ _ _ h => h) (Or.inl ⟨by rfl, ?_⟩) ?_
    rotate_left
    · intro wx; go_simp; try with_reducible rfl
    rotate_left
    refine wpAny_take (i := 10) (v := ?_) rfl (by kernel_rfl) (by kernel_rfl) (by kernel_rfl) (fun _ _ _ h => h) (Or.inl ⟨by rfl, ?_⟩) ?_
    rotate_left
    · intro wx; go_simp; try with_reducible rfl
    rotate_left
    refine wpAny_take (i := 11) (v := ?_) rfl (by kernel_rfl) (by kernel_rfl) (by kernel_rfl) (fun _ _ _ h => h) (Or.inl ⟨by rfl, ?_⟩) ?_
    rotate_left
    · intro wx; go_simp; try with_reducible rfl
    rotate_left
    refine wpAny_take (i := 12) (v := ?_) rfl (by kernel_rfl) (by kernel_rfl) (by kernel_rfl) (fun _ _ _ h => h) (Or.inl ⟨by rfl, ?_⟩) ?_
    rotate_left
    · intro wx; go_simp; try with_reducible rfl
    rotate_left
    simp only [List.getElem_toArray, List.getElem_cons_succ, List.getElem_cons_zero, Act.put, List.setIfInBounds_toArray, List.set_cons_succ, List.set_cons_zero]
    refine wpAny_all (rs := [4, 8, 13]) (by kernel_rfl) (by decide) ?_
    intro i hi
    simp only [List.mem_cons, List.not_mem_nil, or_false] at hi
    rcases hi with rfl | rfl | rfl
    · refine wpOp_val (v := .slice ao m1 cp) (w' := w5) rfl (by rfl) (by go_simp) ?_
      refine wpAny_all (rs := [8, 13]) (by kernel_rfl) (by decide) ?_
      intro i hi
      simp only [List.mem_cons, List.not_mem_nil, or_false] at hi
      rcases hi with rfl | rfl
      · refine wpOp_val (v := .string s) (w' := w5) rfl (by rfl) (by go_simp) ?_
        refine wpAny_all (rs := [13]) (by kernel_rfl) (by decide) ?_
        intro i hi
        simp only [List.mem_cons, List.not_mem_nil, or_false] at hi
        subst hi
        refine wpOp_val (v := .int .i64 (σ1.at_ : Nat)) (w' := w5) rfl (by rfl) (by go_simp) ?_
        refine wpAny_take (i := 14) (v := .int .i64 ((σ1.at_ : Int) + 1)) rfl (by kernel_rfl) (by kernel_rfl) (by kernel_rfl) (fun _ _ _ h => h) (Or.inl ⟨by rfl, ?_⟩) ?_
        · intro wx; go_simp; rw [HW.out]
        simp only [List.getElem_toArray, List.getElem_cons_succ, List.getElem_cons_zero, Act.put, List.setIfInBounds_toArray, List.set_cons_succ, List.set_cons_zero]
        refine wpAny_take (i := 15) (v := .string SB) rfl (by kernel_rfl) (by kernel_rfl) (by kernel_rfl) (fun _ _ _ h => h) (Or.inl ⟨by rfl, ?_⟩) ?_
        · intro wx
          go_simp
          exact HSB.out
        refine wpAny_all (rs := [16]) (by kernel_rfl) (by decide) ?_
        intro i hi
        simp only [List.mem_cons, List.not_mem_nil, or_false] at hi
        subst hi
        refine wpOp_val (v := .slice (some ⟨w5.heap.size, 0, none⟩) 1 1) (w' := w5.alloc (.cells #[.string SB] 9)) rfl (by rfl) (by go_simp) ?_
        refine wpAny_all (rs := [17]) (by kernel_rfl) (by decide) ?_
        intro i hi
        simp only [List.mem_cons, List.not_mem_nil, or_false] at hi
        subst hi
        refine wpOp_of (i := 17) rfl (by rfl) ?_
        refine wp_append_own _ (.tmp 56) (.tmp 68) 22 rfl B 9 i0 _ 1 16 Tryz.underlying22 hi0 hz0 hz1 hz2 rfl (by decide) (.slice ao m1 cp) m1 xs rfl K6.o1 ⟨w5.heap.size, 0, none⟩ 1 1 [.string SB] rfl rfl HN (by simp [Value.oneCell']) (by unfold maxLen; omega) (by omega) K6.hB ?_
        intro nm' w7 ho hg _
        obtain ⟨g, cp', rfl⟩ := own_some ho (by omega)
        have K7 := K6.appN ho hg
        obtain ⟨m0, m1', m2', m3, fm0, fm1, fm2, fm3⟩ := K7.node.cells
        simp only [List.getElem_toArray, List.getElem_cons_succ, List.getElem_cons_zero, Act.put, List.setIfInBounds_toArray, List.set_cons_succ, List.set_cons_zero]
        refine wpAny_take (i := 18) (v := ?_) rfl (by kernel_rfl) (by kernel_rfl) (by kernel_rfl) (fun _ _ _ h => h) (Or.inl ⟨by rfl, ?_⟩) ?_
        rotate_left
        · intro wx; go_simp; try with_reducible rfl
        rotate_left
        refine wpAny_take (i := 19) (v := ?_) rfl (by kernel_rfl) (by kernel_rfl) (by kernel_rfl) (fun _ _ _ h => h) (Or.inl ⟨by rfl, ?_⟩) ?_
        rotate_left
        · intro wx; go_simp; try with_reducible rfl
        rotate_left
        simp only [List.getElem_toArray, List.getElem_cons_succ, List.getElem_cons_zero, Act.put, List.setIfInBounds_toArray, List.set_cons_succ, List.set_cons_zero]
        refine wpAny_some [20] (by kernel_rfl) (by kernel_rfl) ?_
        simp only [List.filterMap_cons, List.filterMap_nil, List.getElem?_cons_succ, List.getElem?_cons_zero, List.getElem_toArray, List.getElem_cons_succ, List.getElem_cons_zero, Act.put, List.setIfInBounds_toArray, List.set_cons_succ, List.set_cons_zero]
        go_wp2_with fail
        go_meet
        exact ⟨k0, t0, _, kd, m1 + 1, m2, _, ys, K7.names _, by omega, by omega, by omega, fun x hx => by
          rcases List.mem_append.1 hx with h | h
          · exact e3 x h
          · obtain rfl : x = .string SB := by simpa using h
            exact hSB⟩
      · refine wpOp_val (v := .int .i64 (σ1.at_ : Nat)) (w' := w5) rfl (by rfl) (by go_simp) ?_
        refine wpAny_take (i := 14) (v := .int .i64 ((σ1.at_ : Int) + 1)) rfl (by kernel_rfl) (by kernel_rfl) (by kernel_rfl) (fun _ _ _ h => h) (Or.inl ⟨by rfl, ?_⟩) ?_
        · intro wx; go_simp; rw [HW.out]
        refine wpAny_all (rs := [8]) (by kernel_rfl) (by decide) ?_
        intro i hi
        simp only [List.mem_cons, List.not_mem_nil, or_false] at hi
        subst hi
        refine wpOp_val (v := .string s) (w' := w5) rfl (by rfl) (by go_simp) ?_
        simp only [List.getElem_toArray, List.getElem_cons_succ, List.getElem_cons_zero, Act.put, List.setIfInBounds_toArray, List.set_cons_succ, List.set_cons_zero]
        refine wpAny_take (i := 15) (v := .string SB) rfl (by kernel_rfl) (by kernel_rfl) (by kernel_rfl) (fun _ _ _ h => h) (Or.inl ⟨by rfl, ?_⟩) ?_
        · intro wx
          go_simp
          exact HSB.out
        refine wpAny_all (rs := [16]) (by kernel_rfl) (by decide) ?_
        intro i hi
        simp only [List.mem_cons, List.not_mem_nil, or_false] at hi
        subst hi
        refine wpOp_val (v := .slice (some ⟨w5.heap.size, 0, none⟩) 1 1) (w' := w5.alloc (.cells #[.string SB] 9)) rfl (by rfl) (by go_simp) ?_
        refine wpAny_all (rs := [17]) (by kernel_rfl) (by decide) ?_
        intro i hi
        simp only [List.mem_cons, List.not_mem_nil, or_false] at hi
        subst hi
        refine wpOp_of (i := 17) rfl (by rfl) ?_
        refine wp_append_own _ (.tmp 56) (.tmp 68) 22 rfl B 9 i0 _ 1 16 Tryz.underlying22 hi0 hz0 hz1 hz2 rfl (by decide) (.slice ao m1 cp) m1 xs rfl K6.o1 ⟨w5.heap.size, 0, none⟩ 1 1 [.string SB] rfl rfl HN (by simp [Value.oneCell']) (by unfold maxLen; omega) (by omega) K6.hB ?_
        intro nm' w7 ho hg _
        obtain ⟨g, cp', rfl⟩ := own_some ho (by omega)
        have K7 := K6.appN ho hg
        obtain ⟨m0, m1', m2', m3, fm0, fm1, fm2, fm3⟩ := K7.node.cells
        simp only [List.getElem_toArray, List.getElem_cons_succ, List.getElem_cons_zero, Act.put, List.setIfInBounds_toArray, List.set_cons_succ, List.set_cons_zero]
        refine wpAny_take (i := 18) (v := ?_) rfl (by kernel_rfl) (by kernel_rfl) (by kernel_rfl) (fun _ _ _ h => h) (Or.inl ⟨by rfl, ?_⟩) ?_
        rotate_left
        · intro wx; go_simp; try with_reducible rfl
        rotate_left
        refine wpAny_take (i := 19) (v := ?_) rfl (by kernel_rfl) (by kernel_rfl) (by kernel_rfl) (fun _ _ _ h => h) (Or.inl ⟨by rfl, ?_⟩) ?_
        rotate_left
        · intro wx; go_simp; try with_reducible rfl
        rotate_left
        simp only [List.getElem_toArray, List.getElem_cons_succ, List.getElem_cons_zero, Act.put, List.setIfInBounds_toArray, List.set_cons_succ, List.set_cons_zero]
        refine wpAny_some [20] (by kernel_rfl) (by kernel_rfl) ?_
        simp only [List.filterMap_cons, List.filterMap_nil, List.getElem?_cons_succ, List.getElem?_cons_zero, List.getElem_toArray, List.getElem_cons_succ, List.getElem_cons_zero, Act.put, List.setIfInBounds_toArray, List.set_cons_succ, List.set_cons_zero]
        go_wp2_with fail
        go_meet
        exact ⟨k0, t0, _, kd, m1 + 1, m2, _, ys, K7.names _, by omega, by omega, by omega, fun x hx => by
          rcases List.mem_append.1 hx with h | h
          · exact e3 x h
          · obtain rfl : x = .string SB := by simpa using h
            exact hSB⟩
    · refine wpOp_val (v := .string s) (w' := w5) rfl (by rfl) (by go_simp) ?_
      refine wpAny_all (rs := [4, 13]) (by kernel_rfl) (by decide) ?_
      intro i hi
      simp only [List.mem_cons, List.not_mem_nil, or_false] at hi
      rcases hi with rfl | rfl
      · refine wpOp_val (v := .slice ao m1 cp) (w' := w5) rfl (by rfl) (by go_simp) ?_
        refine wpAny_all (rs := [13]) (by kernel_rfl) (by decide) ?_
        intro i hi
        simp only [List.mem_cons, List.not_mem_nil, or_false] at hi
        subst hi
        refine wpOp_val (v := .int .i64 (σ1.at_ : Nat)) (w' := w5) rfl (by rfl) (by go_simp) ?_
        refine wpAny_take (i := 14) (v := .int .i64 ((σ1.at_ : Int) + 1)) rfl (by kernel_rfl) (by kernel_rfl) (by kernel_rfl) (fun _ _ _ h => h) (Or.inl ⟨by rfl, ?_⟩) ?_
        · intro wx; go_simp; rw [HW.out]
        simp only [List.getElem_toArray, List.getElem_cons_succ, List.getElem_cons_zero, Act.put, List.setIfInBounds_toArray, List.set_cons_succ, List.set_cons_zero]
        refine wpAny_take (i := 15) (v := .string SB) rfl (by kernel_rfl) (by kernel_rfl) (by kernel_rfl) (fun _ _ _ h => h) (Or.inl ⟨by rfl, ?_⟩) ?_
        · intro wx
          go_simp
          exact HSB.out
        refine wpAny_all (rs := [16]) (by kernel_rfl) (by decide) ?_
        intro i hi
        simp only [List.mem_cons, List.not_mem_nil, or_false] at hi
        subst hi
        refine wpOp_val (v := .slice (some ⟨w5.heap.size, 0, none⟩) 1 1) (w' := w5.alloc (.cells #[.string SB] 9)) rfl (by rfl) (by go_simp) ?_
        refine wpAny_all (rs := [17]) (by kernel_rfl) (by decide) ?_
        intro i hi
        simp only [List.mem_cons, List.not_mem_nil, or_false] at hi
        subst hi
        refine wpOp_of (i := 17) rfl (by rfl) ?_
        refine wp_append_own _ (.tmp 56) (.tmp 68) 22 rfl B 9 i0 _ 1 16 Tryz.underlying22 hi0 hz0 hz1 hz2 rfl (by decide) (.slice ao m1 cp) m1 xs rfl K6.o1 ⟨w5.heap.size, 0, none⟩ 1 1 [.string SB] rfl rfl HN (by simp [Value.oneCell']) (by unfold maxLen; omega) (by omega) K6.hB ?_
        intro nm' w7 ho hg _
        obtain ⟨g, cp', rfl⟩ := own_some ho (by omega)
        have K7 := K6.appN ho hg
        obtain ⟨m0, m1', m2', m3, fm0, fm1, fm2, fm3⟩ := K7.node.cells
        simp only [List.getElem_toArray, List.getElem_cons_succ, List.getElem_cons_zero, Act.put, List.setIfInBounds_toArray, List.set_cons_succ, List.set_cons_zero]
        refine wpAny_take (i := 18) (v := ?_) rfl (by kernel_rfl) (by kernel_rfl) (by kernel_rfl) (fun _ _ _ h => h) (Or.inl ⟨by rfl, ?_⟩) ?_
        rotate_left
        · intro wx; go_simp; try with_reducible rfl
        rotate_left
        refine wpAny_take (i := 19) (v := ?_) rfl (by kernel_rfl) (by kernel_rfl) (by kernel_rfl) (fun _ _ _ h => h) (Or.inl ⟨by rfl, ?_⟩) ?_
        rotate_left
        · intro wx; go_simp; try with_reducible rfl
        rotate_left
        simp only [List.getElem_toArray, List.getElem_cons_succ, List.getElem_cons_zero, Act.put, List.setIfInBounds_toArray, List.set_cons_succ, List.set_cons_zero]
        refine wpAny_some [20] (by kernel_rfl) (by kernel_rfl) ?_
        simp only [List.filterMap_cons, List.filterMap_nil, List.getElem?_cons_succ, List.getElem?_cons_zero, List.getElem_toArray, List.getElem_cons_succ, List.getElem_cons_zero, Act.put, List.setIfInBounds_toArray, List.set_cons_succ, List.set_cons_zero]
        go_wp2_with fail
        go_meet
        exact ⟨k0, t0, _, kd, m1 + 1, m2, _, ys, K7.names _, by omega, by omega, by omega, fun x hx => by
          rcases List.mem_append.1 hx with h | h
          · exact e3 x h
          · obtain rfl : x = .string SB := by simpa using h
            exact hSB⟩
      · refine wpOp_val (v := .int .i64 (σ1.at_ : Nat)) (w' := w5) rfl (by rfl) (by go_simp) ?_
        refine wpAny_take (i := 14) (v := .int .i64 ((σ1.at_ : Int) + 1)) rfl (by kernel_rfl) (by kernel_rfl) (by kernel_rfl) (fun _ _ _ h => h) (Or.inl ⟨by rfl, ?_⟩) ?_
        · intro wx; go_simp; rw [HW.out]
        simp only [List.getElem_toArray, List.getElem_cons_succ, List.getElem_cons_zero, Act.put, List.setIfInBounds_toArray, List.set_cons_succ, List.set_cons_zero]
        refine wpAny_take (i := 15) (v := .string SB) rfl (by kernel_rfl) (by kernel_rfl) (by kernel_rfl) (fun _ _ _ h => h) (Or.inl ⟨by rfl, ?_⟩) ?_
        · intro wx
          go_simp
          exact HSB.out
        refine wpAny_all (rs := [4, 16]) (by kernel_rfl) (by decide) ?_
        intro i hi
        simp only [List.mem_cons, List.not_mem_nil, or_false] at hi
        rcases hi with rfl | rfl
        · refine wpOp_val (v := .slice ao m1 cp) (w' := w5) rfl (by rfl) (by go_simp) ?_
          refine wpAny_all (rs := [16]) (by kernel_rfl) (by decide) ?_
          intro i hi
          simp only [List.mem_cons, List.not_mem_nil, or_false] at hi
          subst hi
          refine wpOp_val (v := .slice (some ⟨w5.heap.size, 0, none⟩) 1 1) (w' := w5.alloc (.cells #[.string SB] 9)) rfl (by rfl) (by go_simp) ?_
          refine wpAny_all (rs := [17]) (by kernel_rfl) (by decide) ?_
          intro i hi
          simp only [List.mem_cons, List.not_mem_nil, or_false] at hi
          subst hi
          refine wpOp_of (i := 17) rfl (by rfl) ?_
          refine wp_append_own _ (.tmp 56) (.tmp 68) 22 rfl B 9 i0 _ 1 16 Tryz.underlying22 hi0 hz0 hz1 hz2 rfl (by decide) (.slice ao m1 cp) m1 xs rfl K6.o1 ⟨w5.heap.size, 0, none⟩ 1 1 [.string SB] rfl rfl HN (by simp [Value.oneCell']) (by unfold maxLen; omega) (by omega) K6.hB ?_
          intro nm' w7 ho hg _
          obtain ⟨g, cp', rfl⟩ := own_some ho (by omega)
          have K7 := K6.appN ho hg
          obtain ⟨m0, m1', m2', m3, fm0, fm1, fm2, fm3⟩ := K7.node.cells
          simp only [List.getElem_toArray, List.getElem_cons_succ, List.getElem_cons_zero, Act.put, List.setIfInBounds_toArray, List.set_cons_succ, List.set_cons_zero]
          refine wpAny_take (i := 18) (v := ?_) rfl (by kernel_rfl) (by kernel_rfl) (by kernel_rfl) (fun _ _ _ h => h) (Or.inl ⟨by rfl, ?_⟩) ?_
          rotate_left
          · intro wx; go_simp; try with_reducible rfl
          rotate_left
          refine wpAny_take (i := 19) (v := ?_) rfl (by kernel_rfl) (by kernel_rfl) (by kernel_rfl) (fun _ _ _ h => h) (Or.inl ⟨by rfl, ?_⟩) ?_
          rotate_left
          · intro wx; go_simp; try with_reducible rfl
          rotate_left
          simp only [List.getElem_toArray, List.getElem_cons_succ, List.getElem_cons_zero, Act.put, List.setIfInBounds_toArray, List.set_cons_succ, List.set_cons_zero]
          refine wpAny_some [20] (by kernel_rfl) (by kernel_rfl) ?_
          simp only [List.filterMap_cons, List.filterMap_nil, List.getElem?_cons_succ, List.getElem?_cons_zero, List.getElem_toArray, List.getElem_cons_succ, List.getElem_cons_zero, Act.put, List.setIfInBounds_toArray, List.set_cons_succ, List.set_cons_zero]
          go_wp2_with fail
          go_meet
          exact ⟨k0, t0, _, kd, m1 + 1, m2, _, ys, K7.names _, by omega, by omega, by omega, fun x hx => by
            rcases List.mem_append.1 hx with h | h
            · exact e3 x h
            · obtain rfl : x = .string SB := by simpa using h
              exact hSB⟩
        · refine wpOp_val (v := .slice (some ⟨w5.heap.size, 0, none⟩) 1 1) (w' := w5.alloc (.cells #[.string SB] 9)) rfl (by rfl) (by go_simp) ?_
          refine wpAny_all (rs := [4]) (by kernel_rfl) (by decide) ?_
          intro i hi
          simp only [List.mem_cons, List.not_mem_nil, or_false] at hi
          subst hi
          refine wpOp_val (v := .slice ao m1 cp) (w' := (w5.alloc (.cells #[.string SB] 9))) rfl (by rfl) (by go_simp) ?_
          refine wpAny_all (rs := [17]) (by kernel_rfl) (by decide) ?_
          intro i hi
          simp only [List.mem_cons, List.not_mem_nil, or_false] at hi
          subst hi
          refine wpOp_of (i := 17) rfl (by rfl) ?_
          refine wp_append_own _ (.tmp 56) (.tmp 68) 22 rfl B 9 i0 _ 1 16 Tryz.underlying22 hi0 hz0 hz1 hz2 rfl (by decide) (.slice ao m1 cp) m1 xs rfl K6.o1 ⟨w5.heap.size, 0, none⟩ 1 1 [.string SB] rfl rfl HN (by simp [Value.oneCell']) (by unfold maxLen; omega) (by omega) K6.hB ?_
          intro nm' w7 ho hg _
          obtain ⟨g, cp', rfl⟩ := own_some ho (by omega)
          have K7 := K6.appN ho hg
          obtain ⟨m0, m1', m2', m3, fm0, fm1, fm2, fm3⟩ := K7.node.cells
          simp only [List.getElem_toArray, List.getElem_cons_succ, List.getElem_cons_zero, Act.put, List.setIfInBounds_toArray, List.set_cons_succ, List.set_cons_zero]
          refine wpAny_take (i := 18) (v := ?_) rfl (by kernel_rfl) (by kernel_rfl) (by kernel_rfl) (fun _ _ _ h => h) (Or.inl ⟨by rfl, ?_⟩) ?_
          rotate_left
          · intro wx; go_simp; try with_reducible rfl
          rotate_left
          refine wpAny_take (i := 19) (v := ?_) rfl (by kernel_rfl) (by kernel_rfl) (by kernel_rfl) (fun _ _ _ h => h) (Or.inl ⟨by rfl, ?_⟩) ?_
          rotate_left
          · intro wx; go_simp; try with_reducible rfl
          rotate_left
          simp only [List.getElem_toArray, List.getElem_cons_succ, List.getElem_cons_zero, Act.put, List.setIfInBounds_toArray, List.set_cons_succ, List.set_cons_zero]
          refine wpAny_some [20] (by kernel_rfl) (by kernel_rfl) ?_
          simp only [List.filterMap_cons, List.filterMap_nil, List.getElem?_cons_succ, List.getElem?_cons_zero, List.getElem_toArray, List.getElem_cons_succ, List.getElem_cons_zero, Act.put, List.setIfInBounds_toArray, List.set_cons_succ, List.set_cons_zero]
          go_wp2_with fail
          go_meet
          exact ⟨k0, t0, _, kd, m1 + 1, m2, _, ys, K7.names _, by omega, by omega, by omega, fun x hx => by
            rcases List.mem_append.1 hx with h | h
            · exact e3 x h
            · obtain rfl : x = .string SB := by simpa using h
              exact hSB⟩
    · refine wpOp_val (v := .int .i64 (σ1.at_ : Nat)) (w' := w5) rfl (by rfl) (by go_simp) ?_
      refine wpAny_take (i := 14) (v := .int .i64 ((σ1.at_ : Int) + 1)) rfl (by kernel_rfl) (by kernel_rfl) (by kernel_rfl) (fun _ _ _ h => h) (Or.inl ⟨by rfl, ?_⟩) ?_
      · intro wx; go_simp; rw [HW.out]
      refine wpAny_all (rs := [4, 8]) (by kernel_rfl) (by decide) ?_
      intro i hi
      simp only [List.mem_cons, List.not_mem_nil, or_false] at hi
      rcases hi with rfl | rfl
      · refine wpOp_val (v := .slice ao m1 cp) (w' := w5) rfl (by rfl) (by go_simp) ?_
        refine wpAny_all (rs := [8]) (by kernel_rfl) (by decide) ?_
        intro i hi
        simp only [List.mem_cons, List.not_mem_nil, or_false] at hi
        subst hi
        refine wpOp_val (v := .string s) (w' := w5) rfl (by rfl) (by go_simp) ?_
        simp only [List.getElem_toArray, List.getElem_cons_succ, List.getElem_cons_zero, Act.put, List.setIfInBounds_toArray, List.set_cons_succ, List.set_cons_zero]
        refine wpAny_take (i := 15) (v := .string SB) rfl (by kernel_rfl) (by kernel_rfl) (by kernel_rfl) (fun _ _ _ h => h) (Or.inl ⟨by rfl, ?_⟩) ?_
        · intro wx
          go_simp
          exact HSB.out
        refine wpAny_all (rs := [16]) (by kernel_rfl) (by decide) ?_
        intro i hi
        simp only [List.mem_cons, List.not_mem_nil, or_false] at hi
        subst hi
        refine wpOp_val (v := .slice (some ⟨w5.heap.size, 0, none⟩) 1 1) (w' := w5.alloc (.cells #[.string SB] 9)) rfl (by rfl) (by go_simp) ?_
        refine wpAny_all (rs := [17]) (by kernel_rfl) (by decide) ?_
        intro i hi
        simp only [List.mem_cons, List.not_mem_nil, or_false] at hi
        subst hi
        refine wpOp_of (i := 17) rfl (by rfl) ?_
        refine wp_append_own _ (.tmp 56) (.tmp 68) 22 rfl B 9 i0 _ 1 16 Tryz.underlying22 hi0 hz0 hz1 hz2 rfl (by decide) (.slice ao m1 cp) m1 xs rfl K6.o1 ⟨w5.heap.size, 0, none⟩ 1 1 [.string SB] rfl rfl HN (by simp [Value.oneCell']) (by unfold maxLen; omega) (by omega) K6.hB ?_
        intro nm' w7 ho hg _
        obtain ⟨g, cp', rfl⟩ := own_some ho (by omega)
        have K7 := K6.appN ho hg
        obtain ⟨m0, m1', m2', m3, fm0, fm1, fm2, fm3⟩ := K7.node.cells
        simp only [List.getElem_toArray, List.getElem_cons_succ, List.getElem_cons_zero, Act.put, List.setIfInBounds_toArray, List.set_cons_succ, List.set_cons_zero]
        refine wpAny_take (i := 18) (v := ?_) rfl (by kernel_rfl) (by kernel_rfl) (by kernel_rfl) (fun _ _ _ h => h) (Or.inl ⟨by rfl, ?_⟩) ?_
        rotate_left
        · intro wx; go_simp; try with_reducible rfl
        rotate_left
        refine wpAny_take (i := 19) (v := ?_) rfl (by kernel_rfl) (by kernel_rfl) (by kernel_rfl) (fun _ _ _ h => h) (Or.inl ⟨by rfl, ?_⟩) ?_
        rotate_left
        · intro wx; go_simp; try with_reducible rfl
        rotate_left
        simp only [List.getElem_toArray, List.getElem_cons_succ, List.getElem_cons_zero, Act.put, List.setIfInBounds_toArray, List.set_cons_succ, List.set_cons_zero]
        refine wpAny_some [20] (by kernel_rfl) (by kernel_rfl) ?_
        simp only [List.filterMap_cons, List.filterMap_nil, List.getElem?_cons_succ, List.getElem?_cons_zero, List.getElem_toArray, List.getElem_cons_succ, List.getElem_cons_zero, Act.put, List.setIfInBounds_toArray, List.set_cons_succ, List.set_cons_zero]
        go_wp2_with fail
        go_meet
        exact ⟨k0, t0, _, kd, m1 + 1, m2, _, ys, K7.names _, by omega, by omega, by omega, fun x hx => by
          rcases List.mem_append.1 hx with h | h
          · exact e3 x h
          · obtain rfl : x = .string SB := by simpa using h
            exact hSB⟩
      · refine wpOp_val (v := .string s) (w' := w5) rfl (by rfl) (by go_simp) ?_
        simp only [List.getElem_toArray, List.getElem_cons_succ, List.getElem_cons_zero, Act.put, List.setIfInBounds_toArray, List.set_cons_succ, List.set_cons_zero]
        refine wpAny_take (i := 15) (v := .string SB) rfl (by kernel_rfl) (by kernel_rfl) (by kernel_rfl) (fun _ _ _ h => h) (Or.inl ⟨by rfl, ?_⟩) ?_
        · intro wx
          go_simp
          exact HSB.out
        refine wpAny_all (rs := [4, 16]) (by kernel_rfl) (by decide) ?_
        intro i hi
        simp only [List.mem_cons, List.not_mem_nil, or_false] at hi
        rcases hi with rfl | rfl
        · refine wpOp_val (v := .slice ao m1 cp) (w' := w5) rfl (by rfl) (by go_simp) ?_
          refine wpAny_all (rs := [16]) (by kernel_rfl) (by decide) ?_
          intro i hi
          simp only [List.mem_cons, List.not_mem_nil, or_false] at hi
          subst hi
          refine wpOp_val (v := .slice (some ⟨w5.heap.size, 0, none⟩) 1 1) (w' := w5.alloc (.cells #[.string SB] 9)) rfl (by rfl) (by go_simp) ?_
          refine wpAny_all (rs := [17]) (by kernel_rfl) (by decide) ?_
          intro i hi
          simp only [List.mem_cons, List.not_mem_nil, or_false] at hi
          subst hi
          refine wpOp_of (i := 17) rfl (by rfl) ?_
          refine wp_append_own _ (.tmp 56) (.tmp 68) 22 rfl B 9 i0 _ 1 16 Tryz.underlying22 hi0 hz0 hz1 hz2 rfl (by decide) (.slice ao m1 cp) m1 xs rfl K6.o1 ⟨w5.heap.size, 0, none⟩ 1 1 [.string SB] rfl rfl HN (by simp [Value.oneCell']) (by unfold maxLen; omega) (by omega) K6.hB ?_
          intro nm' w7 ho hg _
          obtain ⟨g, cp', rfl⟩ := own_some ho (by omega)
          have K7 := K6.appN ho hg
          obtain ⟨m0, m1', m2', m3, fm0, fm1, fm2, fm3⟩ := K7.node.cells
          simp only [List.getElem_toArray, List.getElem_cons_succ, List.getElem_cons_zero, Act.put, List.setIfInBounds_toArray, List.set_cons_succ, List.set_cons_zero]
          refine wpAny_take (i := 18) (v := ?_) rfl (by kernel_rfl) (by kernel_rfl) (by kernel_rfl) (fun _ _ _ h => h) (Or.inl ⟨by rfl, ?_⟩) ?_
          rotate_left
          · intro wx; go_simp; try with_reducible rfl
          rotate_left
          refine wpAny_take (i := 19) (v := ?_) rfl (by kernel_rfl) (by kernel_rfl) (by kernel_rfl) (fun _ _ _ h => h) (Or.inl ⟨by rfl, ?_⟩) ?_
          rotate_left
          · intro wx; go_simp; try with_reducible rfl
          rotate_left
          simp only [List.getElem_toArray, List.getElem_cons_succ, List.getElem_cons_zero, Act.put, List.setIfInBounds_toArray, List.set_cons_succ, List.set_cons_zero]
          refine wpAny_some [20] (by kernel_rfl) (by kernel_rfl) ?_
          simp only [List.filterMap_cons, List.filterMap_nil, List.getElem?_cons_succ, List.getElem?_cons_zero, List.getElem_toArray, List.getElem_cons_succ, List.getElem_cons_zero, Act.put, List.setIfInBounds_toArray, List.set_cons_succ, List.set_cons_zero]
          go_wp2_with fail
          go_meet
          exact ⟨k0, t0, _, kd, m1 + 1, m2, _, ys, K7.names _, by omega, by omega, by omega, fun x hx => by
            rcases List.mem_append.1 hx with h | h
            · exact e3 x h
            · obtain rfl : x = .string SB := by simpa using h
              exact hSB⟩
        · refine wpOp_val (v := .slice (some ⟨w5.heap.size, 0, none⟩) 1 1) (w' := w5.alloc (.cells #[.string SB] 9)) rfl (by rfl) (by go_simp) ?_
          refine wpAny_all (rs := [4]) (by kernel_rfl) (by decide) ?_
          intro i hi
          simp only [List.mem_cons, List.not_mem_nil, or_false] at hi
          subst hi
          refine wpOp_val (v := .slice ao m1 cp) (w' := (w5.alloc (.cells #[.string SB] 9))) rfl (by rfl) (by go_simp) ?_
          refine wpAny_all (rs := [17]) (by kernel_rfl) (by decide) ?_
          intro i hi
          simp only [List.mem_cons, List.not_mem_nil, or_false] at hi
          subst hi
          refine wpOp_of (i := 17) rfl (by rfl) ?_
          refine wp_append_own _ (.tmp 56) (.tmp 68) 22 rfl B 9 i0 _ 1 16 Tryz.underlying22 hi0 hz0 hz1 hz2 rfl (by decide) (.slice ao m1 cp) m1 xs rfl K6.o1 ⟨w5.heap.size, 0, none⟩ 1 1 [.string SB] rfl rfl HN (by simp [Value.oneCell']) (by unfold maxLen; omega) (by omega) K6.hB ?_
          intro nm' w7 ho hg _
          obtain ⟨g, cp', rfl⟩ := own_some ho (by omega)
          have K7 := K6.appN ho hg
          obtain ⟨m0, m1', m2', m3, fm0, fm1, fm2, fm3⟩ := K7.node.cells
          simp only [List.getElem_toArray, List.getElem_cons_succ, List.getElem_cons_zero, Act.put, List.setIfInBounds_toArray, List.set_cons_succ, List.set_cons_zero]
          refine wpAny_take (i := 18) (v := ?_) rfl (by kernel_rfl) (by kernel_rfl) (by kernel_rfl) (fun _ _ _ h => h) (Or.inl ⟨by rfl, ?_⟩) ?_
          rotate_left
          · intro wx; go_simp; try with_reducible rfl
          rotate_left
          refine wpAny_take (i := 19) (v := ?_) rfl (by kernel_rfl) (by kernel_rfl) (by kernel_rfl) (fun _ _ _ h => h) (Or.inl ⟨by rfl, ?_⟩) ?_
          rotate_left
          · intro wx; go_simp; try with_reducible rfl
          rotate_left
          simp only [List.getElem_toArray, List.getElem_cons_succ, List.getElem_cons_zero, Act.put, List.setIfInBounds_toArray, List.set_cons_succ, List.set_cons_zero]
          refine wpAny_some [20] (by kernel_rfl) (by kernel_rfl) ?_
          simp only [List.filterMap_cons, List.filterMap_nil, List.getElem?_cons_succ, List.getElem?_cons_zero, List.getElem_toArray, List.getElem_cons_succ, List.getElem_cons_zero, Act.put, List.setIfInBounds_toArray, List.set_cons_succ, List.set_cons_zero]
          go_wp2_with fail
          go_meet
          exact ⟨k0, t0, _, kd, m1 + 1, m2, _, ys, K7.names _, by omega, by omega, by omega, fun x hx => by
            rcases List.mem_append.1 hx with h | h
            · exact e3 x h
            · obtain rfl : x = .string SB := by simpa using h
              exact hSB⟩
  case rest =>
    obtain ⟨k0, t0, nm, kd, m1, m2, xs, ys, hK, p1, e1, e2, e3⟩ := hcut
    clear h h2 hR2 hM2 h3 hR3 hM3
    cases tw
    case true =>
      obtain ⟨c0, c1, c2, c3, c4, c5, f1, f4, f5⟩ := hK.r.cells
      go_upto_if 85 with fail
      clear c0 c1 c2 c3 c4 c5 f1 f4 f5
      have hKs := hK.mv (hK.r.setAt (σ1.at_ + 1)) ((Mv.refl b wc).setCell 1 (.int .i64 ((σ1.at_ + 1 : Nat) : Int)))
      have hts : σ1.at_ + 1 ≤ s.size := by omega
      obtain ⟨c0, c1, c2, c3, c4, c5, f1, f4, f5⟩ := hK.r.cells
      go_wp2_with (first
        | (go_at_call 15; refine (space_wk b s _ lo _ _ hKs.r hsm hts).mono ?_; rintro e w7 ⟨σ3, rfl, hR7, hM7, l3, l3'⟩; have hK7 := hKs.mv hR7 hM7)
        | (go_at_call 54; refine (need_wk b s _ lo σ3 _ _ _ hR7 hsm l3').mono ?_; rintro e w8 ⟨r8, σ4, rfl, hR8, hM8, l4, l4', l4''⟩; have hK8 := hK7.mv hR8 hM8))
      all_goals go_ret
      have l3 : σ1.at_ + 1 ≤ σ3.at_ := l3
      exact ⟨_, σ4, σ.at_ + 1, rfl, ⟨⟨k0, t0, nm, kd, m1, m2, xs, ys, hK8, by omega, by omega, e3⟩⟩, by omega, l4', fun _ => by omega⟩
    case false =>
      obtain ⟨m0', m1', m2', m3', fm0, fm1, fm2, fm3⟩ := hK.node.cells
      obtain ⟨c0, c1, c2, c3, c4, c5, f1, f4, f5⟩ := hK.r.cells
      go_upto_if 85 with (go_at_call 76; refine (hag rfl hK.hb σ1 wc nm m1 xs hK.r hK.o1 p1 e3).mono ?_; rintro e w6 ⟨r6, o6, rfl, hR6, hM6⟩; have hK6 := hK.mv hR6 hM6)
      clear m0' m1' m2' m3' fm0 fm1 fm2 fm3 c0 c1 c2 c3 c4 c5 f1 f4 f5
      cases r6
      case true =>
        go_wp2_with (go_at_call 16; refine (fail_any b s false lo _ _ _ hR6).mono ?_; rintro e w7 ⟨rfl, hR7, hM7⟩)
        all_goals go_ret
        exact ⟨_, _, σ.at_ + 1, rfl, ⟨⟨k0, t0, nm, kd, m1, m2, xs, ys, hK6.mv hR7 hM7, by omega, by omega, e3⟩⟩, by rw [St.fail_at]; exact hl1, by rw [St.fail_at]; exact hl2, fun h => by cases h⟩
      have hKs := hK6.mv (hK6.r.setAt (σ1.at_ + 1)) ((Mv.refl b w6).setCell 1 (.int .i64 ((σ1.at_ + 1 : Nat) : Int)))
      have hts : σ1.at_ + 1 ≤ s.size := by omega
      obtain ⟨c0, c1, c2, c3, c4, c5, f1, f4, f5⟩ := hK6.r.cells
      go_wp2_with (first
        | (go_at_call 15; refine (space_wk b s _ lo _ _ hKs.r hsm hts).mono ?_; rintro e w7 ⟨σ3, rfl, hR7, hM7, l3, l3'⟩; have hK7 := hKs.mv hR7 hM7)
        | (go_at_call 54; refine (need_wk b s _ lo σ3 _ _ _ hR7 hsm l3').mono ?_; rintro e w8 ⟨r8, σ4, rfl, hR8, hM8, l4, l4', l4''⟩; have hK8 := hK7.mv hR8 hM8))
      all_goals go_ret
      have l3 : σ1.at_ + 1 ≤ σ3.at_ := l3
      exact ⟨_, σ4, σ.at_ + 1, rfl, ⟨⟨k0, t0, nm, kd, m1, m2, xs, ys, hK8, by omega, by omega, e3⟩⟩, by omega, l4', fun _ => by omega⟩
end Go.Proofs.YtjbffgjclnjkoaaGreatDoor
