/- Numbers: the walk of the library's own reading. -/
import Derived.Test.YtokhmhbjbclcoaaDoorNx
import Derived.Test.YtokhmhbjbclcoaaDoorEo
import Derived.Test.YtokhmhbjbclcoaaDoorEr
import Derived.Test.YtokhmhbjbclcoaaDoorSb
import Derived.Test.YtokhmhbjbclcoaaDoorBx
import Derived.WalkMore
import Derived.Deep.CutBlock
namespace Go.Proofs.YtokhmhbjbclcoaaDoor
open Go.RowKit
set_option linter.unusedVariables false

theorem dgB_iff (c : Int) : dgB c = true ↔ 48 ≤ c ∧ c ≤ 57 := by unfold dgB; simp
namespace St
variable {s : ByteArray}
theorem digits_no {σ : St} (h : ¬ (σ.at_ < s.size ∧ dgB (bAt s σ.at_) = true)) : digits s σ = (false, σ.fail 4) := by
  have hn : need s σ 48 57 = (false, σ.fail 4) := by
    unfold need; rw [if_neg (fun hh => h ⟨hh.1, (dgB_iff _).2 hh.2⟩)]
  unfold digits; rw [hn]; rfl
theorem digits_yes {σ : St} (h : σ.at_ < s.size) (hd : dgB (bAt s σ.at_) = true) : digits s σ = (true, { σ with at_ := dgE s (s.size - (σ.at_ + 1)) (σ.at_ + 1) }) := by
  have hn : need s σ 48 57 = (true, { σ with at_ := σ.at_ + 1 }) := by
    unfold need; rw [if_pos ⟨h, ((dgB_iff _).1 hd).1, ((dgB_iff _).1 hd).2⟩]
  unfold digits; rw [hn]; rfl
end St

/-- How reading a number ends. -/
def CnEnd (s : ByteArray) (P : Bool × St) (w : World) (e : Ending) (w' : World) : Prop :=
  ∃ (n st : Int) (er : Value), e = .returned (.tuple #[.int .i64 n, .int .u64 st, er]) ∧ ErrIs w' er (cameHow s P) ∧ (P.1 = true → n = cameN s P) ∧ Below w.heap.size w w'
theorem cnEof {s : ByteArray} {σ : St} {w w' : World} {n st : Int} {er : Value} (ha : σ.at_ = s.size) (he : w'.cell? ⟨0, 0, none⟩ = some er) (hb : Below w.heap.size w w') : CnEnd s (false, σ) w (.returned (.tuple #[.int .i64 n, .int .u64 st, er])) w' :=
  ⟨n, st, er, rfl, .inr (.inl ⟨he, by simp [cameHow, ha]⟩), (fun h => by cases h), hb⟩
theorem cnBad {s : ByteArray} {σ : St} {w w' : World} {n st : Int} {p : Addr} (ha : σ.at_ < s.size) (hb : Below w.heap.size w w') : CnEnd s (false, σ) w (.returned (.tuple #[.int .i64 n, .int .u64 st, .iface 127 (.pointer (some p))])) w' :=
  ⟨n, st, _, rfl, .inr (.inr ⟨⟨p, rfl⟩, by have : ¬ σ.at_ = s.size := by omega
                                           simp [cameHow, this]⟩), (fun h => by cases h), hb⟩
theorem cnOk {s : ByteArray} {σ : St} {w w' : World} {n : Nat} {st : Int} (ha : σ.at_ = n) (hb : Below w.heap.size w w') : CnEnd s (true, σ) w (.returned (.tuple #[.int .i64 n, .int .u64 st, .nilIface])) w' :=
  ⟨n, st, _, rfl, .inl ⟨rfl, by simp [cameHow]⟩, fun _ => by simp [cameN, ha], hb⟩

theorem cellY {w : World} {b : Nat} {s : ByteArray} (h : Lib.Bytes w b 0 s) {i : Nat} (hi : i < s.size) (X : Int) (hX : bAt s i = X) : w.cell? ⟨b, i, none⟩ = some (.int .u8 X) := by
  have := h i hi
  rw [Nat.zero_add] at this
  rw [this, ← hX]; unfold bAt; rw [dif_pos hi]
set_option maxRecDepth 100000 in
set_option maxHeartbeats 20000000 in
theorem cn_any (B : Nat) (s : ByteArray) (b cap : Nat) (w : World) (hB : B ≤ w.heap.size) (hs : s.size ≤ 100000000000) (hcap : s.size ≤ cap) (hcm : cap ≤ maxLen) (hbl : b < w.heap.size) (hS : Lib.Bytes w b 0 s) (hT : TabsB B w) (hU : EofB B w) :
    Calls Tryd.prog 34 #[.slice (some ⟨b, 0, none⟩) s.size cap, .int .i64 0, .int .u64 0] w (CnEnd s (nhP s) w) := by
  unfold maxLen at hcm
  obtain ⟨σ1, H1⟩ : ∃ σ1, Hid (St.sgn s ⟨0, 0, false⟩ = σ1) := ⟨_, Lib.hid rfl⟩
  have a1 : σ1.at_ ≤ s.size := by have := St.sgn_le (s := s) (σ := ⟨0, 0, false⟩) (Nat.zero_le _); rw [H1.out] at this; exact this
  obtain ⟨r2, σ2, H2⟩ := named (St.numInt s σ1)
  have a2 : σ2.at_ ≤ s.size := by have := St.numInt_le (s := s) a1; rw [H2.out] at this; exact this
  obtain ⟨r3, σ3, H3⟩ := named (St.numFrac s σ2)
  have a3 : σ3.at_ ≤ s.size := by have := St.numFrac_le (s := s) a2; rw [H3.out] at this; exact this
  obtain ⟨r4, σ4, H4⟩ := named (St.numExp s σ3)
  have E0 : Hid (nhP s = if r2 then (if r3 then (r4, σ4) else (false, σ3)) else (false, σ2)) := Lib.hid (by
    unfold nhP St.number; rw [H1.out, H2.out]; unfold St.andThen; cases r2
    · rfl
    · simp only [if_true]; rw [H3.out]; cases r3
      · rfl
      · simp only [if_true]; exact H4.out)
  obtain ⟨hg, pe, he⟩ := hU
  go_enter Tryd.func34, Tryd.ntmps34
  go_wp2_with fail
  go_step3
  go_wp2_with fail
  go_step3
  go_upto_region 18 with fail
  obtain ⟨B1, HB1⟩ : ∃ B1, Hid (decide (bAt s 0 = 45) = B1) := ⟨_, Lib.hid rfl⟩
  go_cut [68] from 9 (fun v wx => v = .bool B1 ∧ wx = w)
  case first =>
    as_aux_lemma =>
      by_cases h0 : 0 < s.size
      · obtain ⟨X, hX⟩ : ∃ X, bAt s 0 = X := ⟨_, rfl⟩
        have hc := cellY hS h0 X hX
        have e : (X == 45) = B1 := by rw [← HB1.out, hX, Bool.eq_iff_iff]; simp
        clear hX
        go_wp2_with fail
        go_meet
        exact ⟨rfl, rfl⟩
      · have e : B1 = false := by rw [← HB1.out, bAt_ge h0]; rfl
        subst e
        go_wp2_with fail
        go_meet
        exact ⟨rfl, rfl⟩
  case rest =>
  obtain ⟨rfl, rfl⟩ := hcut
  go_upto_if 68 with fail
  go_cut [6] from 9 (fun v wx => v = .int .i64 (σ1.at_ : Int) ∧ wx = wc)
  case first =>
    as_aux_lemma =>
      have E : Hid (σ1.at_ = if B1 then 1 else 0) := Lib.hid (by rw [← H1.out, ← HB1.out]; unfold St.sgn; by_cases k : bAt s 0 = 45 <;> simp [k, St.at1])
      cases B1
      · go_wp2_with fail
        go_meet
        exact ⟨by rw [E.out]; first | done | rfl, rfl⟩
      · go_wp2_with fail
        go_meet
        exact ⟨by rw [E.out]; first | done | rfl, rfl⟩
  case rest =>
  obtain ⟨rfl, rfl⟩ := hcut
  obtain ⟨k1, hk1⟩ : ∃ k1, σ1.at_ = k1 := ⟨_, rfl⟩
  rw [hk1] at a1 ⊢
  go_upto_block 4 with fail
  go_cut [2, 6] from 9 (fun c v wx => (∃ x : Int, c = .int .u64 x) ∧ r2 = true ∧ v = .int .i64 (σ2.at_ : Int) ∧ wx = wc)
  case first =>
    by_cases hlt : k1 < s.size
    · obtain ⟨X, hX⟩ : ∃ X, bAt s k1 = X := ⟨_, rfl⟩
      have hc := cellY hS hlt X hX
      have hni : X = 48 → (true, σ1.at1) = (r2, σ2) := fun hx => by rw [← H2.out]; unfold St.numInt; rw [hk1, hX, if_pos hx]
      by_cases h48 : X = 48
      · as_aux_lemma =>
          have E := Lib.hid (hni h48)
          subst h48
          clear hX hni
          go_wp2_with fail
          go_meet
          obtain ⟨e1, e2⟩ := Prod.mk.inj E.out
          exact ⟨⟨_, rfl⟩, e1.symm, by rw [← e2]; simp [St.at1, hk1], rfl⟩
      · have h48b : (X == 48) = false := by simpa using h48
        have hnd : St.digits s σ1 = (r2, σ2) := by rw [← H2.out]; unfold St.numInt; rw [hk1, hX, if_neg h48]
        by_cases hd : dgB X = true
        · have hd2 := (dgB_iff X).1 hd
          have h49 : 49 ≤ X := by omega
          have h57 : X ≤ 57 := hd2.2
          have E := Lib.hid ((St.digits_yes (s := s) (σ := σ1) (by rw [hk1]; exact hlt) (by rw [hk1, hX]; exact hd)).symm.trans hnd)
          rw [hk1] at E
          clear hX hni hnd hd hd2 h48
          obtain ⟨D, HD⟩ : ∃ D, Hid (dgE s (s.size - (k1 + 1)) (k1 + 1) = D) := ⟨_, Lib.hid rfl⟩
          have A0 : Aside (dgE s (s.size - (k1 + 1)) (k1 + 1) = D) := HD.out
          have E2 : Hid (r2 = true ∧ σ2.at_ = D) := Lib.hid (by obtain ⟨e1, e2⟩ := Prod.mk.inj E.out; exact ⟨e1.symm, by rw [← e2]; exact HD.out⟩)
          clear HD E
          go_upto_block 5 with fail
          go_cut [6] from 9 (fun v wx => v = .int .i64 (D : Int) ∧ wx = wc)
          case first =>
            go_wp2_with fail
            go_loopg [6] (s.size - (k1 + 1)) (fun g v wr => ∃ k : Nat, v = .int .i64 k ∧ wr = wc ∧ k ≤ s.size ∧ s.size - k ≤ g ∧ Aside (dgE s (s.size - k) k = D))
            case atStart => exact ⟨(k1 + 1), by go_num, rfl, by omega, by omega, A0⟩
            case round =>
              obtain ⟨k, rfl, rfl, hk, hg', A⟩ := hrel
              by_cases hl : k < s.size
              · obtain ⟨Y, hY⟩ : ∃ Y, bAt s k = Y := ⟨_, rfl⟩
                have hcy := cellY hS hl Y hY
                by_cases hdy : dgB Y = true
                · as_aux_lemma =>
                    have A' := dg_next A hl (by rw [hY]; exact hdy)
                    have hdy2 := (dgB_iff Y).1 hdy
                    have y1 : 48 ≤ Y := hdy2.1
                    have y2 : Y ≤ 57 := hdy2.2
                    clear hY A hdy hdy2
                    go_wp2_with fail
                    go_roundg (gk - 1)
                    case measure => omega
                    case rel => exact ⟨k + 1, by go_num, rfl, by omega, by omega, A'⟩
                · have Ek := Lib.hid (dg_end A (fun h => hdy (by rw [← hY]; exact h.2)))
                  have hn := mt (dgB_iff Y).2 hdy
                  clear hY A hdy
                  by_cases y1 : 48 ≤ Y
                  · as_aux_lemma =>
                      have y2 : 57 < Y := by omega
                      clear hn
                      go_wp2_with fail
                      go_meet
                      exact ⟨by rw [Ek.out]; first | done | rfl, rfl⟩
                  · as_aux_lemma =>
                      clear hn
                      go_wp2_with fail
                      go_meet
                      exact ⟨by rw [Ek.out]; first | done | rfl, rfl⟩
              · as_aux_lemma =>
                  have Ek := Lib.hid (dg_end A (fun h => hl h.1))
                  clear A
                  go_wp2_with fail
                  go_meet
                  exact ⟨by rw [Ek.out]; first | done | rfl, rfl⟩
          case rest =>
            as_aux_lemma =>
              obtain ⟨rfl, rfl⟩ := hcut
              go_wp2_with fail
              go_meet
              exact ⟨⟨_, rfl⟩, E2.out.1, by rw [E2.out.2]; first | done | rfl, rfl⟩
        · as_aux_lemma =>
            have E := Lib.hid ((St.digits_no (s := s) (σ := σ1) (fun h => hd (by have := h.2; rw [hk1, hX] at this; exact this))).symm.trans hnd)
            have hn := mt (dgB_iff X).2 hd
            clear hX hni hnd hd
            have fin : r2 = false ∧ σ2.at_ < s.size := by obtain ⟨e1, e2⟩ := Prod.mk.inj E.out; exact ⟨e1.symm, by rw [← e2, St.fail_at, hk1]; exact hlt⟩
            obtain ⟨rfl, ha2⟩ := fin
            by_cases h49 : 49 ≤ X
            · have h57 : 57 < X := by omega
              clear hn
              go_wp2_with (go_at_call 50; refine (badChar_any s k1 _ b _ _ _ rfl hlt (by unfold maxLen; omega) (by omega) hT.1 hS).mono ?_; rintro e w1 ⟨p, rfl, hb1⟩)
              (try rw [Exit.noGoto_ret])
              all_goals go_ret3
              rw [E0.out]
              exact cnBad ha2 hb1
            · clear hn
              go_wp2_with (go_at_call 50; refine (badChar_any s k1 _ b _ _ _ rfl hlt (by unfold maxLen; omega) (by omega) hT.1 hS).mono ?_; rintro e w1 ⟨p, rfl, hb1⟩)
              (try rw [Exit.noGoto_ret])
              all_goals go_ret3
              rw [E0.out]
              exact cnBad ha2 hb1
    · as_aux_lemma =>
        have hnd : St.digits s σ1 = (r2, σ2) := by rw [← H2.out]; unfold St.numInt; rw [hk1, bAt_ge hlt, if_neg (by omega)]
        have E := Lib.hid ((St.digits_no (s := s) (σ := σ1) (fun h => hlt (by have := h.1; rw [hk1] at this; exact this))).symm.trans hnd)
        have fin : r2 = false ∧ σ2.at_ = s.size := by obtain ⟨e1, e2⟩ := Prod.mk.inj E.out; exact ⟨e1.symm, by rw [← e2, St.fail_at, hk1]; omega⟩
        obtain ⟨rfl, ha2⟩ := fin
        clear hnd
        go_wp2_with fail
        go_quiet (fail)
        go_wp2_with fail
        (try rw [Exit.noGoto_ret])
        all_goals go_ret3
        rw [E0.out]
        exact cnEof ha2 he (bdN (Below.refl _ _) _)
  case rest =>
  as_aux_lemma =>
    obtain ⟨⟨x2, rfl⟩, rfl, rfl, rfl⟩ := hcut
    clear hk1 k1 a1
    go_wp2_with fail
    go_step3
    go_upto_region 31 with fail
    obtain ⟨k2, hk2⟩ : ∃ k2, σ2.at_ = k2 := ⟨_, rfl⟩
    rw [hk2] at a2 ⊢
    obtain ⟨B2, HB2⟩ : ∃ B2, Hid (decide (bAt s k2 = 46) = B2) := ⟨_, Lib.hid rfl⟩
    go_cut [143] from 9 (fun v wx => v = .bool B2 ∧ wx = wc)
    case first =>
      as_aux_lemma =>
        by_cases h0 : k2 < s.size
        · obtain ⟨X, hX⟩ : ∃ X, bAt s k2 = X := ⟨_, rfl⟩
          have hc := cellY hS h0 X hX
          have e : (X == 46) = B2 := by rw [← HB2.out, hX, Bool.eq_iff_iff]; simp
          clear hX
          go_wp2_with fail
          go_meet
          exact ⟨rfl, rfl⟩
        · have e : B2 = false := by rw [← HB2.out, bAt_ge h0]; rfl
          subst e
          go_wp2_with fail
          go_meet
          exact ⟨rfl, rfl⟩
    case rest =>
    obtain ⟨rfl, rfl⟩ := hcut
    go_upto_if 143 with fail
    go_cut [1, 2, 6] from 9 (fun c1 c v wx => (∃ y : Int, c1 = .int .i64 y) ∧ (∃ x : Int, c = .int .u64 x) ∧ r3 = true ∧ v = .int .i64 (σ3.at_ : Int) ∧ wx = wc)
    case first =>
      cases B2
      · as_aux_lemma =>
          have E : Hid ((true, σ2) = (r3, σ3)) := Lib.hid (by rw [← H3.out]; unfold St.numFrac; rw [hk2, if_neg (of_decide_eq_false HB2.out)])
          go_wp2_with fail
          go_meet
          obtain ⟨e1, e2⟩ := Prod.mk.inj E.out
          exact ⟨⟨_, rfl⟩, ⟨_, rfl⟩, e1.symm, by rw [← e2, hk2], rfl⟩
      · have k46 := of_decide_eq_true HB2.out
        have hlt0 : k2 < s.size := by have := St.byte_in (s := s) (σ := σ2) (by rw [hk2]; omega); omega
        have hnd : St.digits s σ2.at1 = (r3, σ3) := by rw [← H3.out]; unfold St.numFrac; rw [hk2, if_pos k46]
        have hat : σ2.at1.at_ = k2 + 1 := by simp [St.at1, hk2]
        clear k46
        by_cases hlt : (k2 + 1) < s.size
        · obtain ⟨X, hX⟩ : ∃ X, bAt s (k2 + 1) = X := ⟨_, rfl⟩
          have hc := cellY hS hlt X hX
          by_cases hd : dgB X = true
          · have hd2 := (dgB_iff X).1 hd
            have h48 : 48 ≤ X := hd2.1
            have h57 : X ≤ 57 := hd2.2
            have E := Lib.hid ((St.digits_yes (s := s) (σ := σ2.at1) (by rw [hat]; exact hlt) (by rw [hat, hX]; exact hd)).symm.trans hnd)
            rw [hat] at E
            obtain ⟨D, HD⟩ : ∃ D, Hid (dgE s (s.size - ((k2 + 1) + 1)) ((k2 + 1) + 1) = D) := ⟨_, Lib.hid rfl⟩
            have A0 : Aside (dgE s (s.size - ((k2 + 1) + 1)) ((k2 + 1) + 1) = D) := HD.out
            have E2 : Hid (r3 = true ∧ σ3.at_ = D) := Lib.hid (by obtain ⟨e1, e2⟩ := Prod.mk.inj E.out; exact ⟨e1.symm, by rw [← e2]; exact HD.out⟩)
            clear hX hnd hd hd2 HD E
            go_upto_block 8 with fail
            go_wp2_with fail
            go_loopg [6] (s.size - ((k2 + 1) + 1)) (fun g v wr => ∃ k : Nat, v = .int .i64 k ∧ wr = wc ∧ k ≤ s.size ∧ s.size - k ≤ g ∧ Aside (dgE s (s.size - k) k = D))
            case atStart => exact ⟨((k2 + 1) + 1), by go_num, rfl, by omega, by omega, A0⟩
            case round =>
              obtain ⟨k, rfl, rfl, hk, hg', A⟩ := hrel
              by_cases hl : k < s.size
              · obtain ⟨Y, hY⟩ : ∃ Y, bAt s k = Y := ⟨_, rfl⟩
                have hcy := cellY hS hl Y hY
                by_cases hdy : dgB Y = true
                · as_aux_lemma =>
                    have A' := dg_next A hl (by rw [hY]; exact hdy)
                    have hdy2 := (dgB_iff Y).1 hdy
                    have y1 : 48 ≤ Y := hdy2.1
                    have y2 : Y ≤ 57 := hdy2.2
                    clear hY A hdy hdy2
                    go_wp2_with fail
                    go_roundg (gk - 1)
                    case measure => omega
                    case rel => exact ⟨k + 1, by go_num, rfl, by omega, by omega, A'⟩
                · have Ek := Lib.hid (dg_end A (fun h => hdy (by rw [← hY]; exact h.2)))
                  have hn := mt (dgB_iff Y).2 hdy
                  clear hY A hdy
                  by_cases y1 : 48 ≤ Y
                  · as_aux_lemma =>
                      have y2 : 57 < Y := by omega
                      clear hn
                      go_wp2_with fail
                      go_meet
                      exact ⟨⟨_, rfl⟩, ⟨_, rfl⟩, E2.out.1, by rw [E2.out.2, Ek.out]; first | done | rfl, rfl⟩
                  · as_aux_lemma =>
                      clear hn
                      go_wp2_with fail
                      go_meet
                      exact ⟨⟨_, rfl⟩, ⟨_, rfl⟩, E2.out.1, by rw [E2.out.2, Ek.out]; first | done | rfl, rfl⟩
              · as_aux_lemma =>
                  have Ek := Lib.hid (dg_end A (fun h => hl h.1))
                  clear A
                  go_wp2_with fail
                  go_meet
                  exact ⟨⟨_, rfl⟩, ⟨_, rfl⟩, E2.out.1, by rw [E2.out.2, Ek.out]; first | done | rfl, rfl⟩
          · as_aux_lemma =>
              have E := Lib.hid ((St.digits_no (s := s) (σ := σ2.at1) (fun h => hd (by have := h.2; rw [hat, hX] at this; exact this))).symm.trans hnd)
              have hn := mt (dgB_iff X).2 hd
              clear hX hnd hd
              have fin : r3 = false ∧ σ3.at_ < s.size := by obtain ⟨e1, e2⟩ := Prod.mk.inj E.out; exact ⟨e1.symm, by rw [← e2, St.fail_at, hat]; exact hlt⟩
              obtain ⟨rfl, ha2⟩ := fin
              by_cases h48 : 48 ≤ X
              · have h57 : 57 < X := by omega
                clear hn
                go_wp2_with (go_at_call 50; refine (badChar_any s (k2 + 1) _ b _ _ _ rfl hlt (by unfold maxLen; omega) (by omega) hT.1 hS).mono ?_; rintro e w1 ⟨p, rfl, hb1⟩)
                (try rw [Exit.noGoto_ret])
                all_goals go_ret3
                rw [E0.out]
                exact cnBad ha2 hb1
              · clear hn
                go_wp2_with (go_at_call 50; refine (badChar_any s (k2 + 1) _ b _ _ _ rfl hlt (by unfold maxLen; omega) (by omega) hT.1 hS).mono ?_; rintro e w1 ⟨p, rfl, hb1⟩)
                (try rw [Exit.noGoto_ret])
                all_goals go_ret3
                rw [E0.out]
                exact cnBad ha2 hb1
        · as_aux_lemma =>
            have E := Lib.hid ((St.digits_no (s := s) (σ := σ2.at1) (fun h => hlt (by have := h.1; rw [hat] at this; exact this))).symm.trans hnd)
            have fin : r3 = false ∧ σ3.at_ = s.size := by obtain ⟨e1, e2⟩ := Prod.mk.inj E.out; exact ⟨e1.symm, by rw [← e2, St.fail_at, hat]; omega⟩
            obtain ⟨rfl, ha2⟩ := fin
            clear hnd
            go_wp2_with fail
            go_quiet (fail)
            go_wp2_with fail
            (try rw [Exit.noGoto_ret])
            all_goals go_ret3
            rw [E0.out]
            exact cnEof ha2 he (bdN (Below.refl _ _) _)
    case rest =>
    as_aux_lemma =>
      obtain ⟨⟨y2, rfl⟩, ⟨x3, rfl⟩, rfl, rfl, rfl⟩ := hcut
      clear hk2 k2 a2 HB2 B2
      go_wp2_with fail
      go_step3
      go_upto_region 42 with fail
      obtain ⟨k3, hk3⟩ : ∃ k3, σ3.at_ = k3 := ⟨_, rfl⟩
      rw [hk3] at a3 ⊢
      obtain ⟨B3, HB3⟩ : ∃ B3, Hid (decide (bAt s k3 = 101 ∨ bAt s k3 = 69) = B3) := ⟨_, Lib.hid rfl⟩
      go_cut [218] from 9 (fun v wx => v = .bool B3 ∧ wx = wc)
      case first =>
        as_aux_lemma =>
          by_cases h0 : k3 < s.size
          · obtain ⟨X, hX⟩ : ∃ X, bAt s k3 = X := ⟨_, rfl⟩
            have hc := cellY hS h0 X hX
            have e0 : decide (X = 101 ∨ X = 69) = B3 := by rw [← HB3.out, hX]
            clear hX
            by_cases x1 : X = 101
            · have e1 : (X == 101) = true := by simpa using x1
              have e : B3 = true := by rw [← e0]; exact decide_eq_true (.inl x1)
              subst e
              clear x1 e0
              go_wp2_with fail
              go_meet
              exact ⟨rfl, rfl⟩
            · have e1 : (X == 101) = false := by simpa using x1
              by_cases x2 : X = 69
              · have e2 : (X == 69) = true := by simpa using x2
                have e : B3 = true := by rw [← e0]; exact decide_eq_true (.inr x2)
                subst e
                clear x1 x2 e0
                go_wp2_with fail
                go_meet
                exact ⟨rfl, rfl⟩
              · have e2 : (X == 69) = false := by simpa using x2
                have e : B3 = false := by rw [← e0]; exact decide_eq_false (fun h => h.elim x1 x2)
                subst e
                clear x1 x2 e0
                go_wp2_with fail
                go_meet
                exact ⟨rfl, rfl⟩
          · have e : B3 = false := by rw [← HB3.out, bAt_ge h0]; rfl
            subst e
            go_wp2_with fail
            go_meet
            exact ⟨rfl, rfl⟩
      case rest =>
      obtain ⟨rfl, rfl⟩ := hcut
      cases B3
      · as_aux_lemma =>
          have E : Hid ((true, σ3) = (r4, σ4)) := Lib.hid (by rw [← H4.out]; unfold St.numExp; rw [hk3, if_neg (of_decide_eq_false HB3.out)])
          go_wp2_with fail
          (try rw [Exit.noGoto_ret])
          all_goals go_ret3
          rw [E0.out]
          rw [← E.out]
          exact cnOk hk3 (Below.refl _ _)
      · have k0 := of_decide_eq_true HB3.out
        have hlt0 : k3 < s.size := by have := St.byte_in (s := s) (σ := σ3) (by rw [hk3]; omega); omega
        obtain ⟨σ5, H5⟩ : ∃ σ5, Hid (St.sgn2 s σ3.at1 = σ5) := ⟨_, Lib.hid rfl⟩
        have hnd : St.digits s σ5 = (r4, σ4) := by rw [← H4.out, ← H5.out]; unfold St.numExp; rw [hk3, if_pos k0]
        have hat3 : σ3.at1.at_ = k3 + 1 := by simp [St.at1, hk3]
        have a5 : σ5.at_ ≤ s.size := by have := St.sgn2_le (s := s) (σ := σ3.at1) (by rw [hat3]; omega); rw [H5.out] at this; exact this
        clear k0
        go_upto_region 45 with fail
        obtain ⟨B4, HB4⟩ : ∃ B4, Hid (decide (bAt s (k3 + 1) = 45 ∨ bAt s (k3 + 1) = 43) = B4) := ⟨_, Lib.hid rfl⟩
        go_cut [241] from 9 (fun v wx => v = .bool B4 ∧ wx = wc)
        case first =>
          as_aux_lemma =>
            by_cases h0 : (k3 + 1) < s.size
            · obtain ⟨X, hX⟩ : ∃ X, bAt s (k3 + 1) = X := ⟨_, rfl⟩
              have hc := cellY hS h0 X hX
              have e0 : decide (X = 45 ∨ X = 43) = B4 := by rw [← HB4.out, hX]
              clear hX
              by_cases x1 : X = 45
              · have e1 : (X == 45) = true := by simpa using x1
                have e : B4 = true := by rw [← e0]; exact decide_eq_true (.inl x1)
                subst e
                clear x1 e0
                go_wp2_with fail
                go_meet
                exact ⟨rfl, rfl⟩
              · have e1 : (X == 45) = false := by simpa using x1
                by_cases x2 : X = 43
                · have e2 : (X == 43) = true := by simpa using x2
                  have e : B4 = true := by rw [← e0]; exact decide_eq_true (.inr x2)
                  subst e
                  clear x1 x2 e0
                  go_wp2_with fail
                  go_meet
                  exact ⟨rfl, rfl⟩
                · have e2 : (X == 43) = false := by simpa using x2
                  have e : B4 = false := by rw [← e0]; exact decide_eq_false (fun h => h.elim x1 x2)
                  subst e
                  clear x1 x2 e0
                  go_wp2_with fail
                  go_meet
                  exact ⟨rfl, rfl⟩
            · have e : B4 = false := by rw [← HB4.out, bAt_ge h0]; rfl
              subst e
              go_wp2_with fail
              go_meet
              exact ⟨rfl, rfl⟩
        case rest =>
        obtain ⟨rfl, rfl⟩ := hcut
        go_upto_if 241 with fail
        go_cut [6] from 9 (fun v wx => v = .int .i64 (σ5.at_ : Int) ∧ wx = wc)
        case first =>
          as_aux_lemma =>
            have E : Hid (σ5.at_ = if B4 then k3 + 1 + 1 else k3 + 1) := Lib.hid (by
              rw [← H5.out, ← HB4.out]; unfold St.sgn2; rw [hat3]
              by_cases k : bAt s (k3 + 1) = 43 ∨ bAt s (k3 + 1) = 45
              · rw [if_pos k, if_pos (decide_eq_true (by omega))]; simp [St.at1, hk3]
              · rw [if_neg k, if_neg (by simp; omega)]; exact hat3)
            cases B4
            · go_wp2_with fail
              go_meet
              exact ⟨by rw [E.out]; first | done | rfl, rfl⟩
            · go_wp2_with fail
              go_meet
              exact ⟨by rw [E.out]; first | done | rfl | (simp; omega), rfl⟩
        case rest =>
        obtain ⟨rfl, rfl⟩ := hcut
        clear hat3 HB4 B4 hlt0
        obtain ⟨k5, hat⟩ : ∃ k5, σ5.at_ = k5 := ⟨_, rfl⟩
        rw [hat] at a5 ⊢
        by_cases hlt : k5 < s.size
        · obtain ⟨X, hX⟩ : ∃ X, bAt s k5 = X := ⟨_, rfl⟩
          have hc := cellY hS hlt X hX
          by_cases hd : dgB X = true
          · have hd2 := (dgB_iff X).1 hd
            have h48 : 48 ≤ X := hd2.1
            have h57 : X ≤ 57 := hd2.2
            have E := Lib.hid ((St.digits_yes (s := s) (σ := σ5) (by rw [hat]; exact hlt) (by rw [hat, hX]; exact hd)).symm.trans hnd)
            rw [hat] at E
            obtain ⟨D, HD⟩ : ∃ D, Hid (dgE s (s.size - (k5 + 1)) (k5 + 1) = D) := ⟨_, Lib.hid rfl⟩
            have A0 : Aside (dgE s (s.size - (k5 + 1)) (k5 + 1) = D) := HD.out
            have E2 : Hid (r4 = true ∧ σ4.at_ = D) := Lib.hid (by obtain ⟨e1, e2⟩ := Prod.mk.inj E.out; exact ⟨e1.symm, by rw [← e2]; exact HD.out⟩)
            clear hX hnd hd hd2 HD E
            go_upto_block 11 with fail
            go_wp2_with fail
            go_loopg [6] (s.size - (k5 + 1)) (fun g v wr => ∃ k : Nat, v = .int .i64 k ∧ wr = wc ∧ k ≤ s.size ∧ s.size - k ≤ g ∧ Aside (dgE s (s.size - k) k = D))
            case atStart => exact ⟨(k5 + 1), by go_num, rfl, by omega, by omega, A0⟩
            case round =>
              obtain ⟨k, rfl, rfl, hk, hg', A⟩ := hrel
              by_cases hl : k < s.size
              · obtain ⟨Y, hY⟩ : ∃ Y, bAt s k = Y := ⟨_, rfl⟩
                have hcy := cellY hS hl Y hY
                by_cases hdy : dgB Y = true
                · as_aux_lemma =>
                    have A' := dg_next A hl (by rw [hY]; exact hdy)
                    have hdy2 := (dgB_iff Y).1 hdy
                    have y1 : 48 ≤ Y := hdy2.1
                    have y2 : Y ≤ 57 := hdy2.2
                    clear hY A hdy hdy2
                    go_wp2_with fail
                    go_roundg (gk - 1)
                    case measure => omega
                    case rel => exact ⟨k + 1, by go_num, rfl, by omega, by omega, A'⟩
                · have Ek := Lib.hid (dg_end A (fun h => hdy (by rw [← hY]; exact h.2)))
                  have hn := mt (dgB_iff Y).2 hdy
                  clear hY A hdy
                  by_cases y1 : 48 ≤ Y
                  · as_aux_lemma =>
                      have y2 : 57 < Y := by omega
                      clear hn
                      go_wp2_with fail
                      (try rw [Exit.noGoto_ret])
                      all_goals go_ret3
                      rw [E0.out]
                      obtain ⟨er4, ea4⟩ := E2.out
                      rw [er4]
                      exact cnOk (ea4.trans Ek.out.symm) (Below.refl _ _)
                  · as_aux_lemma =>
                      clear hn
                      go_wp2_with fail
                      (try rw [Exit.noGoto_ret])
                      all_goals go_ret3
                      rw [E0.out]
                      obtain ⟨er4, ea4⟩ := E2.out
                      rw [er4]
                      exact cnOk (ea4.trans Ek.out.symm) (Below.refl _ _)
              · as_aux_lemma =>
                  have Ek := Lib.hid (dg_end A (fun h => hl h.1))
                  clear A
                  go_wp2_with fail
                  (try rw [Exit.noGoto_ret])
                  all_goals go_ret3
                  rw [E0.out]
                  obtain ⟨er4, ea4⟩ := E2.out
                  rw [er4]
                  exact cnOk (ea4.trans Ek.out.symm) (Below.refl _ _)
          · as_aux_lemma =>
              have E := Lib.hid ((St.digits_no (s := s) (σ := σ5) (fun h => hd (by have := h.2; rw [hat, hX] at this; exact this))).symm.trans hnd)
              have hn := mt (dgB_iff X).2 hd
              clear hX hnd hd
              have fin : r4 = false ∧ σ4.at_ < s.size := by obtain ⟨e1, e2⟩ := Prod.mk.inj E.out; exact ⟨e1.symm, by rw [← e2, St.fail_at, hat]; exact hlt⟩
              obtain ⟨rfl, ha2⟩ := fin
              by_cases h48 : 48 ≤ X
              · have h57 : 57 < X := by omega
                clear hn
                go_wp2_with (go_at_call 50; refine (badChar_any s k5 _ b _ _ _ rfl hlt (by unfold maxLen; omega) (by omega) hT.1 hS).mono ?_; rintro e w1 ⟨p, rfl, hb1⟩)
                (try rw [Exit.noGoto_ret])
                all_goals go_ret3
                rw [E0.out]
                exact cnBad ha2 hb1
              · clear hn
                go_wp2_with (go_at_call 50; refine (badChar_any s k5 _ b _ _ _ rfl hlt (by unfold maxLen; omega) (by omega) hT.1 hS).mono ?_; rintro e w1 ⟨p, rfl, hb1⟩)
                (try rw [Exit.noGoto_ret])
                all_goals go_ret3
                rw [E0.out]
                exact cnBad ha2 hb1
        · as_aux_lemma =>
            have E := Lib.hid ((St.digits_no (s := s) (σ := σ5) (fun h => hlt (by have := h.1; rw [hat] at this; exact this))).symm.trans hnd)
            have fin : r4 = false ∧ σ4.at_ = s.size := by obtain ⟨e1, e2⟩ := Prod.mk.inj E.out; exact ⟨e1.symm, by rw [← e2, St.fail_at, hat]; omega⟩
            obtain ⟨rfl, ha2⟩ := fin
            clear hnd
            go_wp2_with fail
            go_quiet (fail)
            go_wp2_with fail
            (try rw [Exit.noGoto_ret])
            all_goals go_ret3
            rw [E0.out]
            exact cnEof ha2 he (bdN (Below.refl _ _) _)
end Go.Proofs.YtokhmhbjbclcoaaDoor
