/- Which of two texts stands first, by the reference: the walk. -/
import Derived.Test.YtbnnjjilkpdanaaDoorUn
import Derived.Deep.Quiet
namespace Go.Proofs.YtbnnjjilkpdanaaDoor
open Go.RowKit
set_option linter.unusedVariables false

theorem bdN' {B : Nat} {w a : World} (h : Below B w a) (n : Nat) : Below B w (a.drewN n) := h.trans ⟨rfl, rfl, rfl, Nat.le_refl _, fun _ _ => rfl⟩
/-- How such a slice is written, and what its cells hold. -/
theorem ins_form {w : World} {B : Nat} {v : Value} {l : List Int} (h : Ins w B v l) : ∃ ao cap, v = .slice ao l.length cap ∧ (∀ i x, l[i]? = some x → ∃ g, ao = some ⟨g, 0, none⟩ ∧ w.cell? ⟨g, i, none⟩ = some (.int .i64 x)) := by
  have h' := h
  obtain ⟨hl, h2⟩ := h
  rcases h2 with ⟨rfl, h0⟩ | ⟨g, cap, cur, rfl, hB, hg, hn, hcm, hcs, htk⟩
  · refine ⟨none, 0, by rw [h0], fun i x hx => ?_⟩
    have : l = [] := List.eq_nil_of_length_eq_zero h0
    subst this
    cases hx
  · refine ⟨_, cap, rfl, fun i x hx => ⟨g, rfl, ?_⟩⟩
    have hi : i < l.length := by
      by_cases h : i < l.length
      · exact h
      · rw [List.getElem?_eq_none (by omega)] at hx; cases hx
    rw [World.ownsRow.cellAt h' i (by omega)]
    unfold iv
    rw [List.getElem?_map, hx]
    rfl

theorem lex_step {x y : List Int} {i : Nat} {R : Bool} {a b : Int} (A : Aside (lexB (x.drop i) (y.drop i) = R)) (hx : x[i]? = some a) (hy : y[i]? = some b) :
    (a = b → Aside (lexB (x.drop (i + 1)) (y.drop (i + 1)) = R)) ∧ (a ≠ b → decide (a < b) = R) := by
  have A' : lexB (x.drop i) (y.drop i) = R := A
  obtain ⟨h1, e1⟩ := List.getElem?_eq_some_iff.1 hx
  obtain ⟨h2, e2⟩ := List.getElem?_eq_some_iff.1 hy
  rw [List.drop_eq_getElem_cons h1, List.drop_eq_getElem_cons h2, e1, e2] at A'
  refine ⟨fun e => ?_, fun e => ?_⟩
  · subst e; rw [lexB_same] at A'; exact A'
  · rw [lexB_ne e] at A'; exact A'
theorem lex_end {x y : List Int} {i : Nat} {R : Bool} (A : Aside (lexB (x.drop i) (y.drop i) = R)) (hx : i ≤ x.length) (hy : i ≤ y.length) (h : ¬ (i < x.length ∧ i < y.length)) : decide (x.length < y.length) = R := by
  have A' : lexB (x.drop i) (y.drop i) = R := A
  by_cases h1 : i = y.length
  · subst h1
    rw [List.drop_length, lexB_nil] at A'
    rw [← A']
    simp; omega
  · have h2 : i = x.length := by omega
    subst h2
    rw [List.drop_length, List.drop_eq_getElem_cons (by omega)] at A'
    rw [← A', lexB]
    simp; omega

set_option maxRecDepth 100000 in
set_option maxHeartbeats 4000000 in
theorem before_any (a b : ByteArray) (w : World) (ha : a.size ≤ 1000000) (hb : b.size ≤ 1000000) (ta : textF a a.size 0 = true) (tb : textF b b.size 0 = true) :
    Calls Tryd.prog 18 #[.string a, .string b] w fun e w' => e = .returned (.bool (lexB (unitsL a a.size 0) (unitsL b b.size 0))) ∧ Below w.heap.size w w' := by
  obtain ⟨R, HR⟩ : ∃ R, Hid (lexB (unitsL a a.size 0) (unitsL b b.size 0) = R) := ⟨_, Lib.hid rfl⟩
  rw [HR.out]
  have A0 : Aside (lexB ((unitsL a a.size 0).drop 0) ((unitsL b b.size 0).drop 0) = R) := HR.out
  have UA := units_any a w (by omega) ta
  have UB := fun w => units_any b w (by omega) tb
  have la := units_len a a.size 0
  have lb := units_len b b.size 0
  generalize unitsL a a.size 0 = x at *
  generalize unitsL b b.size 0 = y at *
  go_enter Tryd.func18, Tryd.ntmps18
  go_wp2_with fail
  refine UA.mono ?_
  rintro e w1 ⟨v1, rfl, O1, b1⟩
  go_wp2_with fail
  refine (UB _).mono ?_
  rintro e w2 ⟨v2, rfl, O2, b2⟩
  have O1' := own_kept O1 b2
  have bel := bw' b1 b2
  obtain ⟨ao, ca, rfl, hac⟩ := ins_form O1'
  obtain ⟨bo, cb, rfl, hbc⟩ := ins_form O2
  clear O1 O1' O2 b1 b2 UA UB
  obtain ⟨p, hp⟩ : ∃ p, x.length = p := ⟨_, rfl⟩
  obtain ⟨q, hq⟩ : ∃ q, y.length = q := ⟨_, rfl⟩
  rw [hp, hq]
  have hmin : min (p : Int) (q : Int) = ((min p q : Nat) : Int) := by omega
  obtain ⟨m, hm⟩ : ∃ m, min p q = m := ⟨_, rfl⟩
  rw [hm] at hmin
  go_wp2_with fail
  go_loopg [17] m (fun g i wr => ∃ k : Nat, i = .int .i64 k ∧ k ≤ m ∧ m - k ≤ g ∧ wr.heap = w2.heap ∧ Below w.heap.size w wr ∧ Aside (lexB (x.drop k) (y.drop k) = R))
  case atStart => exact ⟨0, rfl, by omega, by omega, rfl, bel, A0⟩
  case round =>
    clear A0
    obtain ⟨k, rfl, hkm, hg, hh, hbr, A⟩ := hrel
    by_cases hk : k < m
    · have hx1 : k < x.length := by omega
      have hy1 : k < y.length := by omega
      obtain ⟨g1, rfl, hc1⟩ := hac k _ (List.getElem?_eq_getElem hx1)
      obtain ⟨g2, rfl, hc2⟩ := hbc k _ (List.getElem?_eq_getElem hy1)
      have S := lex_step A (List.getElem?_eq_getElem hx1) (List.getElem?_eq_getElem hy1)
      generalize x[k] = X at *
      generalize y[k] = Y at *
      have hkm' : (k : Int) < (m : Int) := by omega
      have hkp : (k : Int) < (p : Int) := by omega
      have hkq : (k : Int) < (q : Int) := by omega
      have k1 : wr.cell? ⟨g1, k, none⟩ = some (.int .i64 X) := (World.cell?_of_block (a := ⟨g1, k, none⟩) (by rw [hh])).trans hc1
      have k2 : wr.cell? ⟨g2, k, none⟩ = some (.int .i64 Y) := (World.cell?_of_block (a := ⟨g2, k, none⟩) (by rw [hh])).trans hc2
      clear hac hbc hc1 hc2 A
      by_cases hXY : X = Y
      · have E := Lib.hid (S.1 hXY)
        have hne : (X != Y) = false := by simpa using hXY
        clear S hXY
        go_wp2_with fail
        go_quiet (fail)
        go_wp2_with fail
        all_goals go_roundg (gk - 1)
        all_goals first | (go_light; omega) | skip
        go_light
        exact ⟨k + 1, by go_num, by omega, by omega, hh, bdN' hbr _, E.out⟩
      · have E := Lib.hid (S.2 hXY)
        have hne : (X != Y) = true := by simpa using hXY
        clear S hXY
        go_wp2_with fail
        go_quiet (fail)
        go_wp2_with fail
        have k3 : (wr.drewN nq).cell? ⟨g1, k, none⟩ = some (.int .i64 X) := k1
        have k4 : (wr.drewN nq).cell? ⟨g2, k, none⟩ = some (.int .i64 Y) := k2
        have k5 : Below w.heap.size w (wr.drewN nq) := bdN' hbr nq
        generalize wr.drewN nq = wq at k3 k4 k5 ⊢
        go_quiet (fail)
        go_wp2_with fail
        all_goals go_ret
        exact ⟨by rw [← E.out]; first | done | rfl, bdN' k5 _⟩
    · have E := Lib.hid (lex_end A (by omega) (by omega) (by omega))
      rw [hp, hq] at E
      go_wp2_with fail
      go_ret
      exact ⟨by rw [← E.out]; first | done | rfl, hbr⟩
end Go.Proofs.YtbnnjjilkpdanaaDoor
