/- Reading a string: the walk of jsonwire.ConsumeStringResumable from a text's beginning. Lines by program (gencw.py). -/
import Derived.Test.YtokhmhbjbclcoaaDoorCj
import Derived.Test.YtokhmhbjbclcoaaDoorQw
import Derived.Deep.CutBlock
import Derived.Deep.RegionWith
import Derived.Deep.DeepCutAuto
namespace Go.Proofs.YtokhmhbjbclcoaaDoor
set_option linter.unusedVariables false
set_option linter.unusedSimpArgs false
open Go.RowKit

/-- How reading ends, as values. -/
def ErrK (w : World) (er : Value) (c : Nat) : Prop :=
  (c = 0 → er = .nilIface) ∧ (c = 1 → w.cell? ⟨0, 0, none⟩ = some er) ∧ (c = 2 → ∃ p, er = .iface 127 (.pointer (some p))) ∧
    (c = 3 → w.cell? ⟨1, 0, none⟩ = some er)
def CEnd (fb b : Nat) (s : ByteArray) (w0 : World) (T : Nat × Nat) (e : Ending) (w' : World) : Prop :=
  ∃ (n : Int) (er : Value), e = .returned (.tuple #[.int .i64 n, er]) ∧ KS fb b s w0 w' ∧ (T.2 = 0 → n = (T.1 : Nat)) ∧ ErrK w' er T.2
/-- What holds at the head of each round. -/
structure CRel (fb b : Nat) (s : ByteArray) (w0 : World) (strict : Bool) (T : Nat × Nat) (g k : Nat) (wr : World) : Prop where
  ks : k ≤ s.size
  st : KS fb b s w0 wr
  fuel : s.size - k ≤ g
  out : Aside (cO strict s g k = T)
theorem CRel.step {fb b s w0 strict T g k wr} (q : CRel fb b s w0 strict T g k wr) (hk : k < s.size) (h34 : bAt s k ≠ 34) {d : Nat} (hd : cS strict s k = (d, 0)) (hd0 : d ≠ 0) (hf : k + d ≤ s.size) {wr' : World} (hw : KS fb b s w0 wr') :
    g - 1 < g ∧ CRel fb b s w0 strict T (g - 1) (k + d) wr' := by
  have hg := q.fuel
  obtain ⟨g', rfl⟩ : ∃ g', g = g' + 1 := ⟨g - 1, by omega⟩
  refine ⟨by omega, hf, hw, by omega, ?_⟩
  have h : cO strict s (g' + 1) k = T := q.out
  rw [YtokhmhbjbclcoaaDoor.cO, if_pos hk, if_neg h34, hd, if_neg hd0] at h
  exact h
theorem CRel.stop {fb b s w0 strict T g k wr} (q : CRel fb b s w0 strict T g k wr) (hk : k < s.size) (h34 : bAt s k ≠ 34) {c : Nat} (hd : cS strict s k = (0, c)) : T = (0, c) := by
  have hg := q.fuel
  obtain ⟨g', rfl⟩ : ∃ g', g = g' + 1 := ⟨g - 1, by omega⟩
  have h : cO strict s (g' + 1) k = T := q.out
  rw [YtokhmhbjbclcoaaDoor.cO, if_pos hk, if_neg h34, hd, if_pos rfl] at h
  exact h.symm
theorem CRel.fin {fb b s w0 strict T g k wr} (q : CRel fb b s w0 strict T g k wr) (hk : ¬ k < s.size) : T = (0, 1) := by
  have h : cO strict s g k = T := q.out
  rw [cO_end (by omega)] at h
  exact h.symm
theorem CRel.quote {fb b s w0 strict T g k wr} (q : CRel fb b s w0 strict T g k wr) (hk : k < s.size) (h34 : bAt s k = 34) : T = (k + 1, 0) := by
  have hg := q.fuel
  obtain ⟨g', rfl⟩ : ∃ g', g = g' + 1 := ⟨g - 1, by omega⟩
  have h : cO strict s (g' + 1) k = T := q.out
  rw [YtokhmhbjbclcoaaDoor.cO, if_pos hk, if_pos h34] at h
  exact h.symm
theorem CEnd.eof {fb b s w0} {n : Int} {er : Value} {w' : World} (h : KS fb b s w0 w') (he : w'.cell? ⟨0, 0, none⟩ = some er) {T : Nat × Nat} (hT : T = (0, 1)) : CEnd fb b s w0 T (.returned (.tuple #[.int .i64 n, er])) w' := by
  subst hT
  exact ⟨n, er, rfl, h, (fun h => by cases h), (fun h => by cases h), fun _ => he, (fun h => by cases h), fun h => by cases h⟩
theorem CEnd.bad {fb b s w0} {n : Int} {p : Addr} {w' : World} (h : KS fb b s w0 w') {T : Nat × Nat} (hT : T = (0, 2)) : CEnd fb b s w0 T (.returned (.tuple #[.int .i64 n, .iface 127 (.pointer (some p))])) w' := by
  subst hT
  exact ⟨n, _, rfl, h, (fun h => by cases h), (fun h => by cases h), (fun h => by cases h), (fun _ => ⟨p, rfl⟩), fun h => by cases h⟩
theorem CEnd.inv {fb b s w0} {n : Int} {er : Value} {w' : World} (h : KS fb b s w0 w') (he : w'.cell? ⟨1, 0, none⟩ = some er) {T : Nat × Nat} (hT : T = (0, 3)) : CEnd fb b s w0 T (.returned (.tuple #[.int .i64 n, er])) w' := by
  subst hT
  exact ⟨n, er, rfl, h, (fun h => by cases h), (fun h => by cases h), (fun h => by cases h), (fun h => by cases h), fun _ => he⟩
theorem CEnd.ok {fb b s w0} {n : Nat} {w' : World} (h : KS fb b s w0 w') {T : Nat × Nat} (hT : T = (n, 0)) {m : Int} (hm : m = n) : CEnd fb b s w0 T (.returned (.tuple #[.int .i64 m, .nilIface])) w' := by
  subst hT hm
  exact ⟨n, _, rfl, h, (fun _ => rfl), (fun _ => rfl), (fun h => by cases h), (fun h => by cases h), fun h => by cases h⟩
theorem plain_step2 {s : ByteArray} {k : Nat} (strict : Bool) (h : plainB (bAt s k) = true) : bAt s k ≠ 34 ∧ cS strict s k = (1, 0) := by
  unfold plainB at h
  simp at h
  exact ⟨h.2, by unfold cS; rw [if_neg h.1.2, if_neg (by omega), if_pos (by omega)]⟩
theorem plain2_any (c : Int) (w : World) : Calls Tryd.prog 69 #[.int .u8 c] w fun e w' => e = .returned (.bool (plainB c)) ∧ w' = w := by
  go_enter Tryd.func69, Tryd.ntmps69
  go_wp2
  all_goals go_ret
  all_goals refine ⟨?_, rfl⟩
  all_goals refine congrArg (fun b => Ending.returned (.bool b)) ?_
  all_goals unfold plainB
  all_goals (rw [Bool.eq_iff_iff]; simp [*]; try omega)
set_option maxRecDepth 100000 in
set_option maxHeartbeats 40000000 in
theorem consW (B fb b cap : Nat) (s : ByteArray) (strict : Bool) (w : World) (hs0 : s.size ≤ 1000000000) (hcap : s.size ≤ cap) (hcm : cap ≤ maxLen)
    (hK : KS fb b s w w) (hB : B ≤ w.heap.size) (hBf : B ≤ fb) (hT : TabsB B w) (hU : EofB B w) (hI : InvB B w) :
    Calls Tryd.prog 46 #[.pointer (some ⟨fb, 0, none⟩), .slice (some ⟨b, 0, none⟩) s.size cap, .int .i64 0, .bool strict] w (CEnd fb b s w (cq strict s)) := by
  have hs : s.size ≤ 100000000000 := by omega
  unfold maxLen at hcm
  obtain ⟨T, HT⟩ : ∃ T, Hid (cq strict s = T) := ⟨_, Lib.hid rfl⟩
  rw [HT.out]
  have eofAt : ∀ {w' : World}, KS fb b s w w' → ∃ p, w'.cell? ⟨0, 0, none⟩ = some (.iface 153 (.pointer (some p))) := fun h => (hU.below (h.base hBf hB)).2
  have tabAt : ∀ {w' : World}, KS fb b s w w' → Tabs w' := fun h => (hT.below (h.base hBf hB)).1
  go_enter Tryd.func46, Tryd.ntmps46
  have hS := hK.bytes
  by_cases h0 : 0 < s.size
  case neg =>
    as_aux_lemma =>
      obtain ⟨pe, he⟩ := eofAt hK
      have hcq : cq strict s = (0, 1) := by unfold cq; rw [if_pos (by omega)]
      have hT1 : T = (0, 1) := HT.out ▸ hcq
      clear HT hcq
      have hz : s.size = 0 := by omega
      go_wp2_with fail
      go_quiet (fail)
      go_wp2_with fail
      all_goals go_ret2
      exact CEnd.eof (hK.drewN _) he hT1
  obtain ⟨X0, hX0⟩ : ∃ X0, bAt s 0 = X0 := ⟨_, rfl⟩
  have hc0 := cellZ hS h0 X0 hX0
  have h0b : ((s.size : Int) == 0) = false := beq_eq_false_iff_ne.2 (by omega)
  by_cases h34 : X0 = 34
  case neg =>
    as_aux_lemma =>
      have hcq : cq strict s = (0, 2) := by unfold cq; rw [if_neg (by omega), hX0, if_neg h34]
      have hT1 : T = (0, 2) := HT.out ▸ hcq
      have h34b : (X0 == 34) = false := by simpa using h34
      clear hX0 HT hcq
      have hTb := tabAt hK
      go_wp2_with (go_at_call 50; refine (badChar_any s 0 _ b _ _ _ rfl h0 (by unfold maxLen; omega) (by omega) hTb hS).mono ?_; rintro e w2 ⟨p, rfl, hb2⟩)
      all_goals go_ret2
      exact CEnd.bad (hK.below hb2) hT1
  have hcq : cq strict s = cO strict s s.size 1 := by unfold cq; rw [if_neg (by omega), hX0, if_pos h34]
  rw [hcq] at HT
  have q0 : CRel fb b s w strict T s.size 1 w := ⟨by omega, hK, by omega, HT.out⟩
  clear HT hcq hX0
  subst h34
  go_wp2_with fail
  clear h0b
  go_loopg [2, 8] s.size (fun g r n wr => ∃ (k j : Nat), r = .int .i64 j ∧ n = .int .i64 k ∧ CRel fb b s w strict T g k wr)
  case atStart => exact ⟨1, 0, rfl, rfl, q0⟩
  case round =>
    clear q0 hc0 hS
    obtain ⟨k0, j, rfl, rfl, q⟩ := hrel
    obtain ⟨G, hG⟩ : ∃ G, G = gk := ⟨_, rfl⟩
    rw [← hG] at q
    by_cases hk0 : k0 < s.size
    case neg =>
      as_aux_lemma =>
        obtain ⟨pe, he⟩ := eofAt q.st
        have hkc : (k0 : Int) ≤ (cap : Int) := by have := q.ks; omega
        have hk1 : (s.size : Int) ≤ (k0 : Int) := by omega
        go_wp2_with fail
        go_quiet (fail)
        go_wp2_with fail
        all_goals go_ret2
        exact CEnd.eof (q.st.drewN _) he (q.fin hk0)
    go_upto_block 3 with fail
    go_cut [8] from 44 to 333 (fun n wx => ∃ k g : Nat, n = .int .i64 (k : Int) ∧ wr = wx ∧ g ≤ G ∧ CRel fb b s w strict T g k wr ∧ (k < s.size → plainB (bAt s k) = false))
    case first =>
      as_aux_lemma =>
        clear eofAt tabAt
        go_wp2_with fail
        go_loopg [8] (s.size - k0) (fun g2 n wx => ∃ k g : Nat, n = .int .i64 (k : Int) ∧ wr = wx ∧ g ≤ G ∧ CRel fb b s w strict T g k wr ∧ s.size - k ≤ g2)
        case atStart => exact ⟨k0, G, rfl, rfl, Nat.le_refl _, q, Nat.le_refl _⟩
        case round =>
          clear q hk0
          obtain ⟨k, g, rfl, rfl, hgk, q, hg2⟩ := hrel
          have hkc : (k : Int) ≤ (cap : Int) := by have := q.ks; omega
          by_cases hk : k < s.size
          · obtain ⟨X, hX⟩ : ∃ X, bAt s k = X := ⟨_, rfl⟩
            have hc := cellZ q.st.bytes hk X hX
            cases hp : plainB X
            · have hpb := Lib.hid (hX.symm ▸ hp : plainB (bAt s k) = false)
              clear hX
              go_wp2_with (go_at_call 69; refine (plain2_any _ _).mono ?_; rintro e w4 ⟨rfl, rfl⟩)
              go_meet
              exact ⟨k, g, rfl, rfl, hgk, q, fun _ => hpb.out⟩
            · obtain ⟨p1, p2⟩ := plain_step2 (s := s) (k := k) strict (by rw [hX]; exact hp)
              have Q := q.step hk p1 p2 (by omega) (by omega) q.st
              clear hX p1 p2
              go_wp2_with (go_at_call 69; refine (plain2_any _ _).mono ?_; rintro e w4 ⟨rfl, rfl⟩)
              go_roundg (gk - 1)
              case measure => omega
              case rel => exact ⟨k + 1, g - 1, by go_num, rfl, by omega, Q.2, by omega⟩
          · have hk1 : (s.size : Int) ≤ (k : Int) := by omega
            go_wp2_with fail
            go_meet
            exact ⟨k, g, rfl, rfl, hgk, q, fun h => absurd h hk⟩
    case rest =>
    obtain ⟨k, g, rfl, rfl, hgk, q, hnp⟩ := hcut
    clear hk0
    by_cases hk : k < s.size
    case neg =>
      as_aux_lemma =>
        obtain ⟨pe, he⟩ := eofAt q.st
        have hkc : (k : Int) ≤ (cap : Int) := by have := q.ks; omega
        have hk1 : (s.size : Int) ≤ (k : Int) := by omega
        clear hnp
        go_wp2_with fail
        go_quiet (fail)
        go_wp2_with fail
        all_goals go_ret2
        exact CEnd.eof (q.st.drewN _) he (q.fin hk)
    have qst := q.st
    have hSr := qst.bytes
    have hTr := tabAt qst
    obtain ⟨X, hX⟩ : ∃ X, bAt s k = X := ⟨_, rfl⟩
    have hc := cellZ hSr hk X hX
    have hX0 : 0 ≤ X := by rw [← hX]; exact bAt_nonneg _ _
    have hX1 : X ≤ 255 := by rw [← hX]; exact bAt_le _ _
    have hkI : (k : Int) < (s.size : Int) := by omega
    have hkc : (k : Int) < (cap : Int) := by omega
    have hpl : plainB X = false := by rw [← hX]; exact hnp hk
    clear hnp
    have qf := q.fuel
    have hG1 : g - 1 < gk := by omega
    clear qf
    by_cases x34 : X = 34
    case pos =>
      as_aux_lemma =>
        subst x34
        have x34p : bAt s k = 34 := hX
        clear hX hpl
        go_wp2_with fail
        all_goals go_ret2
        exact CEnd.ok q.st (q.quote hk x34p) (by omega)
    have h34 : bAt s k ≠ 34 := by rw [hX]; exact x34
    have x34b : (X == 34) = false := by simpa using x34
    have runeA : X < 128 → (runeN s k : Int) = X ∧ stepN s k = 1 := fun h => by
      have hu := (uw_one s k hk).1 (by rw [hX]; exact h)
      exact ⟨by unfold runeN; rw [if_pos hu, bN_eq, hX], by unfold stepN; rw [hu]; rfl⟩
    have decA : ∀ (r : Int) (d : Nat), (runeN s k : Int) = r → stepN s k = d → Calls Tryd.prog 60 #[.slice (some ⟨b, k, none⟩) (s.size - k) (cap - k)] wr fun e w' => e = .returned (.tuple #[.int .i32 r, .int .i64 d]) ∧ Below wr.heap.size wr w' := fun r d hr hd =>
      decode_r s k _ b _ _ rfl hk hTr hSr r d hr hd
    by_cases x92 : X = 92
    case neg =>
      by_cases x32 : X < 32
      case pos =>
        as_aux_lemma =>
          obtain ⟨hr1, hd1⟩ := runeA (by omega)
          have dec := decA _ _ hr1 hd1
          have us : cS strict s k = (0, 2) := by unfold cS; rw [hX, if_neg x92, if_pos x32]
          have hT1 := q.stop hk h34 us
          have x92b : (X == 92) = false := by simpa using x92
          have x65 : (X == 65533) = false := by simp; omega
          clear runeA decA hpl hr1 hd1 hX us
          go_wp2_with (first
            | (go_at_call 60; refine dec.mono ?_; rintro e w2 ⟨rfl, hb2⟩; have K2 := qst.below hb2; have hS2 := K2.bytes)
            | (go_at_call 70; refine (join_k K2 _).mono ?_; rintro e w3 ⟨rfl, K3⟩; have hS3 := K3.bytes)
            | (go_at_call 50; refine (badChar_any s k _ b _ _ _ rfl hk (by unfold maxLen; omega) (by omega) (tabAt K3) hS3).mono ?_; rintro e w4 ⟨p, rfl, hb4⟩))
          all_goals go_ret2
          exact CEnd.bad (K3.below hb4) hT1
      have x128 : 128 ≤ X := by
        unfold plainB at hpl
        simp at hpl
        by_cases h : X < 128
        · exact absurd (hpl h (by omega) x92) x34
        · omega
      have x92b : (X == 92) = false := by simpa using x92
      by_cases hu : uw s k = 0
      case neg =>
        as_aux_lemma =>
          obtain ⟨d, hd⟩ : ∃ d, stepN s k = d := ⟨_, rfl⟩
          obtain ⟨r, hr⟩ : ∃ r : Int, (runeN s k : Int) = r := ⟨_, rfl⟩
          have dec := decA _ _ hr hd
          have hst := step_fits s k hk
          have hdu : uw s k = d := by rw [← hd]; unfold stepN; rw [if_neg hu]
          have hd1 : uw s k ≠ 1 := fun h => by have := (uw_one s k hk).2 h; rw [hX] at this; omega
          rw [hd] at hst
          rw [hdu] at hd1
          have us : cS strict s k = (d, 0) := by unfold cS; rw [hX, if_neg x92, if_neg x32, if_neg (by omega), if_neg hu, hdu]
          have hd2 : 1 < (d : Int) := by omega
          have hd4 : (d : Int) ≤ 4 := by omega
          clear runeA decA hpl hr hd hX hu hdu hd1
          go_wp2_with (go_at_call 60; refine dec.mono ?_; rintro e w2 ⟨rfl, hb2⟩; have K2 := qst.below hb2; have hS2 := K2.bytes)
          have Q := q.step hk h34 us (by omega) (by omega) K2
          go_roundg (g - 1)
          case measure => exact hG1
          case rel => exact ⟨k + d, j, by first | rfl | go_num, by go_num, Q.2⟩
      as_aux_lemma =>
        have hbad := (bad_iff s k).2 hu
        have dec := decA 65533 1 hbad.1 hbad.2
        have hxf : 128 ≤ bAt s k := by rw [hX]; exact x128
        have us0 : cS strict s k = (if fullB s k = false then (0, 1) else if strict then (0, 3) else (1, 0)) := by unfold cS; rw [hX, if_neg x92, if_neg x32, if_neg (by omega), if_pos hu]
        have HXF := Lib.hid hxf
        cases hf : fullB s k
        · have us : cS strict s k = (0, 1) := by rw [us0, hf]; rfl
          have hT1 := q.stop hk h34 us
          clear runeA decA hpl hX us0 hbad hxf us
          go_wp2_with (first
            | (go_at_call 60; refine dec.mono ?_; rintro e w2 ⟨rfl, hb2⟩; have K2 := qst.below hb2; have hS2 := K2.bytes)
            | (go_at_call 67; refine (full_any B s b k _ _ _ rfl hk hs (hT.below (K2.base hBf hB)) hS2 HXF.out).mono ?_; rw [hf]; rintro e w3 ⟨rfl, hb3⟩; have K3 := K2.below hb3; have hS3 := K3.bytes; obtain ⟨pe, he⟩ := eofAt K3))
          go_quiet (fail)
          go_wp2_with fail
          all_goals go_ret2
          exact CEnd.eof (K3.drewN _) he hT1
        · cases strict
          · have us : cS false s k = (1, 0) := by rw [us0, hf]; rfl
            clear runeA decA hpl hX us0 hbad hxf
            go_wp2_with (first
              | (go_at_call 60; refine dec.mono ?_; rintro e w2 ⟨rfl, hb2⟩; have K2 := qst.below hb2; have hS2 := K2.bytes)
              | (go_at_call 67; refine (full_any B s b k _ _ _ rfl hk hs (hT.below (K2.base hBf hB)) hS2 HXF.out).mono ?_; rw [hf]; rintro e w3 ⟨rfl, hb3⟩; have K3 := K2.below hb3; have hS3 := K3.bytes)
              | (go_at_call 70; refine (join_k K3 _).mono ?_; rintro e w4 ⟨rfl, K4⟩; have hS4 := K4.bytes))
            have Q := q.step hk h34 us (by omega) (by omega) K4
            go_roundg (g - 1)
            case measure => exact hG1
            case rel => exact ⟨k + 1, j, by first | rfl | go_num, by go_num, Q.2⟩
          · have us : cS true s k = (0, 3) := by rw [us0, hf]; rfl
            have hT1 := q.stop hk h34 us
            clear runeA decA hpl hX us0 hbad hxf us
            go_wp2_with (first
              | (go_at_call 60; refine dec.mono ?_; rintro e w2 ⟨rfl, hb2⟩; have K2 := qst.below hb2; have hS2 := K2.bytes)
              | (go_at_call 67; refine (full_any B s b k _ _ _ rfl hk hs (hT.below (K2.base hBf hB)) hS2 HXF.out).mono ?_; rw [hf]; rintro e w3 ⟨rfl, hb3⟩; have K3 := K2.below hb3; have hS3 := K3.bytes)
              | (go_at_call 70; refine (join_k K3 _).mono ?_; rintro e w4 ⟨rfl, K4⟩; have hS4 := K4.bytes; obtain ⟨Te, pe, he⟩ := (hI.below (K4.base hBf hB)).2))
            go_quiet (fail)
            go_wp2_with fail
            all_goals go_ret2
            exact CEnd.inv (K4.drewN _) he hT1
    subst x92
    obtain ⟨hr1, hd1⟩ := runeA (by omega)
    have dec := decA _ _ hr1 hd1
    clear runeA decA hpl hX0 hX1 hr1 hd1
    by_cases h2 : s.size < k + 2
    case pos =>
      as_aux_lemma =>
        have us : cS strict s k = (0, 1) := by unfold cS; rw [hX, if_pos rfl]; unfold cE; rw [if_pos h2]
        have hT1 := q.stop hk h34 us
        have h2I : (s.size : Int) < (k : Int) + 2 := by omega
        clear hX us
        go_wp2_with (first
          | (go_at_call 60; refine dec.mono ?_; rintro e w2 ⟨rfl, hb2⟩; have K2 := qst.below hb2; have hS2 := K2.bytes)
          | (go_at_call 70; refine (join_k K2 _).mono ?_; rintro e w3 ⟨rfl, K3⟩; have hS3 := K3.bytes; obtain ⟨pe, he⟩ := eofAt K3))
        go_quiet (fail)
        go_wp2_with fail
        all_goals go_ret2
        exact CEnd.eof (K3.drewN _) he hT1
    obtain ⟨E, hE⟩ : ∃ E, bAt s (k + 1) = E := ⟨_, rfl⟩
    have hce := cellZ hSr (i := k + 1) (by omega) E hE
    have hE0 : 0 ≤ E := by rw [← hE]; exact bAt_nonneg _ _
    have hE1 : E ≤ 255 := by rw [← hE]; exact bAt_le _ _
    have h2I : (k : Int) + 2 ≤ (s.size : Int) := by omega
    have HE := Lib.hid hE
    have uS92 : cS strict s k = if 0 ≤ escC E then (2, 0) else if E = 117 then (if s.size < k + 6 then (0, if prefB false s k (s.size - k) = true then 1 else 2)
      else if hexAll s (k + 2) 4 = false then (0, 2)
      else if strict && surB (hexPre s (k + 2) 4) then
        if s.size < k + 12 then (0, if prefB true s (k + 6) (s.size - (k + 6)) = true then 1 else 2)
        else if bAt s (k + 6) = 92 ∧ bAt s (k + 7) = 117 ∧ hexAll s (k + 8) 4 = true ∧ pairR (hexPre s (k + 2) 4) (hexPre s (k + 8) 4) ≠ 65533 then (12, 0) else (0, 2)
      else (6, 0)) else (0, 2) := by
      unfold cS; rw [hX, if_pos rfl]; unfold cE; rw [if_neg h2, hE]
    by_cases hec : 0 ≤ escC E
    case pos =>
      rw [if_pos hec] at uS92
      have hcl : E = 34 ∨ E = 92 ∨ E = 47 ∨ E = 98 ∨ E = 102 ∨ E = 110 ∨ E = 114 ∨ E = 116 := by
        unfold escC at hec
        repeat' split at hec
        all_goals omega
      rcases hcl with rfl | rfl | rfl | rfl | rfl | rfl | rfl | rfl
      · as_aux_lemma =>
          have us : cS strict s k = (2, 0) := uS92
          clear uS92 hX hE
          go_wp2_with (first
            | (go_at_call 60; refine dec.mono ?_; rintro e w2 ⟨rfl, hb2⟩; have K2 := qst.below hb2; have hS2 := K2.bytes)
            | (go_at_call 70; refine (join_k K2 _).mono ?_; rintro e w3 ⟨rfl, K3⟩; have hS3 := K3.bytes; have hce3 := cellZ hS3 (i := k + 1) (by omega) _ HE.out))
          have Q := q.step hk h34 us (by omega) (by omega) K3
          go_roundg (g - 1)
          case measure => exact hG1
          case rel => exact ⟨k + 2, k, by first | rfl | go_num, by go_num, Q.2⟩
      · as_aux_lemma =>
          have us : cS strict s k = (2, 0) := uS92
          clear uS92 hX hE
          go_wp2_with (first
            | (go_at_call 60; refine dec.mono ?_; rintro e w2 ⟨rfl, hb2⟩; have K2 := qst.below hb2; have hS2 := K2.bytes)
            | (go_at_call 70; refine (join_k K2 _).mono ?_; rintro e w3 ⟨rfl, K3⟩; have hS3 := K3.bytes; have hce3 := cellZ hS3 (i := k + 1) (by omega) _ HE.out))
          have Q := q.step hk h34 us (by omega) (by omega) K3
          go_roundg (g - 1)
          case measure => exact hG1
          case rel => exact ⟨k + 2, k, by first | rfl | go_num, by go_num, Q.2⟩
      · as_aux_lemma =>
          have us : cS strict s k = (2, 0) := uS92
          clear uS92 hX hE
          go_wp2_with (first
            | (go_at_call 60; refine dec.mono ?_; rintro e w2 ⟨rfl, hb2⟩; have K2 := qst.below hb2; have hS2 := K2.bytes)
            | (go_at_call 70; refine (join_k K2 _).mono ?_; rintro e w3 ⟨rfl, K3⟩; have hS3 := K3.bytes; have hce3 := cellZ hS3 (i := k + 1) (by omega) _ HE.out)
            | (go_at_call 70; refine (join_k K3 _).mono ?_; rintro e w4 ⟨rfl, K4⟩; have hS4 := K4.bytes))
          have Q := q.step hk h34 us (by omega) (by omega) K4
          go_roundg (g - 1)
          case measure => exact hG1
          case rel => exact ⟨k + 2, k, by first | rfl | go_num, by go_num, Q.2⟩
      · as_aux_lemma =>
          have us : cS strict s k = (2, 0) := uS92
          clear uS92 hX hE
          go_wp2_with (first
            | (go_at_call 60; refine dec.mono ?_; rintro e w2 ⟨rfl, hb2⟩; have K2 := qst.below hb2; have hS2 := K2.bytes)
            | (go_at_call 70; refine (join_k K2 _).mono ?_; rintro e w3 ⟨rfl, K3⟩; have hS3 := K3.bytes; have hce3 := cellZ hS3 (i := k + 1) (by omega) _ HE.out))
          have Q := q.step hk h34 us (by omega) (by omega) K3
          go_roundg (g - 1)
          case measure => exact hG1
          case rel => exact ⟨k + 2, k, by first | rfl | go_num, by go_num, Q.2⟩
      · as_aux_lemma =>
          have us : cS strict s k = (2, 0) := uS92
          clear uS92 hX hE
          go_wp2_with (first
            | (go_at_call 60; refine dec.mono ?_; rintro e w2 ⟨rfl, hb2⟩; have K2 := qst.below hb2; have hS2 := K2.bytes)
            | (go_at_call 70; refine (join_k K2 _).mono ?_; rintro e w3 ⟨rfl, K3⟩; have hS3 := K3.bytes; have hce3 := cellZ hS3 (i := k + 1) (by omega) _ HE.out))
          have Q := q.step hk h34 us (by omega) (by omega) K3
          go_roundg (g - 1)
          case measure => exact hG1
          case rel => exact ⟨k + 2, k, by first | rfl | go_num, by go_num, Q.2⟩
      · as_aux_lemma =>
          have us : cS strict s k = (2, 0) := uS92
          clear uS92 hX hE
          go_wp2_with (first
            | (go_at_call 60; refine dec.mono ?_; rintro e w2 ⟨rfl, hb2⟩; have K2 := qst.below hb2; have hS2 := K2.bytes)
            | (go_at_call 70; refine (join_k K2 _).mono ?_; rintro e w3 ⟨rfl, K3⟩; have hS3 := K3.bytes; have hce3 := cellZ hS3 (i := k + 1) (by omega) _ HE.out))
          have Q := q.step hk h34 us (by omega) (by omega) K3
          go_roundg (g - 1)
          case measure => exact hG1
          case rel => exact ⟨k + 2, k, by first | rfl | go_num, by go_num, Q.2⟩
      · as_aux_lemma =>
          have us : cS strict s k = (2, 0) := uS92
          clear uS92 hX hE
          go_wp2_with (first
            | (go_at_call 60; refine dec.mono ?_; rintro e w2 ⟨rfl, hb2⟩; have K2 := qst.below hb2; have hS2 := K2.bytes)
            | (go_at_call 70; refine (join_k K2 _).mono ?_; rintro e w3 ⟨rfl, K3⟩; have hS3 := K3.bytes; have hce3 := cellZ hS3 (i := k + 1) (by omega) _ HE.out))
          have Q := q.step hk h34 us (by omega) (by omega) K3
          go_roundg (g - 1)
          case measure => exact hG1
          case rel => exact ⟨k + 2, k, by first | rfl | go_num, by go_num, Q.2⟩
      · as_aux_lemma =>
          have us : cS strict s k = (2, 0) := uS92
          clear uS92 hX hE
          go_wp2_with (first
            | (go_at_call 60; refine dec.mono ?_; rintro e w2 ⟨rfl, hb2⟩; have K2 := qst.below hb2; have hS2 := K2.bytes)
            | (go_at_call 70; refine (join_k K2 _).mono ?_; rintro e w3 ⟨rfl, K3⟩; have hS3 := K3.bytes; have hce3 := cellZ hS3 (i := k + 1) (by omega) _ HE.out))
          have Q := q.step hk h34 us (by omega) (by omega) K3
          go_roundg (g - 1)
          case measure => exact hG1
          case rel => exact ⟨k + 2, k, by first | rfl | go_num, by go_num, Q.2⟩
    rw [if_neg hec] at uS92
    have e34 : (E == 34) = false := by simp; intro h; subst h; exact hec (by decide)
    have e92 : (E == 92) = false := by simp; intro h; subst h; exact hec (by decide)
    have e47 : (E == 47) = false := by simp; intro h; subst h; exact hec (by decide)
    have e98 : (E == 98) = false := by simp; intro h; subst h; exact hec (by decide)
    have e102 : (E == 102) = false := by simp; intro h; subst h; exact hec (by decide)
    have e110 : (E == 110) = false := by simp; intro h; subst h; exact hec (by decide)
    have e114 : (E == 114) = false := by simp; intro h; subst h; exact hec (by decide)
    have e116 : (E == 116) = false := by simp; intro h; subst h; exact hec (by decide)
    clear hec
    by_cases e117 : E = 117
    case neg =>
      as_aux_lemma =>
        have e117b : (E == 117) = false := by simpa using e117
        have us : cS strict s k = (0, 2) := by rw [uS92, if_neg e117]
        have hT1 := q.stop hk h34 us
        clear uS92 hX hE e117 us
        go_wp2_with (first
          | (go_at_call 60; refine dec.mono ?_; rintro e w2 ⟨rfl, hb2⟩; have K2 := qst.below hb2; have hS2 := K2.bytes)
          | (go_at_call 70; refine (join_k K2 _).mono ?_; rintro e w3 ⟨rfl, K3⟩; have hS3 := K3.bytes; have hce3 := cellZ hS3 (i := k + 1) (by omega) _ HE.out)
          | (go_at_call 70; refine (join_k K3 _).mono ?_; rintro e w4 ⟨rfl, K4⟩; have hS4 := K4.bytes)
          | (go_at_call 62; refine (badEsc_any s _ _ b _ _ (by omega) (by unfold maxLen; omega) hS4).mono ?_; rintro e w5 ⟨p, rfl, hb5⟩))
        all_goals go_ret2
        exact CEnd.bad (K4.below hb5) hT1
    subst e117
    rw [if_pos rfl] at uS92
    clear e34 e92 e47 e98 e102 e110 e114 e116 hE0 hE1
    by_cases h6 : s.size < k + 6
    case pos =>
      as_aux_lemma =>
        have h6I : (s.size : Int) < (k : Int) + 6 := by omega
        obtain ⟨P, hP⟩ : ∃ P, prefB false s k (s.size - k) = P := ⟨_, rfl⟩
        have us : cS strict s k = (0, if P = true then 1 else 2) := by rw [uS92, if_pos h6, hP]
        have hT1 := q.stop hk h34 us
        have esc : ∀ w' : World, Lib.Bytes w' b 0 s → Calls Tryd.prog 61 #[.slice (some ⟨b, k, none⟩) (s.size - k) (cap - k), .bool false] w' fun e w'' => e = .returned (.bool P) ∧ w'' = w' := fun w' h => hP ▸ hasEsc_any s false b k (s.size - k) _ w' (by omega) hs h
        clear uS92 hX hE hP us
        cases P
        · go_wp2_with (first
            | (go_at_call 60; refine dec.mono ?_; rintro e w2 ⟨rfl, hb2⟩; have K2 := qst.below hb2; have hS2 := K2.bytes)
            | (go_at_call 70; refine (join_k K2 _).mono ?_; rintro e w3 ⟨rfl, K3⟩; have hS3 := K3.bytes; have hce3 := cellZ hS3 (i := k + 1) (by omega) _ HE.out)
            | (go_at_call 61; refine (esc _ hS3).mono ?_; rintro e w9 ⟨rfl, hw9⟩; obtain rfl := hw9.symm)
            | (go_at_call 70; refine (join_k K3 _).mono ?_; rintro e w4 ⟨rfl, K4⟩; have hS4 := K4.bytes)
            | (go_at_call 62; refine (badEsc_any s _ _ b _ _ (by omega) (by unfold maxLen; omega) hS4).mono ?_; rintro e w5 ⟨p, rfl, hb5⟩))
          all_goals go_ret2
          exact CEnd.bad (K4.below hb5) hT1
        · go_wp2_with (first
            | (go_at_call 60; refine dec.mono ?_; rintro e w2 ⟨rfl, hb2⟩; have K2 := qst.below hb2; have hS2 := K2.bytes)
            | (go_at_call 70; refine (join_k K2 _).mono ?_; rintro e w3 ⟨rfl, K3⟩; have hS3 := K3.bytes; have hce3 := cellZ hS3 (i := k + 1) (by omega) _ HE.out; obtain ⟨pe, he⟩ := eofAt K3)
            | (go_at_call 61; refine (esc _ hS3).mono ?_; rintro e w9 ⟨rfl, hw9⟩; obtain rfl := hw9.symm))
          go_quiet (fail)
          go_wp2_with fail
          all_goals go_ret2
          exact CEnd.eof (K3.drewN _) he hT1
    have h6I : (k : Int) + 6 ≤ (s.size : Int) := by omega
    rw [if_neg h6] at uS92
    obtain ⟨V1, hV1⟩ : ∃ V, hexPre s (k + 2) 4 = V := ⟨_, rfl⟩
    cases hO1 : hexAll s (k + 2) 4
    case false =>
      as_aux_lemma =>
        have us : cS strict s k = (0, 2) := by rw [uS92, if_pos hO1]
        have hT1 := q.stop hk h34 us
        have p1 : ∀ (m c : Nat) (w' : World), Lib.Bytes w' b 0 s → m = 4 → Calls Tryd.prog 63 #[.slice (some ⟨b, k + 2, none⟩) m c] w' fun e w'' => e = .returned (.tuple #[.int .u16 0, .bool false]) ∧ w'' = w' := fun m c w' hS' hm => by
          have := parseHex_any s b (k + 2) m c w' hm (by omega) hs hS'
          rw [hO1] at this
          simpa using this
        clear uS92 hX hE hV1 hO1 h2 h6 us
        go_wp2_with (first
          | (go_at_call 60; refine dec.mono ?_; rintro e w2 ⟨rfl, hb2⟩; have K2 := qst.below hb2; have hS2 := K2.bytes)
          | (go_at_call 70; refine (join_k K2 _).mono ?_; rintro e w3 ⟨rfl, K3⟩; have hS3 := K3.bytes; have hce3 := cellZ hS3 (i := k + 1) (by omega) _ HE.out)
          | (go_at_call 63; refine (p1 _ _ _ hS3 (by omega)).mono ?_; rintro e w9 ⟨rfl, hw9⟩; obtain rfl := hw9.symm)
          | (go_at_call 70; refine (join_k K3 _).mono ?_; rintro e w4 ⟨rfl, K4⟩; have hS4 := K4.bytes)
          | (go_at_call 62; refine (badEsc_any s _ _ b _ _ (by omega) (by unfold maxLen; omega) hS4).mono ?_; rintro e w5 ⟨p, rfl, hb5⟩))
        all_goals go_ret2
        exact CEnd.bad (K4.below hb5) hT1
    have hb1' := hexPre_bd s (k + 2) 4 hO1
    rw [hV1] at hb1'
    have v10 : 0 ≤ V1 := hb1'.1
    have v11 : V1 < 65536 := by have := hb1'.2; simpa using this
    have p1 : ∀ (m c : Nat) (w' : World), Lib.Bytes w' b 0 s → m = 4 → Calls Tryd.prog 63 #[.slice (some ⟨b, k + 2, none⟩) m c] w' fun e w'' => e = .returned (.tuple #[.int .u16 V1, .bool true]) ∧ w'' = w' := fun m c w' hS' hm => by
      have := parseHex_any s b (k + 2) m c w' hm (by omega) hs hS'
      rw [hO1, hV1] at this
      simpa using this
    rw [hO1, if_neg (by simp), hV1] at uS92
    clear hb1' hO1 hV1 hE hX
    go_upto_if 210 with (first
      | (go_at_call 60; refine dec.mono ?_; rintro e w2 ⟨rfl, hb2⟩; have K2 := qst.below hb2; have hS2 := K2.bytes)
      | (go_at_call 70; refine (join_k K2 _).mono ?_; rintro e w3 ⟨rfl, K3⟩; have hS3 := K3.bytes; have hce3 := cellZ hS3 (i := k + 1) (by omega) _ HE.out)
      | (go_at_call 63; refine (p1 _ _ _ hS3 (by omega)).mono ?_; clear p1; rintro e w9 ⟨rfl, hw9⟩; obtain rfl := hw9.symm))
    clear dec hc
    go_cut [210] from 211 to 215 (fun c wx => ∃ P1 : Bool, c = .bool P1 ∧ wx = w3 ∧ (P1 = true → V1 < 32))
    case first =>
      as_aux_lemma =>
        cases b8 : (V1 == 8)
        case true =>
          have hV : V1 < 32 := by have := of_decide_eq_true b8; omega
          go_wp2_with fail
          go_meet
          exact ⟨true, rfl, rfl, fun _ => hV⟩
        cases b12 : (V1 == 12)
        case true =>
          have hV : V1 < 32 := by have := of_decide_eq_true b12; omega
          go_wp2_with fail
          go_meet
          exact ⟨true, rfl, rfl, fun _ => hV⟩
        cases b10 : (V1 == 10)
        case true =>
          have hV : V1 < 32 := by have := of_decide_eq_true b10; omega
          go_wp2_with fail
          go_meet
          exact ⟨true, rfl, rfl, fun _ => hV⟩
        cases b13 : (V1 == 13)
        case true =>
          have hV : V1 < 32 := by have := of_decide_eq_true b13; omega
          go_wp2_with fail
          go_meet
          exact ⟨true, rfl, rfl, fun _ => hV⟩
        cases b9 : (V1 == 9)
        case true =>
          have hV : V1 < 32 := by have := of_decide_eq_true b9; omega
          go_wp2_with fail
          go_meet
          exact ⟨true, rfl, rfl, fun _ => hV⟩
        go_wp2_with fail
        go_meet
        exact ⟨false, rfl, rfl, fun h => by cases h⟩
    case rest =>
    obtain ⟨P1, rfl, rfl, hP1⟩ := hcut
    clear hS2 K2 hb2 hce hTr hSr qst
    by_cases h32 : 32 ≤ V1
    case neg =>
      as_aux_lemma =>
        have hsur : surB V1 = false := by unfold surB; simp; omega
        have us : cS strict s k = (6, 0) := by rw [uS92, hsur, Bool.and_false, if_neg (by simp)]
        have h32' : V1 < 32 := by omega
        clear uS92 h2 h32 hP1
        cases P1
        case true =>
          cases strict
          · go_wp2_with (go_at_call 70; refine (join_k K3 _).mono ?_; rintro e w4 ⟨rfl, K4⟩; have hS4 := K4.bytes)
            have Q := q.step hk h34 us (by omega) (by omega) K4
            go_roundg (g - 1)
            case measure => exact hG1
            case rel => exact ⟨k + 6, k, by first | rfl | go_num, by go_num, Q.2⟩
          · go_wp2_with (first
              | (go_at_call 70; refine (join_k K3 _).mono ?_; rintro e w4 ⟨rfl, K4⟩; have hS4 := K4.bytes)
              | (go_at_call 64; refine (sur_any _ _).mono ?_; rw [hsur]; rintro e w9 ⟨rfl, hw9⟩; obtain rfl := hw9.symm))
            have Q := q.step hk h34 us (by omega) (by omega) K4
            go_roundg (g - 1)
            case measure => exact hG1
            case rel => exact ⟨k + 6, k, by first | rfl | go_num, by go_num, Q.2⟩
        case false =>
          go_wp2_with fail
          rw [show k + 6 - (k + 2) = 4 from by omega]
          go_loopg [17, 197] 4 (fun g c i wx => ∃ j : Nat, i = .int .i64 j ∧ j ≤ 4 ∧ 4 - j ≤ g ∧ KS fb b s w wx)
          case atStart => exact ⟨0, rfl, by omega, by omega, K3⟩
          case round =>
            clear hce3 hS3 K3
            obtain ⟨j, rfl, hj4, hjg, KJ⟩ := hrel
            have hSJ := KJ.bytes
            by_cases hj : j < 4
            · have hjI : (j : Int) < 4 := by omega
              clear us hsur
              obtain ⟨C, hC⟩ : ∃ C, bAt s (k + 2 + j) = C := ⟨_, rfl⟩
              have hcJ := cellZ hSJ (i := k + 2 + j) (by omega) C hC
              clear hC
              by_cases h65 : 65 ≤ C
              · by_cases h70 : C ≤ 70
                · go_wp2_with (go_at_call 70; refine (join_k KJ _).mono ?_; rintro e w4 ⟨rfl, K4⟩)
                  go_roundg (gk - 1)
                  case measure => omega
                  case rel => exact ⟨j + 1, by go_num, by omega, by omega, K4⟩
                · have h70' : 70 < C := by omega
                  clear h70
                  go_wp2_with fail
                  go_roundg (gk - 1)
                  case measure => omega
                  case rel => exact ⟨j + 1, by go_num, by omega, by omega, KJ⟩
              · have h65' : C < 65 := by omega
                clear h65
                go_wp2_with fail
                go_roundg (gk - 1)
                case measure => omega
                case rel => exact ⟨j + 1, by go_num, by omega, by omega, KJ⟩
            · obtain rfl : j = 4 := by omega
              cases strict
              · go_wp2_with fail
                have Q := q.step hk h34 us (by omega) (by omega) KJ
                go_roundg (g - 1)
                case measure => exact hG1
                case rel => exact ⟨k + 6, k, by first | rfl | go_num, by go_num, Q.2⟩
              · go_wp2_with (go_at_call 64; refine (sur_any _ _).mono ?_; rw [hsur]; rintro e w9 ⟨rfl, hw9⟩; obtain rfl := hw9.symm)
                have Q := q.step hk h34 us (by omega) (by omega) KJ
                go_roundg (g - 1)
                case measure => exact hG1
                case rel => exact ⟨k + 6, k, by first | rfl | go_num, by go_num, Q.2⟩
    obtain rfl : P1 = false := by cases P1; rfl; have := hP1 rfl; omega
    clear hP1
    go_upto_region 66 with (go_at_call 70; refine (join_k K3 _).mono ?_; rintro e w4 ⟨rfl, K4⟩; have hS4 := K4.bytes)
    clear hS3 K3 hce3 h32
    by_cases hsur : (strict && surB V1) = false
    case pos =>
      as_aux_lemma =>
        have us : cS strict s k = (6, 0) := by rw [uS92, if_neg (by rw [hsur]; simp)]
        clear h2 h6 uS92
        cases strict
        · go_wp2_with fail
          have Q := q.step hk h34 us (by omega) (by omega) K4
          go_roundg (g - 1)
          case measure => exact hG1
          case rel => exact ⟨k + 6, k, by first | rfl | go_num, by go_num, Q.2⟩
        · have hsur : surB V1 = false := by simpa using hsur
          go_wp2_with (go_at_call 64; refine (sur_any _ _).mono ?_; rw [hsur]; rintro e w9 ⟨rfl, hw9⟩; obtain rfl := hw9.symm)
          have Q := q.step hk h34 us (by omega) (by omega) K4
          go_roundg (g - 1)
          case measure => exact hG1
          case rel => exact ⟨k + 6, k, by first | rfl | go_num, by go_num, Q.2⟩
    rw [if_pos (by simpa using hsur)] at uS92
    obtain ⟨hst, hs2⟩ : strict = true ∧ surB V1 = true := by simpa using hsur
    clear hsur
    subst hst
    have hsur := hs2
    clear hs2
    by_cases h12 : s.size < k + 12
    case pos =>
      as_aux_lemma =>
        have h12I : (s.size : Int) < (k : Int) + 6 + 6 := by omega
        obtain ⟨P, hP⟩ : ∃ P, prefB true s (k + 6) (s.size - (k + 6)) = P := ⟨_, rfl⟩
        have us : cS true s k = (0, if P = true then 1 else 2) := by rw [uS92, if_pos h12, hP]
        have hT1 := q.stop hk h34 us
        have esc : ∀ (m c : Nat) (w' : World), m = s.size - (k + 6) → Lib.Bytes w' b 0 s → Calls Tryd.prog 61 #[.slice (some ⟨b, k + 6, none⟩) m c, .bool true] w' fun e w'' => e = .returned (.bool P) ∧ w'' = w' := fun m c w' hm h => by
          subst hm
          exact hP ▸ hasEsc_any s true b (k + 6) (s.size - (k + 6)) _ w' (by omega) hs h
        clear us uS92
        cases P
        · have hk6 : (k : Int) + 6 < (cap : Int) := by
            have : s.size - (k + 6) ≠ 0 := fun h => by rw [h] at hP; cases hP
            omega
          clear hP h2 h6 h12
          go_wp2_with (first
            | (go_at_call 64; refine (sur_any _ _).mono ?_; rw [hsur]; rintro e w9 ⟨rfl, hw9⟩; obtain rfl := hw9.symm)
            | (go_at_call 61; refine (esc _ _ _ (by omega) hS4).mono ?_; rintro e w9 ⟨rfl, hw9⟩; obtain rfl := hw9.symm)
            | (go_at_call 70; refine (join_k K4 _).mono ?_; rintro e w5 ⟨rfl, K5⟩; have hS5 := K5.bytes)
            | (go_at_call 62; refine (badEsc_any s _ _ b _ _ (by omega) (by unfold maxLen; omega) hS5).mono ?_; rintro e w6 ⟨p, rfl, hb6⟩))
          all_goals go_ret2
          exact CEnd.bad (K5.below hb6) hT1
        · obtain ⟨pe, he⟩ := eofAt K4
          clear hP h2 h6 h12
          by_cases hk6 : k + 6 = cap
          · have esc0 : ∀ (m c : Nat) (w' : World), m = 0 → Lib.Bytes w' b 0 s → Calls Tryd.prog 61 #[.slice (some ⟨b, 0, none⟩) m c, .bool true] w' fun e w'' => e = .returned (.bool true) ∧ w'' = w' := fun m c w' hm h => by
              subst hm
              exact hasEsc_any s true b 0 0 _ w' (by omega) hs h
            have hsz6 : s.size = k + 6 := by omega
            have HSZ6 := Lib.hid hsz6
            have hz6 : cap - (k + 6) = 0 := by omega
            have hz6I : (k : Int) + 6 ≤ (cap : Int) := by omega
            clear esc hsz6 hk6
            go_wp2_with (first
              | (go_at_call 64; refine (sur_any _ _).mono ?_; rw [hsur]; rintro e w9 ⟨rfl, hw9⟩; obtain rfl := hw9.symm)
              | (go_at_call 61; refine (esc0 _ _ _ (by have := HSZ6.out; omega) hS4).mono ?_; rintro e w9 ⟨rfl, hw9⟩; obtain rfl := hw9.symm))
            go_quiet (fail)
            go_wp2_with fail
            all_goals go_ret2
            exact CEnd.eof (K4.drewN _) he hT1
          · have hk6c : (k : Int) + 6 < (cap : Int) := by omega
            clear hk6
            go_wp2_with (first
              | (go_at_call 64; refine (sur_any _ _).mono ?_; rw [hsur]; rintro e w9 ⟨rfl, hw9⟩; obtain rfl := hw9.symm)
              | (go_at_call 61; refine (esc _ _ _ (by omega) hS4).mono ?_; rintro e w9 ⟨rfl, hw9⟩; obtain rfl := hw9.symm))
            go_quiet (fail)
            go_wp2_with fail
            all_goals go_ret2
            exact CEnd.eof (K4.drewN _) he hT1
    rw [if_neg h12] at uS92
    have h12I : (k : Int) + 6 + 6 ≤ (s.size : Int) := by omega
    obtain ⟨V2, hV2⟩ : ∃ V, hexPre s (k + 8) 4 = V := ⟨_, rfl⟩
    obtain ⟨Y1, hY1⟩ : ∃ Y, bAt s (k + 6) = Y := ⟨_, rfl⟩
    obtain ⟨Y2, hY2⟩ : ∃ Y, bAt s (k + 7) = Y := ⟨_, rfl⟩
    have hcy1 := cellZ hS4 (i := k + 6) (by omega) Y1 hY1
    have hcy2 := cellZ hS4 (i := k + 7) (by omega) Y2 hY2
    rw [hY1, hY2, hV2] at uS92
    cases hO2 : hexAll s (k + 8) 4
    case false =>
      as_aux_lemma =>
        have us : cS true s k = (0, 2) := by rw [uS92, if_neg (fun h => by rw [hO2] at h; cases h.2.2.1)]
        have hT1 := q.stop hk h34 us
        have p2 : ∀ (m c : Nat) (w' : World), Lib.Bytes w' b 0 s → m = 4 → Calls Tryd.prog 63 #[.slice (some ⟨b, k + 8, none⟩) m c] w' fun e w'' => e = .returned (.tuple #[.int .u16 0, .bool false]) ∧ w'' = w' := fun m c w' hS' hm => by
          have := parseHex_any s b (k + 8) m c w' hm (by omega) hs hS'
          rw [hO2] at this
          simpa using this
        clear hO2 hV2 hY1 hY2
        clear us uS92 h2 h6 h12
        go_wp2_with (first
          | (go_at_call 63; refine (p2 _ _ _ hS4 (by omega)).mono ?_; rintro e w9 ⟨rfl, hw9⟩; obtain rfl := hw9.symm)
          | (go_at_call 64; refine (sur_any _ _).mono ?_; rw [hsur]; rintro e w9 ⟨rfl, hw9⟩; obtain rfl := hw9.symm)
          | (go_at_call 70; refine (join_k K4 _).mono ?_; rintro e w5 ⟨rfl, K5⟩; have hS5 := K5.bytes)
          | (go_at_call 62; refine (badEsc_any s _ _ b _ _ (by omega) (by unfold maxLen; omega) hS5).mono ?_; rintro e w6 ⟨p, rfl, hb6⟩))
        all_goals go_ret2
        all_goals exact CEnd.bad (K5.below hb6) hT1
    have hb2' := hexPre_bd s (k + 8) 4 hO2
    rw [hV2] at hb2'
    have v20 : 0 ≤ V2 := hb2'.1
    have v21 : V2 < 65536 := by have := hb2'.2; simpa using this
    have p2 : ∀ (m c : Nat) (w' : World), Lib.Bytes w' b 0 s → m = 4 → Calls Tryd.prog 63 #[.slice (some ⟨b, k + 8, none⟩) m c] w' fun e w'' => e = .returned (.tuple #[.int .u16 V2, .bool true]) ∧ w'' = w' := fun m c w' hS' hm => by
      have := parseHex_any s b (k + 8) m c w' hm (by omega) hs hS'
      rw [hO2, hV2] at this
      simpa using this
    rw [hO2] at uS92
    clear hO2 hb2' hV2 hY1 hY2
    by_cases y1 : Y1 = 92
    case neg =>
      as_aux_lemma =>
        have us : cS true s k = (0, 2) := by rw [uS92, if_neg (fun h => y1 h.1)]
        have hT1 := q.stop hk h34 us
        have y1b : (Y1 != 92) = true := by simpa using y1
        clear y1
        clear us uS92 h2 h6 h12
        go_wp2_with (first
          | (go_at_call 63; refine (p2 _ _ _ hS4 (by omega)).mono ?_; rintro e w9 ⟨rfl, hw9⟩; obtain rfl := hw9.symm)
          | (go_at_call 64; refine (sur_any _ _).mono ?_; rw [hsur]; rintro e w9 ⟨rfl, hw9⟩; obtain rfl := hw9.symm)
          | (go_at_call 70; refine (join_k K4 _).mono ?_; rintro e w5 ⟨rfl, K5⟩; have hS5 := K5.bytes)
          | (go_at_call 62; refine (badEsc_any s _ _ b _ _ (by omega) (by unfold maxLen; omega) hS5).mono ?_; rintro e w6 ⟨p, rfl, hb6⟩))
        all_goals go_ret2
        all_goals exact CEnd.bad (K5.below hb6) hT1
    by_cases y2 : Y2 = 117
    case neg =>
      as_aux_lemma =>
        have us : cS true s k = (0, 2) := by rw [uS92, if_neg (fun h => y2 h.2.1)]
        have hT1 := q.stop hk h34 us
        have y2b : (Y2 != 117) = true := by simpa using y2
        subst y1
        clear y2
        clear us uS92 h2 h6 h12
        go_wp2_with (first
          | (go_at_call 63; refine (p2 _ _ _ hS4 (by omega)).mono ?_; rintro e w9 ⟨rfl, hw9⟩; obtain rfl := hw9.symm)
          | (go_at_call 64; refine (sur_any _ _).mono ?_; rw [hsur]; rintro e w9 ⟨rfl, hw9⟩; obtain rfl := hw9.symm)
          | (go_at_call 70; refine (join_k K4 _).mono ?_; rintro e w5 ⟨rfl, K5⟩; have hS5 := K5.bytes)
          | (go_at_call 62; refine (badEsc_any s _ _ b _ _ (by omega) (by unfold maxLen; omega) hS5).mono ?_; rintro e w6 ⟨p, rfl, hb6⟩))
        all_goals go_ret2
        all_goals exact CEnd.bad (K5.below hb6) hT1
    subst y1 y2
    obtain ⟨R, hR⟩ : ∃ R, pairR V1 V2 = R := ⟨_, rfl⟩
    have hpr : ∀ w' : World, Calls Tryd.prog 66 #[.int .i32 V1, .int .i32 V2] w' fun e w'' => e = .returned (.int .i32 R) ∧ w'' = w' := fun w' => hR ▸ pair_any V1 V2 w' v10 v11 v20 v21
    rw [hR] at uS92
    clear hR
    by_cases r5 : R = 65533
    case pos =>
      as_aux_lemma =>
        have us : cS true s k = (0, 2) := by rw [uS92, if_neg (fun h => h.2.2.2 r5)]
        have hT1 := q.stop hk h34 us
        subst r5
        clear us uS92 h2 h6 h12
        go_wp2_with (first
          | (go_at_call 63; refine (p2 _ _ _ hS4 (by omega)).mono ?_; rintro e w9 ⟨rfl, hw9⟩; obtain rfl := hw9.symm)
          | (go_at_call 64; refine (sur_any _ _).mono ?_; rw [hsur]; rintro e w9 ⟨rfl, hw9⟩; obtain rfl := hw9.symm)
          | (go_at_call 66; refine (hpr _).mono ?_; rintro e w9 ⟨rfl, hw9⟩; obtain rfl := hw9.symm)
          | (go_at_call 70; refine (join_k K4 _).mono ?_; rintro e w5 ⟨rfl, K5⟩; have hS5 := K5.bytes)
          | (go_at_call 62; refine (badEsc_any s _ _ b _ _ (by omega) (by unfold maxLen; omega) hS5).mono ?_; rintro e w6 ⟨p, rfl, hb6⟩))
        all_goals go_ret2
        all_goals exact CEnd.bad (K5.below hb6) hT1
    as_aux_lemma =>
      have us : cS true s k = (12, 0) := by rw [uS92, if_pos ⟨rfl, rfl, rfl, r5⟩]
      have r5b : (R == 65533) = false := by simpa using r5
      clear uS92 r5 h2 h6
      go_wp2_with (first
        | (go_at_call 63; refine (p2 _ _ _ hS4 (by omega)).mono ?_; rintro e w9 ⟨rfl, hw9⟩; obtain rfl := hw9.symm)
        | (go_at_call 64; refine (sur_any _ _).mono ?_; rw [hsur]; rintro e w9 ⟨rfl, hw9⟩; obtain rfl := hw9.symm)
        | (go_at_call 66; refine (hpr _).mono ?_; rintro e w9 ⟨rfl, hw9⟩; obtain rfl := hw9.symm))
      have Q := q.step hk h34 us (by omega) (by omega) K4
      go_roundg (g - 1)
      case measure => exact hG1
      case rel => exact ⟨k + 12, k, by first | rfl | go_num, by go_num, Q.2⟩
end Go.Proofs.YtokhmhbjbclcoaaDoor
