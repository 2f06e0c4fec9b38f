/- Unquoting a string: the walk of jsonwire.AppendUnquote. Lines by program (genur.py). -/
import Derived.Test.YtokhmhbjbclcoaaDoorUp
import Derived.Test.YtokhmhbjbclcoaaDoorWo
import Derived.Test.YtokhmhbjbclcoaaDoorEo
import Derived.Test.YtokhmhbjbclcoaaDoorEr
import Derived.Test.YtokhmhbjbclcoaaDoorBg
import Derived.Test.YtokhmhbjbclcoaaDoorQw
import Derived.Deep.CutBlock
import Derived.Deep.RegionWith
import Derived.Deep.DeepCutAuto
namespace Go.Proofs.YtokhmhbjbclcoaaDoor
set_option linter.unusedVariables false
set_option linter.unusedSimpArgs false
open Go.RowKit

/-- The error so far: none just if nothing was wrong. -/
def ErOk (bi : Bool) (er : Value) : Prop := (bi = false → er = .nilIface) ∧ (bi = true → ∃ T p, er = .iface T (.pointer (some p)))
/-- What holds at the head of each round of unquoting. -/
structure URel (B : Nat) (v : Value) (w : World) (s : ByteArray) (N : Nat) (T : List Int) (TI : Bool) (g : Nat) (j k : Nat) (v' : Value) (l' : List Int) (bi : Bool) (er : Value) (wr : World) : Prop where
  jk : j ≤ k
  ks : k ≤ s.size
  bs : Bs wr B v' l'
  ap : Ap v w v' wr
  len : l'.length + (k - j) ≤ N + 4 * k
  fuel : s.size - k ≤ g
  out : Aside (l' ++ sub s j k ++ (uO s g k).1 = T)
  bad : Aside ((bi || (uO s g k).2) = TI)
  er : ErOk bi er

/-- A character that stands for itself. -/
theorem URel.keep {B v w s N T TI g j k v' l' bi er wr} (q : URel B v w s N T TI g j k v' l' bi er wr) (hk : k < s.size) (h34 : bAt s k ≠ 34) {d : Nat} (hd : (uS s k).2.1 = d) (hd0 : d ≠ 0) (hc : (uS s k).1 = sub s k (k + d)) (hb : (uS s k).2.2 = false) {wr' : World} (hw : Below wr.heap.size wr wr') :
    g - 1 < g ∧ URel B v w s N T TI (g - 1) j (k + d) v' l' bi er wr' := by
  obtain ⟨h1, h2, h3, h4, h5⟩ := u_step q.out q.bad hk q.fuel h34 d hd hd0
  have := q.jk
  refine ⟨h1, by omega, h3, q.bs.below hw, q.ap.trans (Ap.of_below _ hw), by have := q.len; omega, h2, ?_, ?_, q.er⟩
  · show l' ++ sub s j (k + d) ++ (uO s (g - 1) (k + d)).1 = T
    rw [← sub_app s q.jk (by omega : k ≤ k + d), ← hc]
    have h4' : l' ++ sub s j k ++ ((uS s k).1 ++ (uO s (g - 1) (k + d)).1) = T := h4
    rw [← h4']; simp [List.append_assoc]
  · show (bi || (uO s (g - 1) (k + d)).2) = TI
    have h5' : (bi || ((uS s k).2.2 || (uO s (g - 1) (k + d)).2)) = TI := h5
    rw [hb] at h5'; simpa using h5'
/-- A character for which something else is put. -/
theorem URel.put {B v w s N T TI g j k v' l' bi er wr} (q : URel B v w s N T TI g j k v' l' bi er wr) (hk : k < s.size) (h34 : bAt s k ≠ 34) {d : Nat} (hd : (uS s k).2.1 = d) (hd0 : d ≠ 0) {c : List Int} (hc : (uS s k).1 = c) {bad : Bool} (hb : (uS s k).2.2 = bad)
    {v'' : Value} {wr' : World} {er' : Value} (hB : Bs wr' B v'' (l' ++ sub s j k ++ c)) (ha : Ap v' wr v'' wr') (he : ErOk (bi || bad) er') :
    g - 1 < g ∧ URel B v w s N T TI (g - 1) (k + d) (k + d) v'' (l' ++ sub s j k ++ c) (bi || bad) er' wr' := by
  obtain ⟨h1, h2, h3, h4, h5⟩ := u_step q.out q.bad hk q.fuel h34 d hd hd0
  have hf := (uS_fit s k hk).2.1
  have := q.jk
  refine ⟨h1, Nat.le_refl _, h3, hB, q.ap.trans ha, ?_, h2, ?_, ?_, he⟩
  · have := q.len
    rw [hc] at hf
    simp only [List.length_append, sub_len]
    omega
  · show l' ++ sub s j k ++ c ++ sub s (k + d) (k + d) ++ (uO s (g - 1) (k + d)).1 = T
    have h4' : l' ++ sub s j k ++ ((uS s k).1 ++ (uO s (g - 1) (k + d)).1) = T := h4
    rw [← h4', hc, sub_self]; simp [List.append_assoc]
  · show (bi || bad || (uO s (g - 1) (k + d)).2) = TI
    have h5' : (bi || ((uS s k).2.2 || (uO s (g - 1) (k + d)).2)) = TI := h5
    rw [← h5', hb, Bool.or_assoc]
/-- The end where reading stops. -/
theorem uStop {B v w s N T TI g j k v' l' bi er wr} (q : URel B v w s N T TI g j k v' l' bi er wr) (hk : k < s.size) (h34 : bAt s k ≠ 34) {c : List Int} (hs : uS s k = (c, 0, true)) {v'' : Value} {w' : World} {er' : Value} (hB : Bs w' B v'' (l' ++ sub s j k ++ c)) (ha : Ap v' wr v'' w') (he : ∃ T p, er' = .iface T (.pointer (some p))) :
    QEnd B v w T TI (.returned (.tuple #[v'', er'])) w' := by
  obtain ⟨h1, h2⟩ := u_stop q.out q.bad hk q.fuel h34 (by rw [hs])
  rw [hs] at h1
  exact ⟨v'', er', rfl, h1 ▸ hB, q.ap.trans ha, (fun h => by rw [h2] at h; cases h), fun _ => he⟩
theorem uEnd {B v w s N T TI g j k v' l' bi er wr} (q : URel B v w s N T TI g j k v' l' bi er wr) (hk : ¬ k < s.size) {v'' : Value} {w' : World} {er' : Value} (hB : Bs w' B v'' (l' ++ sub s j k)) (ha : Ap v' wr v'' w') (he : ∃ T p, er' = .iface T (.pointer (some p))) :
    QEnd B v w T TI (.returned (.tuple #[v'', er'])) w' := by
  obtain ⟨h1, h2⟩ := u_end q.out q.bad hk
  exact ⟨v'', er', rfl, h1 ▸ hB, q.ap.trans ha, (fun h => by rw [h2] at h; cases h), fun _ => he⟩
theorem uQuote {B v w s N T TI g j k v' l' bi er wr} (q : URel B v w s N T TI g j k v' l' bi er wr) (hk : k < s.size) (h34 : bAt s k = 34) {v'' : Value} {w' : World} {er' : Value} (hB : Bs w' B v'' (l' ++ sub s j k)) (ha : Ap v' wr v'' w') (he : ErOk (bi || decide (k + 1 < s.size)) er') :
    QEnd B v w T TI (.returned (.tuple #[v'', er'])) w' := by
  obtain ⟨h1, h2⟩ := u_quote q.out q.bad hk q.fuel h34
  rw [← h2] at he
  exact ⟨v'', er', rfl, h1 ▸ hB, q.ap.trans ha, he.1, he.2⟩
theorem sub_len_of (s : ByteArray) (j k : Nat) {m : Nat} (h : k - j = m) : (sub s j k).length = m := (sub_len s j k).trans h
theorem plain_step {s : ByteArray} {k : Nat} (h : plainB (bAt s k) = true) : bAt s k ≠ 34 ∧ (uS s k).2.1 = 1 ∧ (uS s k).1 = sub s k (k + 1) ∧ (uS s k).2.2 = false := by
  unfold plainB at h
  simp at h
  have e : uS s k = ([bAt s k], 1, false) := by unfold uS; rw [if_neg h.1.2, if_neg (by omega), if_pos (by omega)]
  rw [e, sub_one]
  exact ⟨h.2, rfl, rfl, rfl⟩

set_option maxRecDepth 100000 in
set_option maxHeartbeats 40000000 in
theorem unqW (B : Nat) (v : Value) (l : List Int) (s : ByteArray) (b cap : Nat) (w : World) (hv : Bs w B v l) (hB : B ≤ w.heap.size) (hs0 : s.size ≤ 1000000000) (hl : l.length ≤ 10000000000) (hcap : s.size ≤ cap) (hcm : cap ≤ maxLen)
    (hS : Lib.Bytes w b 0 s) (hbn : v.ownBlock ≠ some b) (hbl : b < w.heap.size) (hT : TabsB B w) (hU : EofB B w) (hI : InvB B w) :
    Calls Tryd.prog 42 #[v, .slice (some ⟨b, 0, none⟩) s.size cap] w (QEnd B v w (l ++ (uq s).1) (uq s).2) := by
  obtain ⟨i0, hi, hz0, hz1, hz2⟩ := info_parts Tryd.infoU8
  have hs : s.size ≤ 100000000000 := by omega
  unfold maxLen at hcm
  obtain ⟨T, HT⟩ : ∃ T, Hid (l ++ (uq s).1 = T) := ⟨_, Lib.hid rfl⟩
  obtain ⟨TI, HTI⟩ : ∃ TI, Hid ((uq s).2 = TI) := ⟨_, Lib.hid rfl⟩
  rw [HT.out, HTI.out]
  have eofAt : ∀ w' : World, Below B w w' → ∃ p, w'.cell? ⟨0, 0, none⟩ = some (.iface 153 (.pointer (some p))) := fun w' h => (hU.below h).2
  go_enter Tryd.func42, Tryd.ntmps42
  go_upto_region 2 with (go_at_call 58; refine (grow_x B v l s.size _ rfl _ hv hB (by omega)).mono ?_; rintro e w1 ⟨v1, rfl, hb1, ha1⟩)
  have hB1 := Nat.le_trans hB ha1.size
  have hS1 := bytes_block hS (ha1.block hbl hbn)
  have hbel1 := ha1.below hv hB
  by_cases h0 : 0 < s.size
  case neg =>
    as_aux_lemma =>
      obtain ⟨pe, he⟩ := eofAt w1 hbel1
      have huq : uq s = ([], true) := by unfold uq; rw [if_pos (by omega)]
      rw [huq] at HT HTI
      have hz : s.size = 0 := by omega
      go_wp2_with fail
      go_quiet (fail)
      go_wp2_with fail
      all_goals go_ret2
      refine ⟨_, _, rfl, ?_, ha1.trans (Ap.drewN _ _ _), fun h => ?_, fun _ => ⟨_, _, rfl⟩⟩
      · rw [← HT.out, List.append_nil]; exact hb1.drewN _
      · rw [← HTI.out] at h; cases h
  obtain ⟨X0, hX0⟩ : ∃ X0, bAt s 0 = X0 := ⟨_, rfl⟩
  have hc0 := cellZ hS1 h0 X0 hX0
  by_cases h34 : X0 = 34
  case neg =>
    as_aux_lemma =>
      have huq : uq s = ([], true) := by unfold uq; rw [if_neg (by omega), hX0, if_neg h34]
      rw [huq] at HT HTI
      have h34b : (X0 == 34) = false := by simpa using h34
      clear hX0
      go_wp2_with (go_at_call 50; refine (badChar_any s 0 _ b _ _ _ rfl h0 (by unfold maxLen; omega) (by omega) (hT.below hbel1).1 hS1).mono ?_; rintro e w2 ⟨p, rfl, hb2⟩)
      all_goals go_ret2
      refine ⟨_, _, rfl, ?_, ha1.trans (Ap.of_below _ hb2), fun h => ?_, fun _ => ⟨_, _, rfl⟩⟩
      · rw [← HT.out, List.append_nil]; exact hb1.below hb2
      · rw [← HTI.out] at h; cases h
  have huq : uq s = uO s s.size 1 := by unfold uq; rw [if_neg (by omega), hX0, if_pos h34]
  rw [huq] at HT HTI
  have q0 : URel B v w s l.length T TI s.size 1 1 v1 l false .nilIface w1 :=
    ⟨Nat.le_refl _, by omega, hb1, ha1, by omega, by omega, by rw [sub_self, List.append_nil]; exact HT.out, by rw [Bool.false_or]; exact HTI.out, fun _ => rfl, fun h => by cases h⟩
  clear HT HTI huq hX0 eofAt
  subst h34
  have h0b : ((s.size : Int) == 0) = false := beq_eq_false_iff_ne.2 (by omega)
  go_wp2_with fail
  clear h0b
  go_loopg [0, 5, 6, 7] s.size (fun g d er i n wr => ∃ (v' : Value) (l' : List Int) (j k : Nat) (bi : Bool) (er' : Value), v' = d ∧ er' = er ∧ i = .int .i64 j ∧ n = .int .i64 k ∧ URel B v w s l.length T TI g j k v' l' bi er' wr)
  case atStart => exact ⟨_, _, 1, 1, false, _, rfl, rfl, rfl, rfl, q0⟩
  case round =>
    clear q0 hc0 hb1 ha1 hS1 hbel1 hB1
    obtain ⟨v', l', j, k0, bi, er, rfl, rfl, rfl, rfl, q⟩ := hrel
    obtain ⟨G, hG⟩ : ∃ G, G = gk := ⟨_, rfl⟩
    rw [← hG] at q
    obtain ⟨qjk, qks, qbs, qap, qlen, qf, qo, qb, qer⟩ := id q
    have hbelow := qap.below hv hB
    have hTr := hT.below hbelow
    have hUr := hU.below hbelow
    have hIr := hI.below hbelow
    have hSr := bytes_block hS (qap.block hbl hbn)
    have hBr : B ≤ wr.heap.size := Nat.le_trans hB qap.size
    have hblr : b < wr.heap.size := Nat.lt_of_lt_of_le hbl qap.size
    have hbnr := qap.ne hbl hbn
    have eofAt : ∀ {w' : World}, Below B w w' → ∃ p, w'.cell? ⟨0, 0, none⟩ = some (.iface 153 (.pointer (some p))) := fun h => (hU.below h).2
    by_cases hk0 : k0 < s.size
    case neg =>
      as_aux_lemma =>
        have hjk : (j : Int) ≤ (k0 : Int) := by have := q.jk; omega
        have hkc : (k0 : Int) ≤ (cap : Int) := by have := q.ks; omega
        have hk1 : (s.size : Int) ≤ (k0 : Int) := by omega
        have qks2 := q.ks
        have qbs2 := q.bs
        clear qo qb
        by_cases hjc : j = cap
        · subst hjc
          have HSJ := Lib.hid (show k0 = j by have := q.jk; omega)
          clear hjk hkc
          go_wp2_with ((at_builtin; refine wpList_append_bs _ rfl (.tmp 341) (.tmp 345) 46 46 (by rfl) B i0 Tryd.underlying46 hi hz0 hz1 hz2 _ _ rfl qbs2 _ (sub s j k0) rfl (sub_by s j k0) (src_cells Tryd.underlying46 _ _ _ _ (sub_len_of _ _ _ (by have := HSJ.out; omega)) _ _ hz1 (.inl (by have := HSJ.out; omega))) (by rw [sub_len]; omega) (by first | assumption | omega | (simp; omega)) ?_; intro v3 w3 hb3 ha3; obtain ⟨pe, he⟩ := eofAt ((q.ap.trans ha3).below hv hB)))
          go_quiet (fail)
          go_wp2_with fail
          all_goals go_ret2
          exact uEnd q hk0 (hb3.drewN _) (ha3.trans (Ap.drewN _ _ _)) ⟨_, _, rfl⟩
        · have hjc2 : (j : Int) < (cap : Int) := by omega
          clear hjc
          go_wp2_with ((at_builtin; refine wpList_append_bs _ rfl (.tmp 341) (.tmp 345) 46 46 (by rfl) B i0 Tryd.underlying46 hi hz0 hz1 hz2 _ _ rfl qbs2 _ (sub s j k0) rfl (sub_by s j k0) (src_cells Tryd.underlying46 _ _ _ _ (sub_len s j k0) _ _ hz1 (.inr ⟨b, j, rfl, sub_cells hSr qks2⟩)) (by rw [sub_len]; omega) (by first | assumption | omega | (simp; omega)) ?_; intro v3 w3 hb3 ha3; obtain ⟨pe, he⟩ := eofAt ((q.ap.trans ha3).below hv hB)))
          go_quiet (fail)
          go_wp2_with fail
          all_goals go_ret2
          exact uEnd q hk0 (hb3.drewN _) (ha3.trans (Ap.drewN _ _ _)) ⟨_, _, rfl⟩
    go_upto_block 3 with fail
    go_cut [7] from 36 to 340 (fun n wx => ∃ k g : Nat, n = .int .i64 (k : Int) ∧ wr = wx ∧ g ≤ G ∧ URel B v w s l.length T TI g j k v' l' bi er wr ∧ (k < s.size → plainB (bAt s k) = false))
    case first =>
      as_aux_lemma =>
        clear qo qb hUr hIr eofAt
        go_wp2_with fail
        go_loopg [7] (s.size - k0) (fun g2 n wx => ∃ k g : Nat, n = .int .i64 (k : Int) ∧ wr = wx ∧ g ≤ G ∧ URel B v w s l.length T TI g j k v' l' bi er wr ∧ s.size - k ≤ g2)
        case atStart => exact ⟨k0, G, rfl, rfl, Nat.le_refl _, q, Nat.le_refl _⟩
        case round =>
          clear q qjk qks qlen qf hk0
          obtain ⟨k, g, rfl, rfl, hgk, q, hg2⟩ := hrel
          have hkc : (k : Int) ≤ (cap : Int) := by have := q.ks; omega
          by_cases hk : k < s.size
          · obtain ⟨X, hX⟩ : ∃ X, bAt s k = X := ⟨_, rfl⟩
            have hc := cellZ hSr hk X hX
            cases hp : plainB X
            · have hpb := Lib.hid (hX.symm ▸ hp : plainB (bAt s k) = false)
              clear hX
              go_wp2_with (go_at_call 59; refine (plain_any _ _).mono ?_; rintro e w4 ⟨rfl, rfl⟩)
              go_meet
              exact ⟨k, g, rfl, rfl, hgk, q, fun _ => hpb.out⟩
            · obtain ⟨p1, p2, p3, p4⟩ := plain_step (s := s) (k := k) (by rw [hX]; exact hp)
              have Q := q.keep hk p1 p2 (by omega) p3 p4 (Below.refl _ _)
              clear hX p1 p2 p3 p4
              go_wp2_with (go_at_call 59; refine (plain_any _ _).mono ?_; rintro e w4 ⟨rfl, rfl⟩)
              go_roundg (gk - 1)
              case measure => omega
              case rel => exact ⟨k + 1, g - 1, by go_num, rfl, by omega, Q.2, by omega⟩
          · have hk1 : (s.size : Int) ≤ (k : Int) := by omega
            go_wp2_with fail
            go_meet
            exact ⟨k, g, rfl, rfl, hgk, q, fun h => absurd h hk⟩
    case rest =>
    obtain ⟨k, g, rfl, rfl, hgk, q, hnp⟩ := hcut
    clear qjk qks qlen qf qo qb qer hk0 qbs qap
    obtain ⟨qjk, qks, qbs, qap, qlen, qf, qo, qb, qer⟩ := id q
    by_cases hk : k < s.size
    case neg =>
      as_aux_lemma =>
        have hjk : (j : Int) ≤ (k : Int) := by have := q.jk; omega
        have hkc : (k : Int) ≤ (cap : Int) := by have := q.ks; omega
        have hk1 : (s.size : Int) ≤ (k : Int) := by omega
        have qks2 := q.ks
        have qbs2 := q.bs
        clear qo qb
        clear hnp
        by_cases hjc : j = cap
        · subst hjc
          have HSJ := Lib.hid (show k = j by have := q.jk; omega)
          clear hjk hkc
          go_wp2_with ((at_builtin; refine wpList_append_bs _ rfl (.tmp 64) (.tmp 68) 46 46 (by rfl) B i0 Tryd.underlying46 hi hz0 hz1 hz2 _ _ rfl qbs2 _ (sub s j k) rfl (sub_by s j k) (src_cells Tryd.underlying46 _ _ _ _ (sub_len_of _ _ _ (by have := HSJ.out; omega)) _ _ hz1 (.inl (by have := HSJ.out; omega))) (by rw [sub_len]; omega) (by first | assumption | omega | (simp; omega)) ?_; intro v3 w3 hb3 ha3; obtain ⟨pe, he⟩ := eofAt ((q.ap.trans ha3).below hv hB)))
          go_quiet (fail)
          go_wp2_with fail
          all_goals go_ret2
          exact uEnd q hk (hb3.drewN _) (ha3.trans (Ap.drewN _ _ _)) ⟨_, _, rfl⟩
        · have hjc2 : (j : Int) < (cap : Int) := by omega
          clear hjc
          go_wp2_with ((at_builtin; refine wpList_append_bs _ rfl (.tmp 64) (.tmp 68) 46 46 (by rfl) B i0 Tryd.underlying46 hi hz0 hz1 hz2 _ _ rfl qbs2 _ (sub s j k) rfl (sub_by s j k) (src_cells Tryd.underlying46 _ _ _ _ (sub_len s j k) _ _ hz1 (.inr ⟨b, j, rfl, sub_cells hSr qks2⟩)) (by rw [sub_len]; omega) (by first | assumption | omega | (simp; omega)) ?_; intro v3 w3 hb3 ha3; obtain ⟨pe, he⟩ := eofAt ((q.ap.trans ha3).below hv hB)))
          go_quiet (fail)
          go_wp2_with fail
          all_goals go_ret2
          exact uEnd q hk (hb3.drewN _) (ha3.trans (Ap.drewN _ _ _)) ⟨_, _, rfl⟩
    obtain ⟨X, hX⟩ : ∃ X, bAt s k = X := ⟨_, rfl⟩
    have hc := cellZ hSr hk X hX
    have hX0 : 0 ≤ X := by rw [← hX]; exact bAt_nonneg _ _
    have hX1 : X ≤ 255 := by rw [← hX]; exact bAt_le _ _
    have hkI : (k : Int) < (s.size : Int) := by omega
    have hkc : (k : Int) < (cap : Int) := by omega
    have hjc : (j : Int) < (cap : Int) := by omega
    have hjk : (j : Int) ≤ (k : Int) := by omega
    have hpl : plainB X = false := by rw [← hX]; exact hnp hk
    clear hnp qo qb
    have hG1 : g - 1 < gk := by omega
    by_cases x34 : X = 34
    case pos =>
      as_aux_lemma =>
        subst x34
        have x34p : bAt s k = 34 := hX
        clear hX hpl
        by_cases hk2 : k + 1 < s.size
        · have hk2I : (k : Int) + 1 < (s.size : Int) := by omega
          go_wp2_with (first
            | (at_builtin; refine wpList_append_bs _ rfl (.tmp 77) (.tmp 81) 46 46 (by rfl) B i0 Tryd.underlying46 hi hz0 hz1 hz2 _ _ rfl qbs _ (sub s j k) rfl (sub_by s j k) (src_cells Tryd.underlying46 _ _ _ _ (sub_len s j k) _ _ hz1 (.inr ⟨b, j, rfl, sub_cells hSr qks⟩)) (by first | omega | (simp; omega) | (simp only [List.length_append, sub_len, bl_len, List.length_cons, List.length_nil]; omega)) (by first | assumption | omega | (simp; omega)) ?_; intro v3 w3 hb3 ha3; have hbe3 := (qap.trans ha3).below hv hB; have hS3 := bytes_block hSr (ha3.block hblr hbnr))
            | (go_at_call 50; refine (badChar_any s (k + 1) _ b _ _ _ (by omega) hk2 (by unfold maxLen; omega) (by omega) (hT.below hbe3).1 hS3).mono ?_; rintro e w4 ⟨p, rfl, hb4⟩))
          all_goals go_ret2
          exact uQuote q hk x34p (hb3.below hb4) (ha3.trans (Ap.of_below _ hb4)) (by rw [decide_eq_true hk2, Bool.or_true]; exact ⟨(fun h => by cases h), fun _ => ⟨_, _, rfl⟩⟩)
        · have hk2I : (s.size : Int) ≤ (k : Int) + 1 := by omega
          go_wp2_with (at_builtin; refine wpList_append_bs _ rfl (.tmp 77) (.tmp 81) 46 46 (by rfl) B i0 Tryd.underlying46 hi hz0 hz1 hz2 _ _ rfl qbs _ (sub s j k) rfl (sub_by s j k) (src_cells Tryd.underlying46 _ _ _ _ (sub_len s j k) _ _ hz1 (.inr ⟨b, j, rfl, sub_cells hSr qks⟩)) (by first | omega | (simp; omega) | (simp only [List.length_append, sub_len, bl_len, List.length_cons, List.length_nil]; omega)) (by first | assumption | omega | (simp; omega)) ?_; intro v3 w3 hb3 ha3)
          all_goals go_ret2
          exact uQuote q hk x34p hb3 ha3 (by rw [decide_eq_false hk2, Bool.or_false]; exact qer)
    have h34 : bAt s k ≠ 34 := by rw [hX]; exact x34
    have x34b : (X == 34) = false := by simpa using x34
    have runeA : X < 128 → (runeN s k : Int) = X ∧ stepN s k = 1 := fun h => by
      have hu := (uw_one s k hk).1 (by rw [hX]; exact h)
      exact ⟨by unfold runeN; rw [if_pos hu, bN_eq, hX], by unfold stepN; rw [hu]; rfl⟩
    have decA : ∀ (r : Int) (d : Nat), (runeN s k : Int) = r → stepN s k = d → Calls Tryd.prog 60 #[.slice (some ⟨b, k, none⟩) (s.size - k) (cap - k)] wr fun e w' => e = .returned (.tuple #[.int .i32 r, .int .i64 d]) ∧ Below wr.heap.size wr w' := fun r d hr hd =>
      decode_r s k _ b _ _ rfl hk hTr.1 hSr r d hr hd
    by_cases x92 : X = 92
    case neg =>
      by_cases x32 : X < 32
      case pos =>
        as_aux_lemma =>
          obtain ⟨hr1, hd1⟩ := runeA (by omega)
          have dec := decA _ _ hr1 hd1
          have us : uS s k = ([], 0, true) := by unfold uS; rw [hX, if_neg x92, if_pos x32]
          have x92b : (X == 92) = false := by simpa using x92
          have x65 : (X == 65533) = false := by simp; omega
          clear runeA decA hpl hr1 hd1 hX
          go_wp2_with (first
            | (go_at_call 60; refine dec.mono ?_; rintro e w2 ⟨rfl, hb2⟩; have hS2 := bytes_block hSr (hb2.block b hblr); have qbs2 := qbs.below hb2; have hB2 := Nat.le_trans hBr hb2.size)
            | (at_builtin; refine wpList_append_bs _ rfl (.tmp 330) (.tmp 334) 46 46 (by rfl) B i0 Tryd.underlying46 hi hz0 hz1 hz2 _ _ rfl qbs2 _ (sub s j k) rfl (sub_by s j k) (src_cells Tryd.underlying46 _ _ _ _ (sub_len s j k) _ _ hz1 (.inr ⟨b, j, rfl, sub_cells hS2 qks⟩)) (by first | omega | (simp; omega) | (simp only [List.length_append, sub_len, bl_len, List.length_cons, List.length_nil]; omega)) (by first | assumption | omega | (simp; omega)) ?_; intro v3 w3 hb3 ha3; have hA3 := (Ap.of_below v' hb2).trans ha3; have hbe3 := (qap.trans hA3).below hv hB; have hS3 := bytes_block hS2 (ha3.block (Nat.lt_of_lt_of_le hblr hb2.size) hbnr); have hB3 := Nat.le_trans hB (qap.trans hA3).size)
            | (go_at_call 50; refine (badChar_any s k _ b _ _ _ rfl hk (by unfold maxLen; omega) (by omega) (hT.below hbe3).1 hS3).mono ?_; rintro e w4 ⟨p, rfl, hb4⟩))
          all_goals go_ret2
          exact uStop q hk h34 us (by rw [List.append_nil]; exact hb3.below hb4) (hA3.trans (Ap.of_below _ hb4)) ⟨_, _, rfl⟩
      have x128 : 128 ≤ X := by
        unfold plainB at hpl
        simp at hpl
        by_cases h : X < 128
        · exact absurd (hpl h (by omega) x92) x34
        · omega
      have x92b : (X == 92) = false := by simpa using x92
      by_cases hu : uw s k = 0
      case neg =>
        as_aux_lemma =>
          obtain ⟨d, hd⟩ : ∃ d, stepN s k = d := ⟨_, rfl⟩
          obtain ⟨r, hr⟩ : ∃ r : Int, (runeN s k : Int) = r := ⟨_, rfl⟩
          have dec := decA _ _ hr hd
          have hst := step_fits s k hk
          have hdu : uw s k = d := by rw [← hd]; unfold stepN; rw [if_neg hu]
          have hd1 : uw s k ≠ 1 := fun h => by have := (uw_one s k hk).2 h; rw [hX] at this; omega
          rw [hd] at hst
          rw [hdu] at hd1
          have us : uS s k = (sub s k (k + d), d, false) := by unfold uS; rw [hX, if_neg x92, if_neg x32, if_neg (by omega), if_neg hu, hdu]
          have hd2 : 1 < (d : Int) := by omega
          have hd4 : (d : Int) ≤ 4 := by omega
          clear runeA decA hpl hr hd hX hu hdu hd1
          go_wp2_with (first
            | (go_at_call 60; refine dec.mono ?_; rintro e w2 ⟨rfl, hb2⟩; have hS2 := bytes_block hSr (hb2.block b hblr); have qbs2 := qbs.below hb2; have hB2 := Nat.le_trans hBr hb2.size))
          have Q := q.keep hk h34 (d := d) (by rw [us]) (by omega) (by rw [us]) (by rw [us]) hb2
          go_roundg (g - 1)
          case measure => exact hG1
          case rel => exact ⟨_, _, j, k + d, _, _, rfl, rfl, rfl, by go_num, Q.2⟩
      as_aux_lemma =>
        have hbad := (bad_iff s k).2 hu
        have dec := decA 65533 1 hbad.1 hbad.2
        have hxf : 128 ≤ bAt s k := by rw [hX]; exact x128
        have us0 : uS s k = if fullB s k = true then (brk, 1, true) else ([], 0, true) := by unfold uS; rw [hX, if_neg x92, if_neg x32, if_neg (by omega), if_pos hu]
        cases hf : fullB s k
        · have us : uS s k = ([], 0, true) := by rw [us0, hf]; rfl
          clear runeA decA hpl hX us0 hbad
          have HXF := Lib.hid hxf
          clear hxf
          go_wp2_with (first
            | (go_at_call 60; refine dec.mono ?_; rintro e w2 ⟨rfl, hb2⟩; have hS2 := bytes_block hSr (hb2.block b hblr); have qbs2 := qbs.below hb2; have hB2 := Nat.le_trans hBr hb2.size)
            | (at_builtin; refine wpList_append_bs _ rfl (.tmp 307) (.tmp 311) 46 46 (by rfl) B i0 Tryd.underlying46 hi hz0 hz1 hz2 _ _ rfl qbs2 _ (sub s j k) rfl (sub_by s j k) (src_cells Tryd.underlying46 _ _ _ _ (sub_len s j k) _ _ hz1 (.inr ⟨b, j, rfl, sub_cells hS2 qks⟩)) (by first | omega | (simp; omega) | (simp only [List.length_append, sub_len, bl_len, List.length_cons, List.length_nil]; omega)) (by first | assumption | omega | (simp; omega)) ?_; intro v3 w3 hb3 ha3; have hA3 := (Ap.of_below v' hb2).trans ha3; have hbe3 := (qap.trans hA3).below hv hB; have hS3 := bytes_block hS2 (ha3.block (Nat.lt_of_lt_of_le hblr hb2.size) hbnr); have hB3 := Nat.le_trans hB (qap.trans hA3).size; obtain ⟨pe, he⟩ := eofAt hbe3)
            | (go_at_call 67; refine (full_any B s b k _ _ _ rfl hk hs (hT.below hbe3) hS3 HXF.out).mono ?_; rw [hf]; rintro e w4 ⟨rfl, hb4⟩; obtain ⟨pe4, he4⟩ := eofAt (hbe3.trans (hb4.mono hB3))))
          go_quiet (fail)
          go_wp2_with fail
          all_goals go_ret2
          exact uStop q hk h34 us (by rw [List.append_nil]; exact (hb3.below hb4).drewN _) ((hA3.trans (Ap.of_below _ hb4)).trans (Ap.drewN _ _ _)) ⟨_, _, rfl⟩
        · have us : uS s k = (brk, 1, true) := by rw [us0, hf]; rfl
          clear runeA decA hpl hX us0 hbad
          have HXF := Lib.hid hxf
          clear hxf
          go_wp2_with (first
            | (go_at_call 60; refine dec.mono ?_; rintro e w2 ⟨rfl, hb2⟩; have hS2 := bytes_block hSr (hb2.block b hblr); have qbs2 := qbs.below hb2; have hB2 := Nat.le_trans hBr hb2.size)
            | (at_builtin; refine wpList_append_bs _ rfl (.tmp 307) (.tmp 311) 46 46 (by rfl) B i0 Tryd.underlying46 hi hz0 hz1 hz2 _ _ rfl qbs2 _ (sub s j k) rfl (sub_by s j k) (src_cells Tryd.underlying46 _ _ _ _ (sub_len s j k) _ _ hz1 (.inr ⟨b, j, rfl, sub_cells hS2 qks⟩)) (by first | omega | (simp; omega) | (simp only [List.length_append, sub_len, bl_len, List.length_cons, List.length_nil]; omega)) (by first | assumption | omega | (simp; omega)) ?_; intro v3 w3 hb3 ha3; have hA3 := (Ap.of_below v' hb2).trans ha3; have hbe3 := (qap.trans hA3).below hv hB; have hS3 := bytes_block hS2 (ha3.block (Nat.lt_of_lt_of_le hblr hb2.size) hbnr); have hB3 := Nat.le_trans hB (qap.trans hA3).size)
            | (go_at_call 67; refine (full_any B s b k _ _ _ rfl hk hs (hT.below hbe3) hS3 HXF.out).mono ?_; rw [hf]; rintro e w4 ⟨rfl, hb4⟩; have hbs4 := hb3.below hb4; have hB4 := Nat.le_trans hB3 hb4.size; have hbe4 := hbe3.trans (hb4.mono hB3))
            | (at_builtin; refine wpList_append_bs _ rfl (.tmp 320) (.const (.string ⟨#[239, 191, 189]⟩)) 46 9 (by rfl) B i0 Tryd.underlying46 hi hz0 hz1 hz2 _ _ rfl hbs4 _ [239, 191, 189] rfl (by intro x hx; simp at hx; omega) (src_strL Tryd.underlying9 ⟨#[239, 191, 189]⟩ [239, 191, 189] rfl _ _ hz1) (by first | omega | (simp; omega) | (simp only [List.length_append, sub_len, bl_len, List.length_cons, List.length_nil]; omega)) (by first | assumption | omega | (simp; omega)) ?_; intro v5 w5 hb5 ha5; have hA5 := (hA3.trans (Ap.of_below _ hb4)).trans ha5; obtain ⟨Te, pe, he⟩ := (hI.below ((qap.trans hA5).below hv hB)).2))
          have Q := q.put hk h34 (d := 1) (by rw [us]) (by omega) (c := brk) (by rw [us]) (bad := true) (by rw [us]) hb5 hA5 (er' := .iface Te (.pointer (some pe))) (by rw [Bool.or_true]; exact ⟨(fun h => by cases h), fun _ => ⟨_, _, rfl⟩⟩)
          go_roundg (g - 1)
          case measure => exact hG1
          case rel => exact ⟨_, _, k + 1, k + 1, _, _, rfl, rfl, by go_num, by go_num, Q.2⟩
    subst x92
    obtain ⟨hr1, hd1⟩ := runeA (by omega)
    have dec := decA _ _ hr1 hd1
    clear runeA decA hpl hX0 hX1
    by_cases h2 : s.size < k + 2
    case pos =>
      as_aux_lemma =>
        have us : uS s k = ([], 0, true) := by unfold uS; rw [hX, if_pos rfl, if_pos h2]
        have h2I : (s.size : Int) < (k : Int) + 2 := by omega
        clear hX
        go_wp2_with (first
          | (go_at_call 60; refine dec.mono ?_; rintro e w2 ⟨rfl, hb2⟩; have hS2 := bytes_block hSr (hb2.block b hblr); have qbs2 := qbs.below hb2; have hB2 := Nat.le_trans hBr hb2.size)
          | (at_builtin; refine wpList_append_bs _ rfl (.tmp 112) (.tmp 116) 46 46 (by rfl) B i0 Tryd.underlying46 hi hz0 hz1 hz2 _ _ rfl qbs2 _ (sub s j k) rfl (sub_by s j k) (src_cells Tryd.underlying46 _ _ _ _ (sub_len s j k) _ _ hz1 (.inr ⟨b, j, rfl, sub_cells hS2 qks⟩)) (by first | omega | (simp; omega) | (simp only [List.length_append, sub_len, bl_len, List.length_cons, List.length_nil]; omega)) (by first | assumption | omega | (simp; omega)) ?_; intro v3 w3 hb3 ha3; have hA3 := (Ap.of_below v' hb2).trans ha3; have hbe3 := (qap.trans hA3).below hv hB; have hS3 := bytes_block hS2 (ha3.block (Nat.lt_of_lt_of_le hblr hb2.size) hbnr); have hB3 := Nat.le_trans hB (qap.trans hA3).size; obtain ⟨pe, he⟩ := eofAt hbe3))
        go_quiet (fail)
        go_wp2_with fail
        all_goals go_ret2
        exact uStop q hk h34 us (by rw [List.append_nil]; exact hb3.drewN _) (hA3.trans (Ap.drewN _ _ _)) ⟨_, _, rfl⟩
    obtain ⟨E, hE⟩ : ∃ E, bAt s (k + 1) = E := ⟨_, rfl⟩
    have hce := cellZ hSr (i := k + 1) (by omega) E hE
    have hE0 : 0 ≤ E := by rw [← hE]; exact bAt_nonneg _ _
    have hE1 : E ≤ 255 := by rw [← hE]; exact bAt_le _ _
    have h2I : (k : Int) + 2 ≤ (s.size : Int) := by omega
    have HE := Lib.hid hE
    have uS92 : uS s k = if 0 ≤ escC E then ([escC E], 2, false) else if E = 117 then uU s k else ([], 0, true) := by
      unfold uS; rw [hX, if_pos rfl, if_neg h2, hE]
    by_cases hec : 0 ≤ escC E
    case pos =>
      rw [if_pos hec] at uS92
      have hcl : E = 34 ∨ E = 92 ∨ E = 47 ∨ E = 98 ∨ E = 102 ∨ E = 110 ∨ E = 114 ∨ E = 116 := by
        unfold escC at hec
        repeat' split at hec
        all_goals omega
      rcases hcl with rfl | rfl | rfl | rfl | rfl | rfl | rfl | rfl
      · as_aux_lemma =>
          have us : uS s k = ([34], 2, false) := uS92
          clear uS92 hX hE
          go_wp2_with (first
            | (go_at_call 60; refine dec.mono ?_; rintro e w2 ⟨rfl, hb2⟩; have hS2 := bytes_block hSr (hb2.block b hblr); have qbs2 := qbs.below hb2; have hB2 := Nat.le_trans hBr hb2.size)
            | (at_builtin; refine wpList_append_bs _ rfl (.tmp 112) (.tmp 116) 46 46 (by rfl) B i0 Tryd.underlying46 hi hz0 hz1 hz2 _ _ rfl qbs2 _ (sub s j k) rfl (sub_by s j k) (src_cells Tryd.underlying46 _ _ _ _ (sub_len s j k) _ _ hz1 (.inr ⟨b, j, rfl, sub_cells hS2 qks⟩)) (by first | omega | (simp; omega) | (simp only [List.length_append, sub_len, bl_len, List.length_cons, List.length_nil]; omega)) (by first | assumption | omega | (simp; omega)) ?_; intro v3 w3 hb3 ha3; have hA3 := (Ap.of_below v' hb2).trans ha3; have hbe3 := (qap.trans hA3).below hv hB; have hS3 := bytes_block hS2 (ha3.block (Nat.lt_of_lt_of_le hblr hb2.size) hbnr); have hB3 := Nat.le_trans hB (qap.trans hA3).size; have hce3 := cellZ hS3 (i := k + 1) (by omega) _ HE.out)
            | (at_builtin; refine wpList_append_bs _ rfl (.tmp 144) (.tmp 146) 46 46 (by rfl) B i0 Tryd.underlying46 hi hz0 hz1 hz2 _ _ rfl (Bs.alloc hb3 _) _ [34] rfl (by intro x hx; simp at hx; omega) (src_lit Tryd.underlying46 _ [34] 1 rfl _ _ hz1 _ rfl) (by first | omega | (simp; omega) | (simp only [List.length_append, sub_len, bl_len, List.length_cons, List.length_nil]; omega)) (by first | assumption | omega | (simp; omega)) ?_; intro v5 w5 hb5 ha5; have hA5 := (hA3.trans (Ap.alloc _ _ _)).trans ha5))
          have Q := q.put hk h34 (d := 2) (by rw [us]) (by omega) (c := [34]) (by rw [us]) (bad := false) (by rw [us]) hb5 hA5 (by rw [Bool.or_false]; exact qer)
          rw [Bool.or_false] at Q
          go_roundg (g - 1)
          case measure => exact hG1
          case rel => exact ⟨_, _, k + 2, k + 2, _, _, rfl, rfl, by go_num, by go_num, Q.2⟩
      · as_aux_lemma =>
          have us : uS s k = ([92], 2, false) := uS92
          clear uS92 hX hE
          go_wp2_with (first
            | (go_at_call 60; refine dec.mono ?_; rintro e w2 ⟨rfl, hb2⟩; have hS2 := bytes_block hSr (hb2.block b hblr); have qbs2 := qbs.below hb2; have hB2 := Nat.le_trans hBr hb2.size)
            | (at_builtin; refine wpList_append_bs _ rfl (.tmp 112) (.tmp 116) 46 46 (by rfl) B i0 Tryd.underlying46 hi hz0 hz1 hz2 _ _ rfl qbs2 _ (sub s j k) rfl (sub_by s j k) (src_cells Tryd.underlying46 _ _ _ _ (sub_len s j k) _ _ hz1 (.inr ⟨b, j, rfl, sub_cells hS2 qks⟩)) (by first | omega | (simp; omega) | (simp only [List.length_append, sub_len, bl_len, List.length_cons, List.length_nil]; omega)) (by first | assumption | omega | (simp; omega)) ?_; intro v3 w3 hb3 ha3; have hA3 := (Ap.of_below v' hb2).trans ha3; have hbe3 := (qap.trans hA3).below hv hB; have hS3 := bytes_block hS2 (ha3.block (Nat.lt_of_lt_of_le hblr hb2.size) hbnr); have hB3 := Nat.le_trans hB (qap.trans hA3).size; have hce3 := cellZ hS3 (i := k + 1) (by omega) _ HE.out)
            | (at_builtin; refine wpList_append_bs _ rfl (.tmp 144) (.tmp 146) 46 46 (by rfl) B i0 Tryd.underlying46 hi hz0 hz1 hz2 _ _ rfl (Bs.alloc hb3 _) _ [92] rfl (by intro x hx; simp at hx; omega) (src_lit Tryd.underlying46 _ [92] 1 rfl _ _ hz1 _ rfl) (by first | omega | (simp; omega) | (simp only [List.length_append, sub_len, bl_len, List.length_cons, List.length_nil]; omega)) (by first | assumption | omega | (simp; omega)) ?_; intro v5 w5 hb5 ha5; have hA5 := (hA3.trans (Ap.alloc _ _ _)).trans ha5))
          have Q := q.put hk h34 (d := 2) (by rw [us]) (by omega) (c := [92]) (by rw [us]) (bad := false) (by rw [us]) hb5 hA5 (by rw [Bool.or_false]; exact qer)
          rw [Bool.or_false] at Q
          go_roundg (g - 1)
          case measure => exact hG1
          case rel => exact ⟨_, _, k + 2, k + 2, _, _, rfl, rfl, by go_num, by go_num, Q.2⟩
      · as_aux_lemma =>
          have us : uS s k = ([47], 2, false) := uS92
          clear uS92 hX hE
          go_wp2_with (first
            | (go_at_call 60; refine dec.mono ?_; rintro e w2 ⟨rfl, hb2⟩; have hS2 := bytes_block hSr (hb2.block b hblr); have qbs2 := qbs.below hb2; have hB2 := Nat.le_trans hBr hb2.size)
            | (at_builtin; refine wpList_append_bs _ rfl (.tmp 112) (.tmp 116) 46 46 (by rfl) B i0 Tryd.underlying46 hi hz0 hz1 hz2 _ _ rfl qbs2 _ (sub s j k) rfl (sub_by s j k) (src_cells Tryd.underlying46 _ _ _ _ (sub_len s j k) _ _ hz1 (.inr ⟨b, j, rfl, sub_cells hS2 qks⟩)) (by first | omega | (simp; omega) | (simp only [List.length_append, sub_len, bl_len, List.length_cons, List.length_nil]; omega)) (by first | assumption | omega | (simp; omega)) ?_; intro v3 w3 hb3 ha3; have hA3 := (Ap.of_below v' hb2).trans ha3; have hbe3 := (qap.trans hA3).below hv hB; have hS3 := bytes_block hS2 (ha3.block (Nat.lt_of_lt_of_le hblr hb2.size) hbnr); have hB3 := Nat.le_trans hB (qap.trans hA3).size; have hce3 := cellZ hS3 (i := k + 1) (by omega) _ HE.out)
            | (at_builtin; refine wpList_append_bs _ rfl (.tmp 144) (.tmp 146) 46 46 (by rfl) B i0 Tryd.underlying46 hi hz0 hz1 hz2 _ _ rfl (Bs.alloc hb3 _) _ [47] rfl (by intro x hx; simp at hx; omega) (src_lit Tryd.underlying46 _ [47] 1 rfl _ _ hz1 _ rfl) (by first | omega | (simp; omega) | (simp only [List.length_append, sub_len, bl_len, List.length_cons, List.length_nil]; omega)) (by first | assumption | omega | (simp; omega)) ?_; intro v5 w5 hb5 ha5; have hA5 := (hA3.trans (Ap.alloc _ _ _)).trans ha5))
          have Q := q.put hk h34 (d := 2) (by rw [us]) (by omega) (c := [47]) (by rw [us]) (bad := false) (by rw [us]) hb5 hA5 (by rw [Bool.or_false]; exact qer)
          rw [Bool.or_false] at Q
          go_roundg (g - 1)
          case measure => exact hG1
          case rel => exact ⟨_, _, k + 2, k + 2, _, _, rfl, rfl, by go_num, by go_num, Q.2⟩
      · as_aux_lemma =>
          have us : uS s k = ([8], 2, false) := uS92
          clear uS92 hX hE
          go_wp2_with (first
            | (go_at_call 60; refine dec.mono ?_; rintro e w2 ⟨rfl, hb2⟩; have hS2 := bytes_block hSr (hb2.block b hblr); have qbs2 := qbs.below hb2; have hB2 := Nat.le_trans hBr hb2.size)
            | (at_builtin; refine wpList_append_bs _ rfl (.tmp 112) (.tmp 116) 46 46 (by rfl) B i0 Tryd.underlying46 hi hz0 hz1 hz2 _ _ rfl qbs2 _ (sub s j k) rfl (sub_by s j k) (src_cells Tryd.underlying46 _ _ _ _ (sub_len s j k) _ _ hz1 (.inr ⟨b, j, rfl, sub_cells hS2 qks⟩)) (by first | omega | (simp; omega) | (simp only [List.length_append, sub_len, bl_len, List.length_cons, List.length_nil]; omega)) (by first | assumption | omega | (simp; omega)) ?_; intro v3 w3 hb3 ha3; have hA3 := (Ap.of_below v' hb2).trans ha3; have hbe3 := (qap.trans hA3).below hv hB; have hS3 := bytes_block hS2 (ha3.block (Nat.lt_of_lt_of_le hblr hb2.size) hbnr); have hB3 := Nat.le_trans hB (qap.trans hA3).size; have hce3 := cellZ hS3 (i := k + 1) (by omega) _ HE.out)
            | (at_builtin; refine wpList_append_bs _ rfl (.tmp 152) (.tmp 153) 46 46 (by rfl) B i0 Tryd.underlying46 hi hz0 hz1 hz2 _ _ rfl (Bs.alloc hb3 _) _ [8] rfl (by intro x hx; simp at hx; omega) (src_lit Tryd.underlying46 _ [8] 1 rfl _ _ hz1 _ rfl) (by first | omega | (simp; omega) | (simp only [List.length_append, sub_len, bl_len, List.length_cons, List.length_nil]; omega)) (by first | assumption | omega | (simp; omega)) ?_; intro v5 w5 hb5 ha5; have hA5 := (hA3.trans (Ap.alloc _ _ _)).trans ha5))
          have Q := q.put hk h34 (d := 2) (by rw [us]) (by omega) (c := [8]) (by rw [us]) (bad := false) (by rw [us]) hb5 hA5 (by rw [Bool.or_false]; exact qer)
          rw [Bool.or_false] at Q
          go_roundg (g - 1)
          case measure => exact hG1
          case rel => exact ⟨_, _, k + 2, k + 2, _, _, rfl, rfl, by go_num, by go_num, Q.2⟩
      · as_aux_lemma =>
          have us : uS s k = ([12], 2, false) := uS92
          clear uS92 hX hE
          go_wp2_with (first
            | (go_at_call 60; refine dec.mono ?_; rintro e w2 ⟨rfl, hb2⟩; have hS2 := bytes_block hSr (hb2.block b hblr); have qbs2 := qbs.below hb2; have hB2 := Nat.le_trans hBr hb2.size)
            | (at_builtin; refine wpList_append_bs _ rfl (.tmp 112) (.tmp 116) 46 46 (by rfl) B i0 Tryd.underlying46 hi hz0 hz1 hz2 _ _ rfl qbs2 _ (sub s j k) rfl (sub_by s j k) (src_cells Tryd.underlying46 _ _ _ _ (sub_len s j k) _ _ hz1 (.inr ⟨b, j, rfl, sub_cells hS2 qks⟩)) (by first | omega | (simp; omega) | (simp only [List.length_append, sub_len, bl_len, List.length_cons, List.length_nil]; omega)) (by first | assumption | omega | (simp; omega)) ?_; intro v3 w3 hb3 ha3; have hA3 := (Ap.of_below v' hb2).trans ha3; have hbe3 := (qap.trans hA3).below hv hB; have hS3 := bytes_block hS2 (ha3.block (Nat.lt_of_lt_of_le hblr hb2.size) hbnr); have hB3 := Nat.le_trans hB (qap.trans hA3).size; have hce3 := cellZ hS3 (i := k + 1) (by omega) _ HE.out)
            | (at_builtin; refine wpList_append_bs _ rfl (.tmp 159) (.tmp 160) 46 46 (by rfl) B i0 Tryd.underlying46 hi hz0 hz1 hz2 _ _ rfl (Bs.alloc hb3 _) _ [12] rfl (by intro x hx; simp at hx; omega) (src_lit Tryd.underlying46 _ [12] 1 rfl _ _ hz1 _ rfl) (by first | omega | (simp; omega) | (simp only [List.length_append, sub_len, bl_len, List.length_cons, List.length_nil]; omega)) (by first | assumption | omega | (simp; omega)) ?_; intro v5 w5 hb5 ha5; have hA5 := (hA3.trans (Ap.alloc _ _ _)).trans ha5))
          have Q := q.put hk h34 (d := 2) (by rw [us]) (by omega) (c := [12]) (by rw [us]) (bad := false) (by rw [us]) hb5 hA5 (by rw [Bool.or_false]; exact qer)
          rw [Bool.or_false] at Q
          go_roundg (g - 1)
          case measure => exact hG1
          case rel => exact ⟨_, _, k + 2, k + 2, _, _, rfl, rfl, by go_num, by go_num, Q.2⟩
      · as_aux_lemma =>
          have us : uS s k = ([10], 2, false) := uS92
          clear uS92 hX hE
          go_wp2_with (first
            | (go_at_call 60; refine dec.mono ?_; rintro e w2 ⟨rfl, hb2⟩; have hS2 := bytes_block hSr (hb2.block b hblr); have qbs2 := qbs.below hb2; have hB2 := Nat.le_trans hBr hb2.size)
            | (at_builtin; refine wpList_append_bs _ rfl (.tmp 112) (.tmp 116) 46 46 (by rfl) B i0 Tryd.underlying46 hi hz0 hz1 hz2 _ _ rfl qbs2 _ (sub s j k) rfl (sub_by s j k) (src_cells Tryd.underlying46 _ _ _ _ (sub_len s j k) _ _ hz1 (.inr ⟨b, j, rfl, sub_cells hS2 qks⟩)) (by first | omega | (simp; omega) | (simp only [List.length_append, sub_len, bl_len, List.length_cons, List.length_nil]; omega)) (by first | assumption | omega | (simp; omega)) ?_; intro v3 w3 hb3 ha3; have hA3 := (Ap.of_below v' hb2).trans ha3; have hbe3 := (qap.trans hA3).below hv hB; have hS3 := bytes_block hS2 (ha3.block (Nat.lt_of_lt_of_le hblr hb2.size) hbnr); have hB3 := Nat.le_trans hB (qap.trans hA3).size; have hce3 := cellZ hS3 (i := k + 1) (by omega) _ HE.out)
            | (at_builtin; refine wpList_append_bs _ rfl (.tmp 166) (.tmp 167) 46 46 (by rfl) B i0 Tryd.underlying46 hi hz0 hz1 hz2 _ _ rfl (Bs.alloc hb3 _) _ [10] rfl (by intro x hx; simp at hx; omega) (src_lit Tryd.underlying46 _ [10] 1 rfl _ _ hz1 _ rfl) (by first | omega | (simp; omega) | (simp only [List.length_append, sub_len, bl_len, List.length_cons, List.length_nil]; omega)) (by first | assumption | omega | (simp; omega)) ?_; intro v5 w5 hb5 ha5; have hA5 := (hA3.trans (Ap.alloc _ _ _)).trans ha5))
          have Q := q.put hk h34 (d := 2) (by rw [us]) (by omega) (c := [10]) (by rw [us]) (bad := false) (by rw [us]) hb5 hA5 (by rw [Bool.or_false]; exact qer)
          rw [Bool.or_false] at Q
          go_roundg (g - 1)
          case measure => exact hG1
          case rel => exact ⟨_, _, k + 2, k + 2, _, _, rfl, rfl, by go_num, by go_num, Q.2⟩
      · as_aux_lemma =>
          have us : uS s k = ([13], 2, false) := uS92
          clear uS92 hX hE
          go_wp2_with (first
            | (go_at_call 60; refine dec.mono ?_; rintro e w2 ⟨rfl, hb2⟩; have hS2 := bytes_block hSr (hb2.block b hblr); have qbs2 := qbs.below hb2; have hB2 := Nat.le_trans hBr hb2.size)
            | (at_builtin; refine wpList_append_bs _ rfl (.tmp 112) (.tmp 116) 46 46 (by rfl) B i0 Tryd.underlying46 hi hz0 hz1 hz2 _ _ rfl qbs2 _ (sub s j k) rfl (sub_by s j k) (src_cells Tryd.underlying46 _ _ _ _ (sub_len s j k) _ _ hz1 (.inr ⟨b, j, rfl, sub_cells hS2 qks⟩)) (by first | omega | (simp; omega) | (simp only [List.length_append, sub_len, bl_len, List.length_cons, List.length_nil]; omega)) (by first | assumption | omega | (simp; omega)) ?_; intro v3 w3 hb3 ha3; have hA3 := (Ap.of_below v' hb2).trans ha3; have hbe3 := (qap.trans hA3).below hv hB; have hS3 := bytes_block hS2 (ha3.block (Nat.lt_of_lt_of_le hblr hb2.size) hbnr); have hB3 := Nat.le_trans hB (qap.trans hA3).size; have hce3 := cellZ hS3 (i := k + 1) (by omega) _ HE.out)
            | (at_builtin; refine wpList_append_bs _ rfl (.tmp 173) (.tmp 174) 46 46 (by rfl) B i0 Tryd.underlying46 hi hz0 hz1 hz2 _ _ rfl (Bs.alloc hb3 _) _ [13] rfl (by intro x hx; simp at hx; omega) (src_lit Tryd.underlying46 _ [13] 1 rfl _ _ hz1 _ rfl) (by first | omega | (simp; omega) | (simp only [List.length_append, sub_len, bl_len, List.length_cons, List.length_nil]; omega)) (by first | assumption | omega | (simp; omega)) ?_; intro v5 w5 hb5 ha5; have hA5 := (hA3.trans (Ap.alloc _ _ _)).trans ha5))
          have Q := q.put hk h34 (d := 2) (by rw [us]) (by omega) (c := [13]) (by rw [us]) (bad := false) (by rw [us]) hb5 hA5 (by rw [Bool.or_false]; exact qer)
          rw [Bool.or_false] at Q
          go_roundg (g - 1)
          case measure => exact hG1
          case rel => exact ⟨_, _, k + 2, k + 2, _, _, rfl, rfl, by go_num, by go_num, Q.2⟩
      · as_aux_lemma =>
          have us : uS s k = ([9], 2, false) := uS92
          clear uS92 hX hE
          go_wp2_with (first
            | (go_at_call 60; refine dec.mono ?_; rintro e w2 ⟨rfl, hb2⟩; have hS2 := bytes_block hSr (hb2.block b hblr); have qbs2 := qbs.below hb2; have hB2 := Nat.le_trans hBr hb2.size)
            | (at_builtin; refine wpList_append_bs _ rfl (.tmp 112) (.tmp 116) 46 46 (by rfl) B i0 Tryd.underlying46 hi hz0 hz1 hz2 _ _ rfl qbs2 _ (sub s j k) rfl (sub_by s j k) (src_cells Tryd.underlying46 _ _ _ _ (sub_len s j k) _ _ hz1 (.inr ⟨b, j, rfl, sub_cells hS2 qks⟩)) (by first | omega | (simp; omega) | (simp only [List.length_append, sub_len, bl_len, List.length_cons, List.length_nil]; omega)) (by first | assumption | omega | (simp; omega)) ?_; intro v3 w3 hb3 ha3; have hA3 := (Ap.of_below v' hb2).trans ha3; have hbe3 := (qap.trans hA3).below hv hB; have hS3 := bytes_block hS2 (ha3.block (Nat.lt_of_lt_of_le hblr hb2.size) hbnr); have hB3 := Nat.le_trans hB (qap.trans hA3).size; have hce3 := cellZ hS3 (i := k + 1) (by omega) _ HE.out)
            | (at_builtin; refine wpList_append_bs _ rfl (.tmp 180) (.tmp 181) 46 46 (by rfl) B i0 Tryd.underlying46 hi hz0 hz1 hz2 _ _ rfl (Bs.alloc hb3 _) _ [9] rfl (by intro x hx; simp at hx; omega) (src_lit Tryd.underlying46 _ [9] 1 rfl _ _ hz1 _ rfl) (by first | omega | (simp; omega) | (simp only [List.length_append, sub_len, bl_len, List.length_cons, List.length_nil]; omega)) (by first | assumption | omega | (simp; omega)) ?_; intro v5 w5 hb5 ha5; have hA5 := (hA3.trans (Ap.alloc _ _ _)).trans ha5))
          have Q := q.put hk h34 (d := 2) (by rw [us]) (by omega) (c := [9]) (by rw [us]) (bad := false) (by rw [us]) hb5 hA5 (by rw [Bool.or_false]; exact qer)
          rw [Bool.or_false] at Q
          go_roundg (g - 1)
          case measure => exact hG1
          case rel => exact ⟨_, _, k + 2, k + 2, _, _, rfl, rfl, by go_num, by go_num, Q.2⟩
    rw [if_neg hec] at uS92
    have e34 : (E == 34) = false := by simp; intro h; subst h; exact hec (by decide)
    have e92 : (E == 92) = false := by simp; intro h; subst h; exact hec (by decide)
    have e47 : (E == 47) = false := by simp; intro h; subst h; exact hec (by decide)
    have e98 : (E == 98) = false := by simp; intro h; subst h; exact hec (by decide)
    have e102 : (E == 102) = false := by simp; intro h; subst h; exact hec (by decide)
    have e110 : (E == 110) = false := by simp; intro h; subst h; exact hec (by decide)
    have e114 : (E == 114) = false := by simp; intro h; subst h; exact hec (by decide)
    have e116 : (E == 116) = false := by simp; intro h; subst h; exact hec (by decide)
    clear hec
    by_cases e117 : E = 117
    case neg =>
      as_aux_lemma =>
        have e117b : (E == 117) = false := by simpa using e117
        have us : uS s k = ([], 0, true) := by rw [uS92, if_neg e117]
        clear uS92 hX hE e117
        go_wp2_with (first
          | (go_at_call 60; refine dec.mono ?_; rintro e w2 ⟨rfl, hb2⟩; have hS2 := bytes_block hSr (hb2.block b hblr); have qbs2 := qbs.below hb2; have hB2 := Nat.le_trans hBr hb2.size)
          | (at_builtin; refine wpList_append_bs _ rfl (.tmp 112) (.tmp 116) 46 46 (by rfl) B i0 Tryd.underlying46 hi hz0 hz1 hz2 _ _ rfl qbs2 _ (sub s j k) rfl (sub_by s j k) (src_cells Tryd.underlying46 _ _ _ _ (sub_len s j k) _ _ hz1 (.inr ⟨b, j, rfl, sub_cells hS2 qks⟩)) (by first | omega | (simp; omega) | (simp only [List.length_append, sub_len, bl_len, List.length_cons, List.length_nil]; omega)) (by first | assumption | omega | (simp; omega)) ?_; intro v3 w3 hb3 ha3; have hA3 := (Ap.of_below v' hb2).trans ha3; have hbe3 := (qap.trans hA3).below hv hB; have hS3 := bytes_block hS2 (ha3.block (Nat.lt_of_lt_of_le hblr hb2.size) hbnr); have hB3 := Nat.le_trans hB (qap.trans hA3).size; have hce3 := cellZ hS3 (i := k + 1) (by omega) _ HE.out)
          | (go_at_call 62; refine (badEsc_any s _ _ b _ _ (by omega) (by unfold maxLen; omega) hS3).mono ?_; rintro e w4 ⟨p, rfl, hb4⟩))
        all_goals go_ret2
        exact uStop q hk h34 us (by rw [List.append_nil]; exact hb3.below hb4) (hA3.trans (Ap.of_below _ hb4)) ⟨_, _, rfl⟩
    subst e117
    rw [if_pos rfl] at uS92
    clear e34 e92 e47 e98 e102 e110 e114 e116 hE0 hE1
    by_cases h6 : s.size < k + 6
    case pos =>
      as_aux_lemma =>
        have us : uS s k = ([], 0, true) := by rw [uS92]; unfold uU; rw [if_pos h6]
        have h6I : (s.size : Int) < (k : Int) + 6 := by omega
        obtain ⟨P, hP⟩ : ∃ P, prefB false s k (s.size - k) = P := ⟨_, rfl⟩
        have esc : ∀ w' : World, Lib.Bytes w' b 0 s → Calls Tryd.prog 61 #[.slice (some ⟨b, k, none⟩) (s.size - k) (cap - k), .bool false] w' fun e w'' => e = .returned (.bool P) ∧ w'' = w' := fun w' h => hP ▸ hasEsc_any s false b k (s.size - k) _ w' (by omega) hs h
        clear uS92 hX hE hP
        cases P
        · go_wp2_with (first
            | (go_at_call 60; refine dec.mono ?_; rintro e w2 ⟨rfl, hb2⟩; have hS2 := bytes_block hSr (hb2.block b hblr); have qbs2 := qbs.below hb2; have hB2 := Nat.le_trans hBr hb2.size)
            | (at_builtin; refine wpList_append_bs _ rfl (.tmp 112) (.tmp 116) 46 46 (by rfl) B i0 Tryd.underlying46 hi hz0 hz1 hz2 _ _ rfl qbs2 _ (sub s j k) rfl (sub_by s j k) (src_cells Tryd.underlying46 _ _ _ _ (sub_len s j k) _ _ hz1 (.inr ⟨b, j, rfl, sub_cells hS2 qks⟩)) (by first | omega | (simp; omega) | (simp only [List.length_append, sub_len, bl_len, List.length_cons, List.length_nil]; omega)) (by first | assumption | omega | (simp; omega)) ?_; intro v3 w3 hb3 ha3; have hA3 := (Ap.of_below v' hb2).trans ha3; have hbe3 := (qap.trans hA3).below hv hB; have hS3 := bytes_block hS2 (ha3.block (Nat.lt_of_lt_of_le hblr hb2.size) hbnr); have hB3 := Nat.le_trans hB (qap.trans hA3).size; have hce3 := cellZ hS3 (i := k + 1) (by omega) _ HE.out)
            | (go_at_call 61; refine (esc _ hS3).mono ?_; rintro e w4 ⟨rfl, rfl⟩)
            | (go_at_call 62; refine (badEsc_any s _ _ b _ _ (by omega) (by unfold maxLen; omega) hS3).mono ?_; rintro e w4 ⟨p, rfl, hb4⟩))
          all_goals go_ret2
          exact uStop q hk h34 us (by rw [List.append_nil]; exact hb3.below hb4) (hA3.trans (Ap.of_below _ hb4)) ⟨_, _, rfl⟩
        · go_wp2_with (first
            | (go_at_call 60; refine dec.mono ?_; rintro e w2 ⟨rfl, hb2⟩; have hS2 := bytes_block hSr (hb2.block b hblr); have qbs2 := qbs.below hb2; have hB2 := Nat.le_trans hBr hb2.size)
            | (at_builtin; refine wpList_append_bs _ rfl (.tmp 112) (.tmp 116) 46 46 (by rfl) B i0 Tryd.underlying46 hi hz0 hz1 hz2 _ _ rfl qbs2 _ (sub s j k) rfl (sub_by s j k) (src_cells Tryd.underlying46 _ _ _ _ (sub_len s j k) _ _ hz1 (.inr ⟨b, j, rfl, sub_cells hS2 qks⟩)) (by first | omega | (simp; omega) | (simp only [List.length_append, sub_len, bl_len, List.length_cons, List.length_nil]; omega)) (by first | assumption | omega | (simp; omega)) ?_; intro v3 w3 hb3 ha3; have hA3 := (Ap.of_below v' hb2).trans ha3; have hbe3 := (qap.trans hA3).below hv hB; have hS3 := bytes_block hS2 (ha3.block (Nat.lt_of_lt_of_le hblr hb2.size) hbnr); have hB3 := Nat.le_trans hB (qap.trans hA3).size; obtain ⟨pe, he⟩ := eofAt hbe3; have hce3 := cellZ hS3 (i := k + 1) (by omega) _ HE.out)
            | (go_at_call 61; refine (esc _ hS3).mono ?_; rintro e w4 ⟨rfl, rfl⟩))
          go_quiet (fail)
          go_wp2_with fail
          all_goals go_ret2
          exact uStop q hk h34 us (by rw [List.append_nil]; exact hb3.drewN _) (hA3.trans (Ap.drewN _ _ _)) ⟨_, _, rfl⟩
    have h6I : (k : Int) + 6 ≤ (s.size : Int) := by omega
    obtain ⟨V1, hV1⟩ : ∃ V, hexPre s (k + 2) 4 = V := ⟨_, rfl⟩
    cases hO1 : hexAll s (k + 2) 4
    case false =>
      as_aux_lemma =>
        have us : uS s k = ([], 0, true) := by rw [uS92]; unfold uU; rw [if_neg h6, if_pos hO1]
        have p1 : ∀ (m c : Nat) (w' : World), Lib.Bytes w' b 0 s → m = 4 → Calls Tryd.prog 63 #[.slice (some ⟨b, k + 2, none⟩) m c] w' fun e w'' => e = .returned (.tuple #[.int .u16 0, .bool false]) ∧ w'' = w' := fun m c w' hS' hm => by
          have := parseHex_any s b (k + 2) m c w' hm (by omega) hs hS'
          rw [hO1] at this
          simpa using this
        clear uS92 hX hE hV1 hO1 h2 h6
        go_wp2_with (first
          | (go_at_call 60; refine dec.mono ?_; rintro e w2 ⟨rfl, hb2⟩; have hS2 := bytes_block hSr (hb2.block b hblr); have qbs2 := qbs.below hb2; have hB2 := Nat.le_trans hBr hb2.size)
          | (at_builtin; refine wpList_append_bs _ rfl (.tmp 112) (.tmp 116) 46 46 (by rfl) B i0 Tryd.underlying46 hi hz0 hz1 hz2 _ _ rfl qbs2 _ (sub s j k) rfl (sub_by s j k) (src_cells Tryd.underlying46 _ _ _ _ (sub_len s j k) _ _ hz1 (.inr ⟨b, j, rfl, sub_cells hS2 qks⟩)) (by first | omega | (simp; omega) | (simp only [List.length_append, sub_len, bl_len, List.length_cons, List.length_nil]; omega)) (by first | assumption | omega | (simp; omega)) ?_; intro v3 w3 hb3 ha3; have hA3 := (Ap.of_below v' hb2).trans ha3; have hbe3 := (qap.trans hA3).below hv hB; have hS3 := bytes_block hS2 (ha3.block (Nat.lt_of_lt_of_le hblr hb2.size) hbnr); have hB3 := Nat.le_trans hB (qap.trans hA3).size; have hce3 := cellZ hS3 (i := k + 1) (by omega) _ HE.out)
          | (go_at_call 63; refine (p1 _ _ _ hS3 (by omega)).mono ?_; rintro e w5 ⟨rfl, rfl⟩)
          | (go_at_call 62; refine (badEsc_any s _ _ b _ _ (by omega) (by unfold maxLen; omega) hS3).mono ?_; rintro e w4 ⟨p, rfl, hb4⟩))
        all_goals go_ret2
        exact uStop q hk h34 us (by rw [List.append_nil]; exact hb3.below hb4) (hA3.trans (Ap.of_below _ hb4)) ⟨_, _, rfl⟩
    have hb1' := hexPre_bd s (k + 2) 4 hO1
    rw [hV1] at hb1'
    have v10 : 0 ≤ V1 := hb1'.1
    have v11 : V1 < 65536 := by have := hb1'.2; simpa using this
    have p1 : ∀ (m c : Nat) (w' : World), Lib.Bytes w' b 0 s → m = 4 → Calls Tryd.prog 63 #[.slice (some ⟨b, k + 2, none⟩) m c] w' fun e w'' => e = .returned (.tuple #[.int .u16 V1, .bool true]) ∧ w'' = w' := fun m c w' hS' hm => by
      have := parseHex_any s b (k + 2) m c w' hm (by omega) hs hS'
      rw [hO1, hV1] at this
      simpa using this
    have uU1 : uS s k = if surB V1 = false then (encU V1, 6, false) else if s.size < k + 12 then (if prefB true s (k + 6) (s.size - (k + 6)) = true then (brk, 0, true) else (brk, 6, true)) else if bAt s (k + 6) = 92 ∧ bAt s (k + 7) = 117 ∧ hexAll s (k + 8) 4 = true ∧ pairR V1 (hexPre s (k + 8) 4) ≠ 65533 then (encU (pairR V1 (hexPre s (k + 8) 4)), 12, false) else (brk, 6, true) := by
      rw [uS92]; unfold uU; rw [if_neg h6, hO1, if_neg (by simp), hV1]
    clear uS92 hb1' hO1 hV1 hE hX
    cases hsur : surB V1
    case false =>
      as_aux_lemma =>
        rw [hsur, if_pos rfl] at uU1
        clear h2 h6
        go_wp2_with (first
          | (go_at_call 60; refine dec.mono ?_; rintro e w2 ⟨rfl, hb2⟩; have hS2 := bytes_block hSr (hb2.block b hblr); have qbs2 := qbs.below hb2; have hB2 := Nat.le_trans hBr hb2.size)
          | (at_builtin; refine wpList_append_bs _ rfl (.tmp 112) (.tmp 116) 46 46 (by rfl) B i0 Tryd.underlying46 hi hz0 hz1 hz2 _ _ rfl qbs2 _ (sub s j k) rfl (sub_by s j k) (src_cells Tryd.underlying46 _ _ _ _ (sub_len s j k) _ _ hz1 (.inr ⟨b, j, rfl, sub_cells hS2 qks⟩)) (by first | omega | (simp; omega) | (simp only [List.length_append, sub_len, bl_len, List.length_cons, List.length_nil]; omega)) (by first | assumption | omega | (simp; omega)) ?_; intro v3 w3 hb3 ha3; have hA3 := (Ap.of_below v' hb2).trans ha3; have hbe3 := (qap.trans hA3).below hv hB; have hS3 := bytes_block hS2 (ha3.block (Nat.lt_of_lt_of_le hblr hb2.size) hbnr); have hB3 := Nat.le_trans hB (qap.trans hA3).size; have hce3 := cellZ hS3 (i := k + 1) (by omega) _ HE.out)
          | (go_at_call 63; refine (p1 _ _ _ hS3 (by omega)).mono ?_; clear p1; rintro e w5 ⟨rfl, hw5⟩; obtain rfl := hw5.symm)
          | (go_at_call 64; refine (sur_any _ _).mono ?_; rw [hsur]; rintro e w5 ⟨rfl, hw5⟩; obtain rfl := hw5.symm)
          | (go_at_call 65; refine (ar_any V1 v10 (by omega) B _ _ _ hb3 (by first | omega | (simp only [List.length_append, sub_len]; omega)) hB3).mono ?_; rintro e w6 ⟨v6, rfl, hb6, ha6⟩))
        have Q := q.put hk h34 (d := 6) (by rw [uU1]) (by omega) (c := encU V1) (by rw [uU1]) (bad := false) (by rw [uU1]) hb6 (hA3.trans ha6) (by rw [Bool.or_false]; exact qer)
        rw [Bool.or_false] at Q
        go_roundg (g - 1)
        case measure => exact hG1
        case rel => exact ⟨_, _, k + 6, k + 6, _, _, rfl, rfl, by go_num, by go_num, Q.2⟩
    rw [hsur, if_neg (by simp)] at uU1
    by_cases h12 : s.size < k + 12
    case pos =>
      as_aux_lemma =>
        rw [if_pos h12] at uU1
        have h12I : (s.size : Int) < (k : Int) + 6 + 6 := by omega
        obtain ⟨P, hP⟩ : ∃ P, prefB true s (k + 6) (s.size - (k + 6)) = P := ⟨_, rfl⟩
        have esc : ∀ (m c : Nat) (w' : World), m = s.size - (k + 6) → Lib.Bytes w' b 0 s → Calls Tryd.prog 61 #[.slice (some ⟨b, k + 6, none⟩) m c, .bool true] w' fun e w'' => e = .returned (.bool P) ∧ w'' = w' := fun m c w' hm h => by
          subst hm
          exact hP ▸ hasEsc_any s true b (k + 6) (s.size - (k + 6)) _ w' (by omega) hs h
        rw [hP] at uU1
        cases P
        · have us : uS s k = (brk, 6, true) := uU1
          have hk6 : (k : Int) + 6 < (cap : Int) := by
            have : s.size - (k + 6) ≠ 0 := fun h => by rw [h] at hP; cases hP
            omega
          clear uU1 hP h2 h6 h12
          go_wp2_with (first
            | (go_at_call 60; refine dec.mono ?_; rintro e w2 ⟨rfl, hb2⟩; have hS2 := bytes_block hSr (hb2.block b hblr); have qbs2 := qbs.below hb2; have hB2 := Nat.le_trans hBr hb2.size)
            | (at_builtin; refine wpList_append_bs _ rfl (.tmp 112) (.tmp 116) 46 46 (by rfl) B i0 Tryd.underlying46 hi hz0 hz1 hz2 _ _ rfl qbs2 _ (sub s j k) rfl (sub_by s j k) (src_cells Tryd.underlying46 _ _ _ _ (sub_len s j k) _ _ hz1 (.inr ⟨b, j, rfl, sub_cells hS2 qks⟩)) (by first | omega | (simp; omega) | (simp only [List.length_append, sub_len, bl_len, List.length_cons, List.length_nil]; omega)) (by first | assumption | omega | (simp; omega)) ?_; intro v3 w3 hb3 ha3; have hA3 := (Ap.of_below v' hb2).trans ha3; have hbe3 := (qap.trans hA3).below hv hB; have hS3 := bytes_block hS2 (ha3.block (Nat.lt_of_lt_of_le hblr hb2.size) hbnr); have hB3 := Nat.le_trans hB (qap.trans hA3).size; have hce3 := cellZ hS3 (i := k + 1) (by omega) _ HE.out)
            | (go_at_call 63; refine (p1 _ _ _ hS3 (by omega)).mono ?_; clear p1; rintro e w5 ⟨rfl, hw5⟩; obtain rfl := hw5.symm)
            | (go_at_call 64; refine (sur_any _ _).mono ?_; rw [hsur]; rintro e w5 ⟨rfl, hw5⟩; obtain rfl := hw5.symm)
            | (go_at_call 61; refine (esc _ _ _ (by omega) hS3).mono ?_; rintro e w5 ⟨rfl, hw5⟩; obtain rfl := hw5.symm)
            | (go_at_call 62; refine (badEsc_any s _ _ b _ _ (by omega) (by unfold maxLen; omega) hS3).mono ?_; rintro e w4 ⟨p, rfl, hb4⟩)
            | (go_at_call 65; refine (ar_any 65533 (by omega) (by omega) B _ _ _ (hb3.below hb4) (by first | omega | (simp only [List.length_append, sub_len]; omega)) (Nat.le_trans hB3 hb4.size)).mono ?_; rintro e w6 ⟨v6, rfl, hb6, ha6⟩))
          have Q := q.put hk h34 (d := 6) (by rw [us]) (by omega) (c := brk) (by rw [us]) (bad := true) (by rw [us]) hb6 ((hA3.trans (Ap.of_below _ hb4)).trans ha6) (er' := .iface 127 (.pointer (some p))) (by rw [Bool.or_true]; exact ⟨(fun h => by cases h), fun _ => ⟨_, _, rfl⟩⟩)
          go_roundg (g - 1)
          case measure => exact hG1
          case rel => exact ⟨_, _, k + 6, k + 6, _, _, rfl, rfl, by go_num, by go_num, Q.2⟩
        · have us : uS s k = (brk, 0, true) := uU1
          clear uU1 hP h2 h6 h12
          by_cases hk6 : k + 6 = cap
          · have esc0 : ∀ (m c : Nat) (w' : World), m = 0 → Lib.Bytes w' b 0 s → Calls Tryd.prog 61 #[.slice (some ⟨b, 0, none⟩) m c, .bool true] w' fun e w'' => e = .returned (.bool true) ∧ w'' = w' := fun m c w' hm h => by
              subst hm
              exact hasEsc_any s true b 0 0 _ w' (by omega) hs h
            have hsz6 : s.size = k + 6 := by omega
            have HSZ6 := Lib.hid hsz6
            have hz6 : cap - (k + 6) = 0 := by omega
            have hz6I : (k : Int) + 6 ≤ (cap : Int) := by omega
            clear esc hsz6 hk6
            go_wp2_with (first
              | (go_at_call 60; refine dec.mono ?_; rintro e w2 ⟨rfl, hb2⟩; have hS2 := bytes_block hSr (hb2.block b hblr); have qbs2 := qbs.below hb2; have hB2 := Nat.le_trans hBr hb2.size)
              | (at_builtin; refine wpList_append_bs _ rfl (.tmp 112) (.tmp 116) 46 46 (by rfl) B i0 Tryd.underlying46 hi hz0 hz1 hz2 _ _ rfl qbs2 _ (sub s j k) rfl (sub_by s j k) (src_cells Tryd.underlying46 _ _ _ _ (sub_len s j k) _ _ hz1 (.inr ⟨b, j, rfl, sub_cells hS2 qks⟩)) (by first | omega | (simp; omega) | (simp only [List.length_append, sub_len, bl_len, List.length_cons, List.length_nil]; omega)) (by first | assumption | omega | (simp; omega)) ?_; intro v3 w3 hb3 ha3; have hA3 := (Ap.of_below v' hb2).trans ha3; have hbe3 := (qap.trans hA3).below hv hB; have hS3 := bytes_block hS2 (ha3.block (Nat.lt_of_lt_of_le hblr hb2.size) hbnr); have hB3 := Nat.le_trans hB (qap.trans hA3).size; obtain ⟨pe, he⟩ := eofAt hbe3; have hce3 := cellZ hS3 (i := k + 1) (by omega) _ HE.out)
              | (go_at_call 63; refine (p1 _ _ _ hS3 (by omega)).mono ?_; clear p1; rintro e w5 ⟨rfl, hw5⟩; obtain rfl := hw5.symm)
              | (go_at_call 64; refine (sur_any _ _).mono ?_; rw [hsur]; rintro e w5 ⟨rfl, hw5⟩; obtain rfl := hw5.symm)
              | (go_at_call 61; refine (esc0 _ _ _ (by have := HSZ6.out; omega) hS3).mono ?_; rintro e w5 ⟨rfl, hw5⟩; obtain rfl := hw5.symm))
            have hb3d : Bs w3.drew B v3 _ := hb3
            have hB3d : B ≤ w3.drew.heap.size := hB3
            have hbe3d : Below B w w3.drew := bdN hbe3 1
            have hA3d : Ap v' wr v3 w3.drew := hA3.trans (Ap.drewN _ _ 1)
            have hed : w3.drew.cell? ⟨0, 0, none⟩ = some (.iface 153 (.pointer (some pe))) := he
            go_region_with (first
              | (go_at_call 65; refine (ar_any 65533 (by omega) (by omega) B _ _ _ hb3d (by first | omega | (simp only [List.length_append, sub_len]; omega)) hB3d).mono ?_; rintro e w6 ⟨v6, rfl, hb6, ha6⟩; obtain ⟨pe6, he6⟩ := eofAt (hbe3d.trans (Ap.below ha6 hb3d hB3d))))
            all_goals
              go_wp2_with fail
              go_ret2
              exact uStop q hk h34 us hb6 (hA3d.trans ha6) ⟨_, _, rfl⟩
          · have hk6c : (k : Int) + 6 < (cap : Int) := by omega
            clear hk6
            go_wp2_with (first
              | (go_at_call 60; refine dec.mono ?_; rintro e w2 ⟨rfl, hb2⟩; have hS2 := bytes_block hSr (hb2.block b hblr); have qbs2 := qbs.below hb2; have hB2 := Nat.le_trans hBr hb2.size)
              | (at_builtin; refine wpList_append_bs _ rfl (.tmp 112) (.tmp 116) 46 46 (by rfl) B i0 Tryd.underlying46 hi hz0 hz1 hz2 _ _ rfl qbs2 _ (sub s j k) rfl (sub_by s j k) (src_cells Tryd.underlying46 _ _ _ _ (sub_len s j k) _ _ hz1 (.inr ⟨b, j, rfl, sub_cells hS2 qks⟩)) (by first | omega | (simp; omega) | (simp only [List.length_append, sub_len, bl_len, List.length_cons, List.length_nil]; omega)) (by first | assumption | omega | (simp; omega)) ?_; intro v3 w3 hb3 ha3; have hA3 := (Ap.of_below v' hb2).trans ha3; have hbe3 := (qap.trans hA3).below hv hB; have hS3 := bytes_block hS2 (ha3.block (Nat.lt_of_lt_of_le hblr hb2.size) hbnr); have hB3 := Nat.le_trans hB (qap.trans hA3).size; obtain ⟨pe, he⟩ := eofAt hbe3; have hce3 := cellZ hS3 (i := k + 1) (by omega) _ HE.out)
              | (go_at_call 63; refine (p1 _ _ _ hS3 (by omega)).mono ?_; clear p1; rintro e w5 ⟨rfl, hw5⟩; obtain rfl := hw5.symm)
              | (go_at_call 64; refine (sur_any _ _).mono ?_; rw [hsur]; rintro e w5 ⟨rfl, hw5⟩; obtain rfl := hw5.symm)
              | (go_at_call 61; refine (esc _ _ _ (by omega) hS3).mono ?_; rintro e w5 ⟨rfl, hw5⟩; obtain rfl := hw5.symm))
            have hb3d : Bs w3.drew B v3 _ := hb3
            have hB3d : B ≤ w3.drew.heap.size := hB3
            have hbe3d : Below B w w3.drew := bdN hbe3 1
            have hA3d : Ap v' wr v3 w3.drew := hA3.trans (Ap.drewN _ _ 1)
            have hed : w3.drew.cell? ⟨0, 0, none⟩ = some (.iface 153 (.pointer (some pe))) := he
            go_region_with (first
              | (go_at_call 65; refine (ar_any 65533 (by omega) (by omega) B _ _ _ hb3d (by first | omega | (simp only [List.length_append, sub_len]; omega)) hB3d).mono ?_; rintro e w6 ⟨v6, rfl, hb6, ha6⟩; obtain ⟨pe6, he6⟩ := eofAt (hbe3d.trans (Ap.below ha6 hb3d hB3d))))
            all_goals
              go_wp2_with fail
              go_ret2
              exact uStop q hk h34 us hb6 (hA3d.trans ha6) ⟨_, _, rfl⟩
    rw [if_neg h12] at uU1
    have h12I : (k : Int) + 6 + 6 ≤ (s.size : Int) := by omega
    obtain ⟨V2, hV2⟩ : ∃ V, hexPre s (k + 8) 4 = V := ⟨_, rfl⟩
    obtain ⟨Y1, hY1⟩ : ∃ Y, bAt s (k + 6) = Y := ⟨_, rfl⟩
    obtain ⟨Y2, hY2⟩ : ∃ Y, bAt s (k + 7) = Y := ⟨_, rfl⟩
    have hcy1 := cellZ hSr (i := k + 6) (by omega) Y1 hY1
    have hcy2 := cellZ hSr (i := k + 7) (by omega) Y2 hY2
    have HY1 := Lib.hid hY1
    have HY2 := Lib.hid hY2
    rw [hY1, hY2, hV2] at uU1
    cases hO2 : hexAll s (k + 8) 4
    case false =>
      as_aux_lemma =>
        have us : uS s k = (brk, 6, true) := by rw [uU1, if_neg (fun h => by rw [hO2] at h; cases h.2.2.1)]
        have p2 : ∀ (m c : Nat) (w' : World), Lib.Bytes w' b 0 s → m = 4 → Calls Tryd.prog 63 #[.slice (some ⟨b, k + 8, none⟩) m c] w' fun e w'' => e = .returned (.tuple #[.int .u16 0, .bool false]) ∧ w'' = w' := fun m c w' hS' hm => by
          have := parseHex_any s b (k + 8) m c w' hm (by omega) hs hS'
          rw [hO2] at this
          simpa using this
        clear hO2 hV2 hY1 hY2
        clear uU1 h2 h6 h12
        go_wp2_with (first
          | (go_at_call 60; refine dec.mono ?_; rintro e w2 ⟨rfl, hb2⟩; have hS2 := bytes_block hSr (hb2.block b hblr); have qbs2 := qbs.below hb2; have hB2 := Nat.le_trans hBr hb2.size)
          | (at_builtin; refine wpList_append_bs _ rfl (.tmp 112) (.tmp 116) 46 46 (by rfl) B i0 Tryd.underlying46 hi hz0 hz1 hz2 _ _ rfl qbs2 _ (sub s j k) rfl (sub_by s j k) (src_cells Tryd.underlying46 _ _ _ _ (sub_len s j k) _ _ hz1 (.inr ⟨b, j, rfl, sub_cells hS2 qks⟩)) (by first | omega | (simp; omega) | (simp only [List.length_append, sub_len, bl_len, List.length_cons, List.length_nil]; omega)) (by first | assumption | omega | (simp; omega)) ?_; intro v3 w3 hb3 ha3; have hA3 := (Ap.of_below v' hb2).trans ha3; have hbe3 := (qap.trans hA3).below hv hB; have hS3 := bytes_block hS2 (ha3.block (Nat.lt_of_lt_of_le hblr hb2.size) hbnr); have hB3 := Nat.le_trans hB (qap.trans hA3).size; have hce3 := cellZ hS3 (i := k + 1) (by omega) _ HE.out; have hcy1 := cellZ hS3 (i := k + 6) (by omega) _ HY1.out; have hcy2 := cellZ hS3 (i := k + 7) (by omega) _ HY2.out)
          | (go_at_call 63; refine (p1 _ _ _ hS3 (by omega)).mono ?_; clear p1; rintro e w5 ⟨rfl, hw5⟩; obtain rfl := hw5.symm)
          | (go_at_call 63; refine (p2 _ _ _ hS3 (by omega)).mono ?_; rintro e w5 ⟨rfl, hw5⟩; obtain rfl := hw5.symm)
          | (go_at_call 64; refine (sur_any _ _).mono ?_; rw [hsur]; rintro e w5 ⟨rfl, hw5⟩; obtain rfl := hw5.symm)
          | (go_at_call 62; refine (badEsc_any s _ _ b _ _ (by omega) (by unfold maxLen; omega) hS3).mono ?_; rintro e w4 ⟨p, rfl, hb4⟩)
          | (go_at_call 65; refine (ar_any 65533 (by omega) (by omega) B _ _ _ (hb3.below hb4) (by first | omega | (simp only [List.length_append, sub_len]; omega)) (Nat.le_trans hB3 hb4.size)).mono ?_; rintro e w6 ⟨v6, rfl, hb6, ha6⟩))
        all_goals
          have Q := q.put hk h34 (d := 6) (by rw [us]) (by omega) (c := brk) (by rw [us]) (bad := true) (by rw [us]) hb6 ((hA3.trans (Ap.of_below _ hb4)).trans ha6) (er' := .iface 127 (.pointer (some p))) (by rw [Bool.or_true]; exact ⟨(fun h => by cases h), fun _ => ⟨_, _, rfl⟩⟩)
          go_roundg (g - 1)
          case measure => exact hG1
          case rel => exact ⟨_, _, k + 6, k + 6, _, _, rfl, rfl, by go_num, by go_num, Q.2⟩
    have hb2' := hexPre_bd s (k + 8) 4 hO2
    rw [hV2] at hb2'
    have v20 : 0 ≤ V2 := hb2'.1
    have v21 : V2 < 65536 := by have := hb2'.2; simpa using this
    have p2 : ∀ (m c : Nat) (w' : World), Lib.Bytes w' b 0 s → m = 4 → Calls Tryd.prog 63 #[.slice (some ⟨b, k + 8, none⟩) m c] w' fun e w'' => e = .returned (.tuple #[.int .u16 V2, .bool true]) ∧ w'' = w' := fun m c w' hS' hm => by
      have := parseHex_any s b (k + 8) m c w' hm (by omega) hs hS'
      rw [hO2, hV2] at this
      simpa using this
    rw [hO2] at uU1
    clear hO2 hb2' hV2 hY1 hY2
    by_cases y1 : Y1 = 92
    case neg =>
      as_aux_lemma =>
        have us : uS s k = (brk, 6, true) := by rw [uU1, if_neg (fun h => y1 h.1)]
        have y1b : (Y1 != 92) = true := by simpa using y1
        clear y1
        clear uU1 h2 h6 h12
        go_wp2_with (first
          | (go_at_call 60; refine dec.mono ?_; rintro e w2 ⟨rfl, hb2⟩; have hS2 := bytes_block hSr (hb2.block b hblr); have qbs2 := qbs.below hb2; have hB2 := Nat.le_trans hBr hb2.size)
          | (at_builtin; refine wpList_append_bs _ rfl (.tmp 112) (.tmp 116) 46 46 (by rfl) B i0 Tryd.underlying46 hi hz0 hz1 hz2 _ _ rfl qbs2 _ (sub s j k) rfl (sub_by s j k) (src_cells Tryd.underlying46 _ _ _ _ (sub_len s j k) _ _ hz1 (.inr ⟨b, j, rfl, sub_cells hS2 qks⟩)) (by first | omega | (simp; omega) | (simp only [List.length_append, sub_len, bl_len, List.length_cons, List.length_nil]; omega)) (by first | assumption | omega | (simp; omega)) ?_; intro v3 w3 hb3 ha3; have hA3 := (Ap.of_below v' hb2).trans ha3; have hbe3 := (qap.trans hA3).below hv hB; have hS3 := bytes_block hS2 (ha3.block (Nat.lt_of_lt_of_le hblr hb2.size) hbnr); have hB3 := Nat.le_trans hB (qap.trans hA3).size; have hce3 := cellZ hS3 (i := k + 1) (by omega) _ HE.out; have hcy1 := cellZ hS3 (i := k + 6) (by omega) _ HY1.out; have hcy2 := cellZ hS3 (i := k + 7) (by omega) _ HY2.out)
          | (go_at_call 63; refine (p1 _ _ _ hS3 (by omega)).mono ?_; clear p1; rintro e w5 ⟨rfl, hw5⟩; obtain rfl := hw5.symm)
          | (go_at_call 63; refine (p2 _ _ _ hS3 (by omega)).mono ?_; rintro e w5 ⟨rfl, hw5⟩; obtain rfl := hw5.symm)
          | (go_at_call 64; refine (sur_any _ _).mono ?_; rw [hsur]; rintro e w5 ⟨rfl, hw5⟩; obtain rfl := hw5.symm)
          | (go_at_call 62; refine (badEsc_any s _ _ b _ _ (by omega) (by unfold maxLen; omega) hS3).mono ?_; rintro e w4 ⟨p, rfl, hb4⟩)
          | (go_at_call 65; refine (ar_any 65533 (by omega) (by omega) B _ _ _ (hb3.below hb4) (by first | omega | (simp only [List.length_append, sub_len]; omega)) (Nat.le_trans hB3 hb4.size)).mono ?_; rintro e w6 ⟨v6, rfl, hb6, ha6⟩))
        all_goals
          have Q := q.put hk h34 (d := 6) (by rw [us]) (by omega) (c := brk) (by rw [us]) (bad := true) (by rw [us]) hb6 ((hA3.trans (Ap.of_below _ hb4)).trans ha6) (er' := .iface 127 (.pointer (some p))) (by rw [Bool.or_true]; exact ⟨(fun h => by cases h), fun _ => ⟨_, _, rfl⟩⟩)
          go_roundg (g - 1)
          case measure => exact hG1
          case rel => exact ⟨_, _, k + 6, k + 6, _, _, rfl, rfl, by go_num, by go_num, Q.2⟩
    by_cases y2 : Y2 = 117
    case neg =>
      as_aux_lemma =>
        have us : uS s k = (brk, 6, true) := by rw [uU1, if_neg (fun h => y2 h.2.1)]
        have y2b : (Y2 != 117) = true := by simpa using y2
        subst y1
        clear y2
        clear uU1 h2 h6 h12
        go_wp2_with (first
          | (go_at_call 60; refine dec.mono ?_; rintro e w2 ⟨rfl, hb2⟩; have hS2 := bytes_block hSr (hb2.block b hblr); have qbs2 := qbs.below hb2; have hB2 := Nat.le_trans hBr hb2.size)
          | (at_builtin; refine wpList_append_bs _ rfl (.tmp 112) (.tmp 116) 46 46 (by rfl) B i0 Tryd.underlying46 hi hz0 hz1 hz2 _ _ rfl qbs2 _ (sub s j k) rfl (sub_by s j k) (src_cells Tryd.underlying46 _ _ _ _ (sub_len s j k) _ _ hz1 (.inr ⟨b, j, rfl, sub_cells hS2 qks⟩)) (by first | omega | (simp; omega) | (simp only [List.length_append, sub_len, bl_len, List.length_cons, List.length_nil]; omega)) (by first | assumption | omega | (simp; omega)) ?_; intro v3 w3 hb3 ha3; have hA3 := (Ap.of_below v' hb2).trans ha3; have hbe3 := (qap.trans hA3).below hv hB; have hS3 := bytes_block hS2 (ha3.block (Nat.lt_of_lt_of_le hblr hb2.size) hbnr); have hB3 := Nat.le_trans hB (qap.trans hA3).size; have hce3 := cellZ hS3 (i := k + 1) (by omega) _ HE.out; have hcy1 := cellZ hS3 (i := k + 6) (by omega) _ HY1.out; have hcy2 := cellZ hS3 (i := k + 7) (by omega) _ HY2.out)
          | (go_at_call 63; refine (p1 _ _ _ hS3 (by omega)).mono ?_; clear p1; rintro e w5 ⟨rfl, hw5⟩; obtain rfl := hw5.symm)
          | (go_at_call 63; refine (p2 _ _ _ hS3 (by omega)).mono ?_; rintro e w5 ⟨rfl, hw5⟩; obtain rfl := hw5.symm)
          | (go_at_call 64; refine (sur_any _ _).mono ?_; rw [hsur]; rintro e w5 ⟨rfl, hw5⟩; obtain rfl := hw5.symm)
          | (go_at_call 62; refine (badEsc_any s _ _ b _ _ (by omega) (by unfold maxLen; omega) hS3).mono ?_; rintro e w4 ⟨p, rfl, hb4⟩)
          | (go_at_call 65; refine (ar_any 65533 (by omega) (by omega) B _ _ _ (hb3.below hb4) (by first | omega | (simp only [List.length_append, sub_len]; omega)) (Nat.le_trans hB3 hb4.size)).mono ?_; rintro e w6 ⟨v6, rfl, hb6, ha6⟩))
        all_goals
          have Q := q.put hk h34 (d := 6) (by rw [us]) (by omega) (c := brk) (by rw [us]) (bad := true) (by rw [us]) hb6 ((hA3.trans (Ap.of_below _ hb4)).trans ha6) (er' := .iface 127 (.pointer (some p))) (by rw [Bool.or_true]; exact ⟨(fun h => by cases h), fun _ => ⟨_, _, rfl⟩⟩)
          go_roundg (g - 1)
          case measure => exact hG1
          case rel => exact ⟨_, _, k + 6, k + 6, _, _, rfl, rfl, by go_num, by go_num, Q.2⟩
    subst y1 y2
    obtain ⟨R, hR⟩ : ∃ R, pairR V1 V2 = R := ⟨_, rfl⟩
    have hRb := pairR_bd V1 V2
    have hpr : ∀ w' : World, Calls Tryd.prog 66 #[.int .i32 V1, .int .i32 V2] w' fun e w'' => e = .returned (.int .i32 R) ∧ w'' = w' := fun w' => hR ▸ pair_any V1 V2 w' v10 v11 v20 v21
    rw [hR] at uU1 hRb
    clear hR
    by_cases r5 : R = 65533
    case pos =>
      as_aux_lemma =>
        have us : uS s k = (brk, 6, true) := by rw [uU1, if_neg (fun h => h.2.2.2 r5)]
        subst r5
        clear uU1 h2 h6 h12
        go_wp2_with (first
          | (go_at_call 60; refine dec.mono ?_; rintro e w2 ⟨rfl, hb2⟩; have hS2 := bytes_block hSr (hb2.block b hblr); have qbs2 := qbs.below hb2; have hB2 := Nat.le_trans hBr hb2.size)
          | (at_builtin; refine wpList_append_bs _ rfl (.tmp 112) (.tmp 116) 46 46 (by rfl) B i0 Tryd.underlying46 hi hz0 hz1 hz2 _ _ rfl qbs2 _ (sub s j k) rfl (sub_by s j k) (src_cells Tryd.underlying46 _ _ _ _ (sub_len s j k) _ _ hz1 (.inr ⟨b, j, rfl, sub_cells hS2 qks⟩)) (by first | omega | (simp; omega) | (simp only [List.length_append, sub_len, bl_len, List.length_cons, List.length_nil]; omega)) (by first | assumption | omega | (simp; omega)) ?_; intro v3 w3 hb3 ha3; have hA3 := (Ap.of_below v' hb2).trans ha3; have hbe3 := (qap.trans hA3).below hv hB; have hS3 := bytes_block hS2 (ha3.block (Nat.lt_of_lt_of_le hblr hb2.size) hbnr); have hB3 := Nat.le_trans hB (qap.trans hA3).size; have hce3 := cellZ hS3 (i := k + 1) (by omega) _ HE.out; have hcy1 := cellZ hS3 (i := k + 6) (by omega) _ HY1.out; have hcy2 := cellZ hS3 (i := k + 7) (by omega) _ HY2.out)
          | (go_at_call 63; refine (p1 _ _ _ hS3 (by omega)).mono ?_; clear p1; rintro e w5 ⟨rfl, hw5⟩; obtain rfl := hw5.symm)
          | (go_at_call 63; refine (p2 _ _ _ hS3 (by omega)).mono ?_; rintro e w5 ⟨rfl, hw5⟩; obtain rfl := hw5.symm)
          | (go_at_call 64; refine (sur_any _ _).mono ?_; rw [hsur]; rintro e w5 ⟨rfl, hw5⟩; obtain rfl := hw5.symm)
          | (go_at_call 66; refine (hpr _).mono ?_; rintro e w5 ⟨rfl, rfl⟩)
          | (go_at_call 62; refine (badEsc_any s _ _ b _ _ (by omega) (by unfold maxLen; omega) hS3).mono ?_; rintro e w4 ⟨p, rfl, hb4⟩)
          | (go_at_call 65; refine (ar_any 65533 (by omega) (by omega) B _ _ _ (hb3.below hb4) (by first | omega | (simp only [List.length_append, sub_len]; omega)) (Nat.le_trans hB3 hb4.size)).mono ?_; rintro e w6 ⟨v6, rfl, hb6, ha6⟩))
        all_goals
          have Q := q.put hk h34 (d := 6) (by rw [us]) (by omega) (c := brk) (by rw [us]) (bad := true) (by rw [us]) hb6 ((hA3.trans (Ap.of_below _ hb4)).trans ha6) (er' := .iface 127 (.pointer (some p))) (by rw [Bool.or_true]; exact ⟨(fun h => by cases h), fun _ => ⟨_, _, rfl⟩⟩)
          go_roundg (g - 1)
          case measure => exact hG1
          case rel => exact ⟨_, _, k + 6, k + 6, _, _, rfl, rfl, by go_num, by go_num, Q.2⟩
    as_aux_lemma =>
      have us : uS s k = (encU R, 12, false) := by rw [uU1, if_pos ⟨rfl, rfl, rfl, r5⟩]
      have r5b : (R == 65533) = false := by simpa using r5
      obtain ⟨hR0, hR1⟩ := hRb
      clear uU1 r5 h2 h6 h12
      go_wp2_with (first
        | (go_at_call 60; refine dec.mono ?_; rintro e w2 ⟨rfl, hb2⟩; have hS2 := bytes_block hSr (hb2.block b hblr); have qbs2 := qbs.below hb2; have hB2 := Nat.le_trans hBr hb2.size)
        | (at_builtin; refine wpList_append_bs _ rfl (.tmp 112) (.tmp 116) 46 46 (by rfl) B i0 Tryd.underlying46 hi hz0 hz1 hz2 _ _ rfl qbs2 _ (sub s j k) rfl (sub_by s j k) (src_cells Tryd.underlying46 _ _ _ _ (sub_len s j k) _ _ hz1 (.inr ⟨b, j, rfl, sub_cells hS2 qks⟩)) (by first | omega | (simp; omega) | (simp only [List.length_append, sub_len, bl_len, List.length_cons, List.length_nil]; omega)) (by first | assumption | omega | (simp; omega)) ?_; intro v3 w3 hb3 ha3; have hA3 := (Ap.of_below v' hb2).trans ha3; have hbe3 := (qap.trans hA3).below hv hB; have hS3 := bytes_block hS2 (ha3.block (Nat.lt_of_lt_of_le hblr hb2.size) hbnr); have hB3 := Nat.le_trans hB (qap.trans hA3).size; have hce3 := cellZ hS3 (i := k + 1) (by omega) _ HE.out; have hcy1 := cellZ hS3 (i := k + 6) (by omega) _ HY1.out; have hcy2 := cellZ hS3 (i := k + 7) (by omega) _ HY2.out)
        | (go_at_call 63; refine (p1 _ _ _ hS3 (by omega)).mono ?_; clear p1; rintro e w5 ⟨rfl, hw5⟩; obtain rfl := hw5.symm)
        | (go_at_call 63; refine (p2 _ _ _ hS3 (by omega)).mono ?_; rintro e w5 ⟨rfl, hw5⟩; obtain rfl := hw5.symm)
        | (go_at_call 64; refine (sur_any _ _).mono ?_; rw [hsur]; rintro e w5 ⟨rfl, hw5⟩; obtain rfl := hw5.symm)
        | (go_at_call 66; refine (hpr _).mono ?_; rintro e w5 ⟨rfl, rfl⟩)
        | (go_at_call 65; refine (ar_any R hR0 hR1 B _ _ _ hb3 (by first | omega | (simp only [List.length_append, sub_len]; omega)) hB3).mono ?_; rintro e w6 ⟨v6, rfl, hb6, ha6⟩))
      have Q := q.put hk h34 (d := 12) (by rw [us]) (by omega) (c := encU R) (by rw [us]) (bad := false) (by rw [us]) hb6 (hA3.trans ha6) (by rw [Bool.or_false]; exact qer)
      rw [Bool.or_false] at Q
      go_roundg (g - 1)
      case measure => exact hG1
      case rel => exact ⟨_, _, k + 12, k + 12, _, _, rfl, rfl, by go_num, by go_num, Q.2⟩
end Go.Proofs.YtokhmhbjbclcoaaDoor
