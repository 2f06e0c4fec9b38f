/- The reference's codes of a text. -/
import Derived.Test.YtjbffgjclnjkoaaRs
import Derived.Test.YtjbffgjclnjkoaaJt
import Derived.Test.YtjbffgjclnjkoaaOs
import Derived.Test.YtjbffgjclnjkoaaC1
import Derived.Test.YtjbffgjclnjkoaaSb
import Derived.Deep.RegionWith
namespace Go.Proofs.Ytjbffgjclnjkoaa
set_option linter.unusedVariables false
set_option linter.unusedSimpArgs false
open Go.RowKit Go.Shelf

theorem oldRules_any (w : World) : Calls Try.prog 14 #[] w fun e w' => e = .returned (.agg #[.bool true, .bool true]) ∧ Below w.heap.size w w' := by
  go_enter Try.func14, Try.ntmps14
  go_wp2
  have h := heap_alloc_new w (.cells #[.bool true, .bool true] 31)
  have c0 : (w.alloc (.cells #[.bool true, .bool true] 31)).cell? ⟨w.heap.size, 0, none⟩ = some (.bool true) := by simp only [World.cell?, h]; rfl
  have c1 : (w.alloc (.cells #[.bool true, .bool true] 31)).cell? ⟨w.heap.size, 1, none⟩ = some (.bool true) := by simp only [World.cell?, h]; rfl
  clear h
  refine bodyPost_ret (v := .agg #[.bool true, .bool true]) (by simp [results, Try.results14, go_sem, c0, c1]; try rfl) rfl ?_
  exact ⟨rfl, (Below.refl _ _).alloc (Nat.le_refl _) _⟩
theorem outS_len (p : Sp) (c : Int) : (outS p c).2.opn.length ≤ p.opn.length + 1 := by
  unfold outS
  repeat' split
  all_goals simp
  all_goals omega
theorem innS_len (p : Sp) (c : Int) : (innS p c).2.opn = p.opn := by
  unfold innS
  repeat' split
  all_goals rfl
theorem stepS_len (p : Sp) (c : Int) : (stepS p c).2.opn.length ≤ p.opn.length + 1 := by
  unfold stepS
  have h1 := innS_len p c
  split
  · rw [h1]; omega
  · have := outS_len (innS p c).2 c
    rw [h1] at this
    exact this
/-- The row of codes stays where the scanner steps. -/
theorem row_stp {w w' : World} {b B C : Nat} {p : Sp} {v v' cv : Value} {n : Nat} {xs : List Value} (h : w.ownsRow C 2 1 cv n xs) (hI : IsP w b B p v) (hP : Stp b v w v' w') : w'.ownsRow C 2 1 cv n xs := by
  obtain ⟨r1, r2⟩ := h
  refine ⟨r1, ?_⟩
  rcases r2 with r2 | ⟨g, cap, cur, hv, hBg, hg, k1⟩
  · exact .inl r2
  · refine .inr ⟨g, cap, cur, hv, hBg, (hP.block g (lt_of_block hg) (fun e => ?_) (fun e => ?_)).trans hg, k1⟩
    · have hc := hI.cell
      rw [← e, hg] at hc
      injection hc with hc
      injection hc with _ h3
      revert h3; decide
    · obtain ⟨_, ao, cap', hv', _, _, h3⟩ := hI.row
      rcases h3 with ⟨rfl, _⟩ | ⟨g', cur', fr, rfl, _, hg', _⟩
      · rw [hv'] at e; cases e
      · rw [hv'] at e
        obtain rfl : g' = g := by simpa [Value.ownBlock] using e
        rw [hg] at hg'
        injection hg' with hg'
        injection hg' with _ h3
        revert h3; decide
/-- The scanner stays where the row of codes grows. -/
theorem IsP.kept {w w' : World} {b B C : Nat} {p : Sp} {v cv : Value} {n : Nat} {xs : List Value} (h : IsP w b B p v) (hr : w.ownsRow C 2 1 cv n xs) (hg : w.grownBy w' cv.ownBlock) : IsP w' b B p v := by
  have hne : ∀ g, cv.ownBlock = some g → ∃ cur, w.heap[g]? = some (.cells cur 2 (0, 0)) := fun g e => by
    rcases hr.2 with ⟨rfl, _⟩ | ⟨g', cap, cur, rfl, _, hg', _⟩
    · cases e
    · obtain rfl : g' = g := by simpa [Value.ownBlock] using e
      exact ⟨cur, hg'⟩
  refine ⟨h.hB, (hg.block b h.lt (fun e => ?_)).trans h.cell, h.row.kept hg ?_⟩
  · obtain ⟨cur, hc⟩ := hne b e.symm
    rw [h.cell] at hc
    injection hc with hc
    injection hc with _ h3
    revert h3; decide
  · cases hv : v.ownBlock with
    | none => exact .inl rfl
    | some g =>
      refine .inr fun e => ?_
      obtain ⟨cur, hc⟩ := hne g e.symm
      obtain ⟨_, ao, cap', hv', _, _, h3⟩ := h.row
      rcases h3 with ⟨rfl, _⟩ | ⟨g', cur', fr, rfl, _, hg', _⟩
      · rw [hv'] at hv; cases hv
      · rw [hv'] at hv
        obtain rfl : g' = g := by simpa [Value.ownBlock] using hv
        rw [hc] at hg'
        injection hg' with hg'
        injection hg' with _ h3
        revert h3; decide
theorem OutB.below {w w' : World} {n B : Nat} {f a : Int} {o : Bool} (h : OutB w n f a o) (hb : Below B w w') (hn : n < B) : OutB w' n f a o := by
  obtain ⟨T, h⟩ := h
  exact ⟨T, (hb.block n hn).trans h⟩
theorem IsP.alloc {w : World} {b B : Nat} {p : Sp} {v : Value} (h : IsP w b B p v) (o : Obj) : IsP (w.alloc o) b B p v :=
  ⟨h.hB, (Below.heap_alloc _ _ _ h.lt).trans h.cell, h.row.alloc o⟩
/-- The codes as they are appended. -/
structure CdR (w2 w : World) (b B : Nat) (p : Sp) (v cv : Value) (pre : List Int) : Prop where
  sc : IsP w b B p v
  row : w.ownsRow B 2 1 cv pre.length (iv pre)
  below : Below B w2 w
theorem CdR.step {w2 w w' : World} {b B : Nat} {p p' : Sp} {v v' cv : Value} {pre : List Int} (h : CdR w2 w b B p v cv pre) (hI : IsP w' b B p' v') (hP : Stp b v w v' w') : CdR w2 w' b B p' v' cv pre :=
  ⟨hI, row_stp h.row h.sc hP, h.below.trans ⟨hP.os, hP.tape, hP.output, hP.size, fun k hk => hP.block k (by have := h.below.size; have := h.sc.lt; have := h.sc.hB; omega) (by have := h.sc.hB; omega) (fun e => by have := (h.sc.row.lt e).1; omega)⟩⟩
theorem CdR.grow {w2 w w' : World} {b B : Nat} {p : Sp} {v cv cv' : Value} {pre : List Int} {x : Int} {o : Obj} (h : CdR w2 w b B p v cv pre) (hB : B ≤ w2.heap.size) (hg : (w.alloc o).grownBy w' cv.ownBlock) (hr : w'.ownsRow B 2 1 cv' (pre.length + 1) (iv pre ++ [.int .i64 x])) :
    CdR w2 w' b B p v cv' (pre ++ [x]) :=
  ⟨(h.sc.alloc o).kept (World.ownsRow.alloc h.row o) hg, by rw [iv_snoc, List.length_append]; exact hr, (h.below.alloc (Nat.le_trans hB h.below.size) o).trans ⟨hg.os, hg.tape, hg.output, hg.size, fun k hk => hg.block k (by have := h.below.size; simp; omega) (fun e => by have := (h.row.lt k e.symm).1; omega)⟩⟩
theorem CdR.bel {w2 w w' : World} {b B : Nat} {p : Sp} {v cv : Value} {pre : List Int} (h : CdR w2 w b B p v cv pre) (hB : B ≤ w2.heap.size) (hb : Below w.heap.size w w') : CdR w2 w' b B p v cv pre := by
  refine ⟨⟨h.sc.hB, (hb.block b h.sc.lt).trans h.sc.cell, h.sc.row.below hb⟩, ?_, h.below.trans (hb.mono (Nat.le_trans hB h.below.size))⟩
  obtain ⟨r1, r2⟩ := h.row
  refine ⟨r1, ?_⟩
  rcases r2 with r2 | ⟨g, cap, cur, hv, hBg, hg, k1⟩
  · exact .inl r2
  · exact .inr ⟨g, cap, cur, hv, hBg, (hb.block g (lt_of_block hg)).trans hg, k1⟩
theorem CdR.old {w w2 w' : World} {b B B0 : Nat} {p : Sp} {v cv : Value} {pre : List Int} (h : CdR w2 w' b B p v cv pre) (hb : Below B0 w w2) (hB : B0 ≤ B) : OldR w w' B0 pre cv := ⟨hb.trans (h.below.mono hB), World.ownsRow.mono h.row hB⟩
theorem take_bl (s : ByteArray) {a : Nat} (h : a ≤ s.size) : bl (s.extract 0 a) = (bl s).take a := by
  rw [bl_sub s 0 a h (Nat.zero_le _), ← sub_all, ← sub_app s (Nat.zero_le a) h]
  have := List.take_left (l₁ := sub s 0 a) (l₂ := sub s a s.size)
  rw [sub_len, Nat.sub_zero] at this
  exact this.symm
set_option maxRecDepth 100000 in
set_option maxHeartbeats 4000000 in
theorem codes_any (s : ByteArray) (hs : s.size ≤ 9000) (w : World) :
    Calls Try.prog 8 #[.string s] w fun e w' => ∃ cv, e = .returned (.tuple #[cv, .bool (codesQ sc0 (bl s)).2]) ∧ OldR w w' w.heap.size (codesQ sc0 (bl s)).1 cv := by
  have hp := fun w' => parse_ex (fun _ => True) s true true w' (by omega) (fun _ _ _ => trivial) (fun h => by cases h)
  obtain ⟨B0, hB0⟩ : ∃ B0, w.heap.size = B0 := ⟨_, rfl⟩
  obtain ⟨T, hT⟩ : ∃ T, Hid (codesQ sc0 (bl s) = T) := ⟨_, Lib.hid rfl⟩
  rw [hB0, hT.out]
  obtain ⟨j0, ji, jz0, jz1, jz2⟩ := info_parts Try.infoI64
  have hsI : (s.size : Int) ≤ 9000 := by omega
  go_enter Try.func8, Try.ntmps8
  go_upto_region 2 with (first
    | (go_at_call 14; refine (oldRules_any _).mono ?_; rintro e w1 ⟨rfl, hb1⟩)
    | (go_at_call 18; refine (hp _).mono ?_; rintro e w2 ⟨⟨k1, t1, na, nl, nc, ka, kl, kc, σF, rfl, hzF⟩, hb2⟩))
  have HP := Lib.hid hzF.2
  have hb3 : Below B0 w ((w2.alloc (.cells #[.int .u8 k1, .string t1, .slice na nl nc, .slice ka kl kc] 45)).alloc (.cells #[.int .i64 σF.fault, .int .i64 σF.at_, .bool σF.opn] 47)) := by
    have e1 := hb1.size
    have e2 := hb2.size
    rw [← hB0]
    exact (((hb1.trans (hb2.mono e1))).alloc (Nat.le_trans e1 e2) _).alloc (by simp; omega) _
  have hOb : OutB ((w2.alloc (.cells #[.int .u8 k1, .string t1, .slice na nl nc, .slice ka kl kc] 45)).alloc (.cells #[.int .i64 σF.fault, .int .i64 σF.at_, .bool σF.opn] 47)) (w2.heap.size + 1) σF.fault σF.at_ σF.opn := by
    have := heap_alloc_new (w2.alloc (.cells #[.int .u8 k1, .string t1, .slice na nl nc, .slice ka kl kc] 45)) (.cells #[.int .i64 σF.fault, .int .i64 σF.at_, .bool σF.opn] 47)
    exact ⟨47, by simpa using this⟩
  have hbo : w2.heap.size + 1 < ((w2.alloc (.cells #[.int .u8 k1, .string t1, .slice na nl nc, .slice ka kl kc] 45)).alloc (.cells #[.int .i64 σF.fault, .int .i64 σF.at_, .bool σF.opn] 47)).heap.size := by simp
  clear hzF hp hb1 hb2
  revert hb3 hOb hbo
  generalize ((w2.alloc (.cells #[.int .u8 k1, .string t1, .slice na nl nc, .slice ka kl kc] 45)).alloc (.cells #[.int .i64 σF.fault, .int .i64 σF.at_, .bool σF.opn] 47)) = w3
  generalize w2.heap.size + 1 = bo
  intro hb3 hOb hbo
  obtain ⟨hle, hok, hcd⟩ := codes_whole HP.out
  rw [hT.out] at hcd
  have HCD := Lib.hid hcd
  clear hcd
  obtain ⟨f, hf⟩ : ∃ f, σF.fault = f := ⟨_, rfl⟩
  obtain ⟨a, ha⟩ : ∃ a, σF.at_ = a := ⟨_, rfl⟩
  obtain ⟨op, hop⟩ : ∃ op, σF.opn = op := ⟨_, rfl⟩
  rw [hf, ha, hop] at hOb
  rw [hf, ha] at HCD
  rw [ha] at hle hok
  rw [hf, ha, hop]
  have HF := Lib.hid hf
  have HA := Lib.hid ha
  clear hf ha hop
  obtain ⟨B, hB⟩ : ∃ B, w3.heap.size = B := ⟨_, rfl⟩
  rw [hB] at hbo
  have hB3 : B0 ≤ B := by rw [← hB, ← hB0]; exact hb3.size
  have h0 := World.ownsRow_lit (base := w3.heap.size) (e := 2) (size := 1) w3 #[] 0 (Nat.le_refl _) (by decide) (by decide)
  rw [hB] at h0
  have hC : CdR w3 ((w3.alloc (.cells #[] 2)).alloc (.cells #[.slice none 0 0, .int .i64 0, .bool false] 51)) (B + 1) B sp0 (.slice none 0 0) (.slice (some ⟨B, 0, none⟩) 0 0) [] := by
    refine ⟨⟨by omega, ?_, Bs.nil _ _⟩, World.ownsRow.alloc h0 _, ((Below.refl _ _).alloc (by omega) _).alloc (by simp; omega) _⟩
    have := heap_alloc_new (w3.alloc (.cells #[] 2)) (.cells #[.slice none 0 0, .int .i64 0, .bool false] 51)
    have e : (w3.alloc (.cells #[] 2)).heap.size = B + 1 := by simp; omega
    rw [e] at this
    exact this
  go_upto_region 3 with fail
  clear h0
  revert hC
  generalize ((w3.alloc (.cells #[] 2)).alloc (.cells #[.slice none 0 0, .int .i64 0, .bool false] 51)) = w4
  intro hC
  have hwB : B ≤ w3.heap.size := by omega
  have HB := Lib.hid hB
  clear hB
  obtain ⟨L, hL⟩ : ∃ L, codesS sp0 ((bl s).take a) = L := ⟨_, rfl⟩
  rw [hL] at HCD
  have A0 : Aside (([] : List Int) ++ codesS sp0 (((bl s).take a).drop 0) = L ∧ OkS sp0 (((bl s).take a).drop 0)) := ⟨hL, hok⟩
  clear hL hok
  have hO4 := hOb.below hC.below hbo
  obtain ⟨p0, p1, p2, _, _, _⟩ := hO4.cells
  have haI : (a : Int) ≤ (s.size : Int) := by omega
  go_upto_region 4 with fail
  clear p0 p1 p2 hO4
  go_loopg [7, 21] a (fun g c i wr => ∃ (k : Nat) (p : Sp) (v cv : Value) (pre : List Int), i = .int .i64 k ∧ c = cv ∧ k ≤ a ∧ a - k ≤ g ∧ CdR w3 wr (B + 1) B p v cv pre ∧ p.opn.length ≤ k ∧ pre.length = k ∧ Aside (pre ++ codesS p (((bl s).take a).drop k) = L ∧ OkS p (((bl s).take a).drop k)))
  case atStart => exact ⟨0, sp0, _, _, [], rfl, rfl, Nat.zero_le _, by omega, hC, Nat.le_refl _, rfl, A0⟩
  case round =>
    clear A0 hC
    obtain ⟨k, p, v, cv, pre, rfl, rfl, hk, hg, hA, hpl, hpr, A⟩ := hrel
    by_cases hlt : k < a
    case neg =>
      obtain rfl : k = a := by omega
      obtain ⟨A1, _⟩ : pre ++ codesS p (((bl s).take k).drop k) = L ∧ OkS p (((bl s).take k).drop k) := A
      have hnil : ((bl s).take k).drop k = [] := List.drop_of_length_le (by rw [List.length_take]; omega)
      rw [hnil, codesS, List.append_nil] at A1
      subst A1
      clear hnil hk hg hpl
      have hprI : (pre.length : Int) + 2 ≤ 10000 := by omega
      have hwr : B ≤ wr.heap.size := Nat.le_trans hwB hA.below.size
      have hO := hOb.below hA.below hbo
      obtain ⟨p0, p1, p2, q0, q1, q2⟩ := hO.cells
      by_cases hf0 : f = 0
      · have HT : Hid (T = (pre ++ [10], true)) := Lib.hid (by rw [HCD.out, if_pos hf0]; simp [hf0])
        clear HCD HP HF HA hO hOb
        subst hf0
        have hrow := hA.row
        have hpr' : (pre.length : Int) ≤ 9998 := by omega
        clear hpr
        go_wp2_with (first | (at_builtin; refine wpList_append_own _ rfl (.tmp 35) (.tmp 36) 23 (by rfl) B 2 j0 (.int .i64 0) 1 8 Try.underlying23 ji jz0 jz1 jz2 rfl (by decide) _ pre.length (iv pre) rfl (World.ownsRow.alloc hrow _) ⟨wr.heap.size, 0, none⟩ 1 1 [.int .i64 10] rfl rfl (cell_one_new _ _ _) (by intro u hu; simp at hu; subst hu; rfl) (by unfold maxLen; omega) (by omega) (by simp; omega) ?_; intro cv6 w6 hown6 hgr6 hgl2; clear hgl2))
        all_goals go_ret2
        have hA6 := hA.grow hwB hgr6 hown6
        rw [HT.out]
        first | exact ⟨_, rfl, hA6.old hb3 hB3⟩ | exact hA6.old hb3 hB3
      · have hf0' : (f == 0) = false := by simpa using hf0
        obtain ⟨t, ht⟩ : ∃ t, validQ sc0 ((bl s).take k) = t := ⟨_, rfl⟩
        have HT : Hid (T = (pre ++ (if t = true then [10, 11] else [11]), false)) := Lib.hid (by rw [HCD.out, if_neg hf0, ht]; simp [hf0])
        have tk : ∀ w' : World, Calls Try.prog 13 #[.string (s.extract 0 k), .agg #[.bool true, .bool true]] w' fun e w'' => (∃ o, e = .returned (.tuple #[.bool t, .bool o])) ∧ Below w'.heap.size w' w'' := fun w' =>
          (taken_ex (fun _ => True) (s.extract 0 k) true true w' (by rw [ByteArray.size_extract]; omega) (fun _ _ _ => trivial) (fun h => by cases h)).mono fun e w'' ⟨⟨t', o, σG, h1, h2, h3⟩, h4⟩ => by
            refine ⟨⟨o, ?_⟩, h4⟩
            have hv := parse_valid h2.2
            rw [take_bl s hle, ht] at hv
            have : t' = t := by
              rw [h3]
              cases t
              · simp at hv; simpa using hv
              · simp at hv; simpa using hv
            rw [h1, this]
        clear HCD HP HF HA ht hf0
        have hAd : CdR w3 wr.drew (B + 1) B p v u7 pre := hA.bel hwB (Below.refl _ _).drew
        have hOd : OutB wr.drew bo f k op := hO
        have hkI : (k : Int) ≤ (s.size : Int) := haI
        have hpr' : (pre.length : Int) ≤ 9998 := by omega
        clear hpr
        go_upto_region 10 with fail
        clear p0 p1 p2 q0 q1 q2 hO hA
        have hbod : bo < wr.drew.heap.size := Nat.lt_of_lt_of_le hbo (Nat.le_trans hwB hAd.below.size)
        obtain ⟨p0, p1, p2, q0, q1, q2⟩ := hOd.cells
        go_region_with (first
          | (go_at_call 14; refine (oldRules_any _).mono ?_; rintro e w7 ⟨rfl, hb7⟩; obtain ⟨p70, p71, p72, q70, q71, q72⟩ := (hOd.below hb7 hbod).cells)
          | (go_at_call 13; refine (tk _).mono ?_; rintro e w8 ⟨⟨o8, rfl⟩, hb8⟩))
        all_goals
          have hA8 : CdR w3 w8 (B + 1) B p v u7 pre := hAd.bel hwB (hb7.trans (hb8.mono hb7.size))
          have hrow8 := hA8.row
          have hw8 : B ≤ w8.heap.size := Nat.le_trans hwB hA8.below.size
          clear p0 p1 p2 q0 q1 q2 p70 p71 p72 q70 q71 q72 hAd hOd hOb hb7 hb8 tk
          cases t
          · go_wp2_with (first | (at_builtin; refine wpList_append_own _ rfl (.tmp 51) (.tmp 52) 23 (by rfl) B 2 j0 (.int .i64 0) 1 8 Try.underlying23 ji jz0 jz1 jz2 rfl (by decide) _ pre.length (iv pre) rfl (World.ownsRow.alloc hrow8 _) ⟨w8.heap.size, 0, none⟩ 1 1 [.int .i64 11] rfl rfl (cell_one_new _ _ _) (by intro u hu; simp at hu; subst hu; rfl) (by unfold maxLen; omega) (by omega) (by simp; omega) ?_; intro cv9 w9 hown9 hgr9 hgl2; clear hgl2))
            all_goals go_ret2
            have hA9 := hA8.grow hwB hgr9 hown9
            rw [HT.out]
            first | exact ⟨_, rfl, hA9.old hb3 hB3⟩ | exact hA9.old hb3 hB3
          · go_upto_region 13 with (first | (at_builtin; refine wpList_append_own _ rfl (.tmp 48) (.tmp 49) 23 (by rfl) B 2 j0 (.int .i64 0) 1 8 Try.underlying23 ji jz0 jz1 jz2 rfl (by decide) _ pre.length (iv pre) rfl (World.ownsRow.alloc hrow8 _) ⟨w8.heap.size, 0, none⟩ 1 1 [.int .i64 10] rfl rfl (cell_one_new _ _ _) (by intro u hu; simp at hu; subst hu; rfl) (by unfold maxLen; omega) (by omega) (by simp; omega) ?_; intro cv9 w9 hown9 hgr9 hgl2; clear hgl2))
            have hA9 := hA8.grow hwB hgr9 hown9
            have HT2 : Hid (T = ((pre ++ [10]) ++ [11], false)) := Lib.hid (by rw [HT.out, List.append_assoc]; rfl)
            have hl9 : (pre ++ [10]).length = pre.length + 1 := by simp
            have hpr9 : ((pre ++ [(10 : Int)]).length : Int) ≤ 9999 := by rw [hl9]; omega
            revert hA9 HT2 hpr9
            generalize pre ++ [(10 : Int)] = pre9
            intro hA9 HT2 hpr9
            have hrow9 := hA9.row
            have hw9 : B ≤ w9.heap.size := Nat.le_trans hwB hA9.below.size
            clear hA8 hrow8 hown9 hgr9 HT hl9
            go_wp2_with (first | (at_builtin; refine wpList_append_own _ rfl (.tmp 51) (.tmp 52) 23 (by rfl) B 2 j0 (.int .i64 0) 1 8 Try.underlying23 ji jz0 jz1 jz2 rfl (by decide) _ pre9.length (iv pre9) rfl (World.ownsRow.alloc hrow9 _) ⟨w9.heap.size, 0, none⟩ 1 1 [.int .i64 11] rfl rfl (cell_one_new _ _ _) (by intro u hu; simp at hu; subst hu; rfl) (by unfold maxLen; omega) (by omega) (by simp; omega) ?_; intro cv10 w10 hown10 hgr10 hgl2; clear hgl2))
            all_goals go_ret2
            have hA10 := hA9.grow hwB hgr10 hown10
            rw [HT2.out]
            first | exact ⟨_, rfl, hA10.old hb3 hB3⟩ | exact hA10.old hb3 hB3
    have hks : k < s.size := by omega
    have hd : ((bl s).take a).drop k = bAt s k :: ((bl s).take a).drop (k + 1) := by
      rw [List.drop_take, List.drop_take, gdrop hks, show a - k = (a - (k + 1)) + 1 by omega, List.take_succ_cons]
    obtain ⟨A1, A2⟩ : pre ++ codesS p (((bl s).take a).drop k) = L ∧ OkS p (((bl s).take a).drop k) := A
    rw [hd] at A1 A2
    have hst := stepP_any (B + 1) B p v (bAt s k) wr hA.sc (Nat.le_trans hwB hA.below.size) (by omega) A2.1
    have hlen := stepS_len p (bAt s k)
    have A3 : pre ++ ((stepS p (bAt s k)).1 :: codesS (stepS p (bAt s k)).2 (((bl s).take a).drop (k + 1))) = L := A1
    have A4 : OkS (stepS p (bAt s k)).2 (((bl s).take a).drop (k + 1)) := A2.2
    clear A1 A2 hd
    generalize hr : stepS p (bAt s k) = r at hst hlen A3 A4
    obtain ⟨y, p'⟩ := r
    dsimp only at hlen A3 A4
    rw [bAt_lt hks] at hst
    clear hr
    have hkaI : (k : Int) < (a : Int) := by omega
    have HPR := Lib.hid hpr
    have hprI : (pre.length : Int) + 1 ≤ 10000 := by omega
    clear hpr
    go_upto_region 7 with (first
      | (go_at_call 19; refine hst.mono ?_; rintro e w5 ⟨v5, rfl, hI5, hP5⟩; have hA5 := hA.step hI5 hP5; have hrow5 := hA5.row; have hw5 : B ≤ w5.heap.size := Nat.le_trans hwB hA5.below.size)
      | (at_builtin; refine wpList_append_own _ rfl (.tmp 24) (.tmp 29) 23 (by rfl) B 2 j0 (.int .i64 0) 1 8 Try.underlying23 ji jz0 jz1 jz2 rfl (by decide) _ pre.length (iv pre) rfl (World.ownsRow.alloc hrow5 _) ⟨w5.heap.size, 0, none⟩ 1 1 [.int .i64 y] rfl rfl (cell_one_new _ _ _) (by intro u hu; simp at hu; subst hu; rfl) (by unfold maxLen; omega) (by omega) (by simp; omega) ?_; intro cv6 w6 hown hgr hgl2; clear hgl2))
    have hA6 : CdR w3 w6 (B + 1) B p' v5 cv6 (pre ++ [y]) := hA5.grow hwB hgr hown
    clear hown hgr hrow5 hA5 hA hst
    go_wp2_with fail
    go_roundg (gk - 1)
    case measure => omega
    case rel => exact ⟨k + 1, p', v5, cv6, pre ++ [y], by go_num, rfl, by omega, by omega, hA6, by omega, by have := HPR.out; simp; omega, ⟨by rw [List.append_assoc]; exact A3, A4⟩⟩
end Go.Proofs.Ytjbffgjclnjkoaa
