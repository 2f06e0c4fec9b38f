/- ZZScan: the codes of a text's bytes. -/
import Derived.Test.YtjbffgjclnjkoaaSw
namespace Go.Proofs.Ytjbffgjclnjkoaa
set_option linter.unusedVariables false
set_option linter.unusedSimpArgs false
open Go.RowKit Go.Shelf

/-- The codes of a text's bytes and of its end, up to the first fault; whether there is none. -/
def codesQ : Sc → List Int → List Int × Bool
  | σ, [] => ([(eofQ σ).1], !(eofQ σ).2.bad)
  | σ, c :: l => if (stepQ σ c).1 = 11 then ([11], false) else ((stepQ σ c).1 :: (codesQ (stepQ σ c).2 l).1, (codesQ (stepQ σ c).2 l).2)
/-- Numbers in a row. -/
def iv (l : List Int) : List Value := l.map (.int .i64)
theorem iv_snoc (l : List Int) (x : Int) : iv (l ++ [x]) = iv l ++ [.int .i64 x] := by simp [iv]
theorem iv_len (l : List Int) : (iv l).length = l.length := by simp [iv]
/-- The scanner stays where a row of other numbers grows. -/
theorem IsS.kept {w w' : World} {b B : Nat} {σ : Sc} {v : Value} {row : Option Nat} (h : IsS w b B σ v) (hg : w.grownBy w' row) (hb : row ≠ some b) (hv : v.ownBlock = none ∨ v.ownBlock ≠ row)
    (hr : ∀ p, row = some p → ∃ cur, w.heap[p]? = some (.cells cur 3 (0, 0))) : IsS w' b B σ v := by
  obtain ⟨e, n, h1, h2⟩ := h.cell
  refine ⟨h.hB, ⟨e, n, (hg.block b h.lt (fun e => hb e.symm)).trans h1, h2.keep fun p s m hp => hg.block p (lt_of_block hp) fun e => ?_⟩, h.row.kept hg hv⟩
  obtain ⟨cur, hc⟩ := hr p e.symm
  rw [hp] at hc
  injection hc with hc
  injection hc with _ h3
  revert h3; decide
/-- The row of the codes lies apart from the scanner. -/
structure Apart (w : World) (b B : Nat) (σ : Sc) (v cv : Value) (l : List Int) : Prop where
  sc : IsS w b B σ v
  row : w.ownsRow B 3 1 cv l.length (iv l)
  ne : ∀ g, cv.ownBlock = some g → g ≠ b ∧ v.ownBlock ≠ some g
theorem Apart.step {w w' : World} {b B : Nat} {σ σ' : Sc} {v v' cv : Value} {l : List Int} (h : Apart w b B σ v cv l) (hS : IsS w' b B σ' v') (hP : Stp b v w v' w') : Apart w' b B σ' v' cv l := by
  refine ⟨hS, ?_, fun g hg => ⟨(h.ne g hg).1, hP.own g (h.row.lt g hg).2 (h.ne g hg).2⟩⟩
  obtain ⟨r1, r2⟩ := h.row
  refine ⟨r1, ?_⟩
  rcases r2 with r2 | ⟨g, cap, cur, hv, hBg, hg, k1⟩
  · exact .inl r2
  · have hn := h.ne g (by rw [hv]; rfl)
    exact .inr ⟨g, cap, cur, hv, hBg, (hP.block g (lt_of_block hg) hn.1 hn.2).trans hg, k1⟩
theorem Apart.grow {w w1 : World} {b B g cap : Nat} {σ : Sc} {v cv : Value} {l : List Int} {x : Int} {o : Obj} (h : Apart w b B σ v cv l) (hgr : (w.alloc o).grownBy w1 cv.ownBlock)
    (hown : w1.ownsRow B 3 1 (.slice (some ⟨g, 0, none⟩) (l.length + 1) cap) (l.length + 1) (iv l ++ [.int .i64 x])) (hgl : cv.ownBlock = some g ∨ g = (w.alloc o).heap.size) :
    Apart w1 b B σ v (.slice (some ⟨g, 0, none⟩) (l.length + 1) cap) (l ++ [x]) ∧ Below w.heap.size w (w.alloc o) := by
  have hSa : IsS (w.alloc o) b B σ v := h.sc.below ((Below.refl _ _).alloc (Nat.le_refl _) _)
  have hra := h.row.alloc o
  refine ⟨⟨hSa.kept hgr (fun e => (h.ne b e).1 rfl) ?_ ?_, ?_, ?_⟩, (Below.refl _ _).alloc (Nat.le_refl _) _⟩
  · cases hvo : v.ownBlock with
    | none => exact .inl rfl
    | some k => exact .inr fun e => (h.ne k e.symm).2 hvo
  · intro p hp
    rcases hra.2 with ⟨e, _⟩ | ⟨g', _, cur, e, _, hg', _⟩
    · rw [e] at hp; cases hp
    · rw [e] at hp
      obtain rfl : g' = p := by simpa [Value.ownBlock] using hp
      exact ⟨cur, hg'⟩
  · rw [iv_snoc, List.length_append]; exact hown
  · intro k hk
    obtain rfl : g = k := by simpa [Value.ownBlock] using hk
    rcases hgl with e | e
    · exact h.ne g e
    · refine ⟨fun eb => ?_, fun ev => ?_⟩
      · have := hSa.lt; omega
      · have := (hSa.own_lt ev).2.1; omega
/-- What ZZScan answers. -/
structure ScanR (w w' : World) (B : Nat) (L : List Int) (fine : Bool) (cv u : Value) : Prop where
  below : Below B w w'
  row : w'.ownsRow B 3 1 cv L.length (iv L)
  ok : fine = true → u = .nilIface
  no : fine = false → ∃ p, u = .iface 74 (.pointer (some p))
theorem codes_nil (σ : Sc) : codesQ σ [] = ([(eofQ σ).1], !(eofQ σ).2.bad) := rfl
theorem codes_cons (σ : Sc) (c : Int) (l : List Int) : codesQ σ (c :: l) = if (stepQ σ c).1 = 11 then ([11], false) else ((stepQ σ c).1 :: (codesQ (stepQ σ c).2 l).1, (codesQ (stepQ σ c).2 l).2) := rfl
set_option maxRecDepth 100000 in
set_option maxHeartbeats 4000000 in
theorem zzScan_any (s : ByteArray) (hs : s.size ≤ 9000) (d cap : Nat) (w : World) (hd : d < w.heap.size) (hD : Lib.Bytes w d 0 s) (hc1 : s.size ≤ cap) (hc2 : cap ≤ maxLen) :
    Calls Try.prog 17 #[.slice (some ⟨d, 0, none⟩) s.size cap] w fun e w' => ∃ cv u, e = .returned (.tuple #[cv, u]) ∧ ScanR w w' w.heap.size (codesQ sc0 (bl s)).1 (codesQ sc0 (bl s)).2 cv u := by
  have hn := new_any w
  obtain ⟨T, hT⟩ : ∃ T, codesQ sc0 (bl s) = T := ⟨_, rfl⟩
  rw [hT]
  have A0 : Aside (([] ++ (codesQ sc0 ((bl s).drop 0)).1, (codesQ sc0 ((bl s).drop 0)).2) = T) := by rw [← hT]; rfl
  have hcI : (cap : Int) ≤ 9223372036854775807 := by unfold maxLen at hc2; omega
  have hsI : (s.size : Int) ≤ 9000 := by omega
  obtain ⟨B, hB⟩ : ∃ B, w.heap.size = B := ⟨_, rfl⟩
  rw [hB] at hn hd ⊢
  have hwB : B ≤ w.heap.size := by omega
  obtain ⟨j0, ji, jz0, jz1, jz2⟩ := info_parts Try.infoInt
  clear hT
  go_enter Try.func17, Try.ntmps17
  go_wp2_with (first | (go_at_call 25; refine hn.mono ?_; rintro e w1 ⟨rfl, hS0, _, hb0⟩))
  have hAp : Apart w1 B B sc0 (.slice none 0 0) (.slice none 0 0) [] := ⟨hS0, ⟨rfl, .inl ⟨rfl, rfl⟩⟩, fun g hg => (by cases hg)⟩
  clear hn hS0
  go_loopg [5, 12] s.size (fun g c i wr => ∃ (k : Nat) (σ : Sc) (v cv : Value) (pre : List Int), i = .int .i64 k ∧ c = cv ∧ k ≤ s.size ∧ s.size - k ≤ g ∧ Apart wr B B σ v cv pre ∧ Below B w wr ∧ Inv σ ∧ σ.stk.length ≤ k ∧ pre.length = k ∧ Aside ((pre ++ (codesQ σ ((bl s).drop k)).1, (codesQ σ ((bl s).drop k)).2) = T))
  case atStart => exact ⟨0, sc0, _, _, [], rfl, rfl, Nat.zero_le _, by omega, hAp, hb0, inv0, Nat.le_refl _, rfl, A0⟩
  case round =>
    clear A0 hAp hb0
    obtain ⟨k, σ, v, cv, pre, rfl, rfl, hk, hg, hA, hbw, hI, hl, hpl, A⟩ := hrel
    have Hpl := Lib.hid hpl
    clear hpl
    have hwr : B ≤ wr.heap.size := Nat.le_trans hwB hbw.size
    by_cases hlt : k < s.size
    case neg =>
      obtain rfl : k = s.size := by omega
      have A' : (pre ++ (codesQ σ ((bl s).drop s.size)).1, (codesQ σ ((bl s).drop s.size)).2) = T := A
      rw [List.drop_of_length_le (by rw [bl_len]; exact Nat.le_refl _), codes_nil] at A'
      have he := eof_any B B σ v wr hA.sc hwr (by omega) hI.bs
      obtain ⟨y, hy⟩ : ∃ y, (eofQ σ).1 = y := ⟨_, rfl⟩
      obtain ⟨σ2, hσ⟩ : ∃ σ2, (eofQ σ).2 = σ2 := ⟨_, rfl⟩
      rw [hy, hσ] at he A'
      clear A hy hσ hD
      have hplI : (pre.length : Int) + 1 ≤ 10000 := by have := Hpl.out; omega
      go_upto_region 13 with (first
        | (go_at_call 26; refine he.mono ?_; rintro e w3 ⟨v3, rfl, hS3, hP3⟩; have hA3 := hA.step hS3 hP3; have hb3 := hbw.trans (hP3.below hA.sc hwr); have hw3 : B ≤ w3.heap.size := (Nat.le_trans hwB hb3.size))
        | (at_builtin; refine wpList_append_lies _ rfl (.tmp 42) (.tmp 45) 37 (by rfl) B 3 j0 (.int .i64 0) 1 8 Try.underlying37 ji jz0 jz1 jz2 rfl (by decide) _ pre.length (iv pre) rfl (World.ownsRow.alloc hA3.row _) ⟨w3.heap.size, 0, none⟩ 1 1 [.int .i64 y] rfl rfl (cell_one_new _ _ _) (by intro u hu; simp at hu; subst hu; rfl) (by decide) (by unfold maxLen; omega) (by omega) (by simp; omega) _ rfl ?_; intro g2 cap2 w4 hown hgr hgl _; obtain ⟨hA4, hb4⟩ := hA3.grow hgr hown hgl; have hb5 : Below B w w4 := (hb3.trans (hb4.mono hw3)).trans ⟨hgr.os, hgr.tape, hgr.output, hgr.size, fun i hi => hgr.block i (by have := hb3.size; have := hb4.size; omega) (fun e => by have := (hA3.row.lt i e.symm).1; omega)⟩))
      obtain ⟨e5, n5, he5, _, _, _, c53, _, f5⟩ := hA4.sc.cells
      have q53 : ∀ nq, (w4.drewN nq).cell? ⟨B, 3, none⟩ = some e5 := fun _ => c53
      have HA4 := Lib.hid hA4.row
      have HB := Lib.hid hb5
      have hlen : (pre ++ [y]).length = pre.length + 1 := by simp
      rw [hlen] at HA4
      have HT : Hid (T = (pre ++ [y], !σ2.bad)) := Lib.hid A'.symm
      have HE := Lib.hid he5
      clear A' hA4 hA hb5 hbw he hl hg hI hgr hown hgl hb4 hA3 hS3 hP3 hb3 c53 f5 hlen
      go_wp2_with fail
      go_quiet (fail)
      go_wp2_with fail
      all_goals go_ret2
      have hR : ScanR w (w4.drewN nq) B T.1 T.2 (.slice (some ⟨g2, 0, none⟩) (pre.length + 1) cap2) e5 := by
        rw [HT.out]
        refine ⟨⟨HB.out.os, HB.out.tape, HB.out.output, HB.out.size, HB.out.block⟩, ?_, fun h => HE.out.1 (by simpa using h), fun h => ?_⟩
        · rw [show (pre ++ [y]).length = pre.length + 1 by simp]; exact HA4.out
        · obtain ⟨p, _, _, e, _⟩ := HE.out.2 (by simpa using h)
          exact ⟨_, e⟩
      first | exact ⟨_, _, rfl, hR⟩ | exact hR
    have hkI : (k : Int) < (s.size : Int) := by omega
    have hcell : wr.cell? ⟨d, k, none⟩ = some (.int .u8 (s[k].toNat : Int)) := by
      have := hD k hlt
      rw [Nat.zero_add] at this
      rw [← this]
      exact World.cell?_of_block (hbw.block d hd)
    have A' : (pre ++ (codesQ σ ((bl s).drop k)).1, (codesQ σ ((bl s).drop k)).2) = T := A
    rw [bl_drop hlt, codes_cons] at A'
    obtain ⟨c, hc⟩ : ∃ c, (s[k].toNat : Int) = c := ⟨_, rfl⟩
    rw [hc] at A' hcell
    clear A hc hD
    obtain ⟨e1, n1, _, _, _, _, _, c4, f0⟩ := hA.sc.cells
    have f4 := f0 4
    have hok := ok_step hI c
    clear f0
    go_upto_region 7 with fail
    have hSN := hA.sc.setN (wrap64 (n1 + 1))
    have hA2 := hA.step hSN (Stp.set B v wr 4 (.int .i64 (wrap64 (n1 + 1))))
    have hb2 := hbw.trans ((Stp.set B v wr 4 (.int .i64 (wrap64 (n1 + 1)))).below hA.sc hwr)
    clear f4 c4 hSN hA hbw hwr
    revert hA2 hb2
    generalize wr.setCell ⟨B, 4, none⟩ (.int .i64 (wrap64 (n1 + 1))) = w2
    intro hA2 hb2
    have hw2 : B ≤ w2.heap.size := Nat.le_trans hwB hb2.size
    have hst := step_any B B σ v c w2 hA2.sc hw2 (by omega) hI.bs
    obtain ⟨e2, n2, _, c20, _, _, _, _, f20⟩ := hA2.sc.cells
    have f200 := f20 0
    unfold fv at c20
    clear f20 hI
    obtain ⟨y, hy⟩ : ∃ y, (stepQ σ c).1 = y := ⟨_, rfl⟩
    obtain ⟨σ2, hσ⟩ : ∃ σ2, (stepQ σ c).2 = σ2 := ⟨_, rfl⟩
    obtain ⟨o1, o2, o3⟩ := hok
    rw [hy, hσ] at hst A'
    rw [hy] at o2
    rw [hσ] at o1 o2 o3
    clear hy hσ
    have hplI : (pre.length : Int) + 1 ≤ 10000 := by have := Hpl.out; omega
    go_upto_region 9 with (first
      | (refine hst.mono ?_; rintro e w3 ⟨v3, rfl, hS3, hP3⟩; have hA3 := hA2.step hS3 hP3; have hb3 := hb2.trans (hP3.below hA2.sc hw2); have hw3 : B ≤ w3.heap.size := (Nat.le_trans hwB hb3.size))
      | (at_builtin; refine wpList_append_lies _ rfl (.tmp 30) (.tmp 32) 37 (by rfl) B 3 j0 (.int .i64 0) 1 8 Try.underlying37 ji jz0 jz1 jz2 rfl (by decide) _ pre.length (iv pre) rfl (World.ownsRow.alloc hA3.row _) ⟨w3.heap.size, 0, none⟩ 1 1 [.int .i64 y] rfl rfl (cell_one_new _ _ _) (by intro u hu; simp at hu; subst hu; rfl) (by decide) (by unfold maxLen; omega) (by omega) (by simp; omega) _ rfl ?_; intro g2 cap2 w4 hown hgr hgl _; obtain ⟨hA4, hb4⟩ := hA3.grow hgr hown hgl; have hb5 : Below B w w4 := (hb3.trans (hb4.mono hw3)).trans ⟨hgr.os, hgr.tape, hgr.output, hgr.size, fun i hi => hgr.block i (by have := hb3.size; have := hb4.size; omega) (fun e => by have := (hA3.row.lt i e.symm).1; omega)⟩))
    clear hst c20 f200 hA2 hb2 hw2 hS3 hP3 hA3 hb3 hown hgr hgl hb4
    have hl' : (pre ++ [y]).length = pre.length + 1 := by simp
    by_cases h11 : y = 11
    · subst h11
      have hbad := o2 rfl
      rw [if_pos rfl] at A'
      obtain ⟨e5, n5, he5, _, _, _, c53, _, f5⟩ := hA4.sc.cells
      obtain ⟨p, _, _, rfl, _, _⟩ := he5.2 hbad
      have q53 : ∀ nq, (w4.drewN nq).cell? ⟨B, 3, none⟩ = some (.iface 74 (.pointer (some ⟨p, 0, none⟩))) := fun _ => c53
      have HA4 := Lib.hid hA4.row
      have HB := Lib.hid hb5
      rw [hl'] at HA4
      have HT : Hid (T = (pre ++ [11], false)) := Lib.hid A'.symm
      clear A' hA4 hb5 c53 f5 hl' hbad o2 o1 he5
      go_wp2_with fail
      go_quiet (fail)
      go_wp2_with fail
      all_goals go_ret2
      have hR : ScanR w (w4.drewN nq) B T.1 T.2 (.slice (some ⟨g2, 0, none⟩) (pre.length + 1) cap2) (.iface 74 (.pointer (some ⟨p, 0, none⟩))) := by
        rw [HT.out]
        refine ⟨⟨HB.out.os, HB.out.tape, HB.out.output, HB.out.size, HB.out.block⟩, ?_, fun h => (by cases h), fun h => ⟨_, rfl⟩⟩
        rw [show (pre ++ [(11 : Int)]).length = pre.length + 1 by simp]; exact HA4.out
      first | exact ⟨_, _, rfl, hR⟩ | exact hR
    · have h11' : (y == 11) = false := by simpa using h11
      rw [if_neg h11] at A'
      have A2 : Aside (((pre ++ [y]) ++ (codesQ σ2 ((bl s).drop (k + 1))).1, (codesQ σ2 ((bl s).drop (k + 1))).2) = T) := by
        show _ = T
        rw [← A', List.append_assoc]
        rfl
      clear A' h11 o2
      go_wp2_with fail
      go_roundg (gk - 1)
      case measure => omega
      case rel => exact ⟨k + 1, σ2, v3, _, pre ++ [y], by go_num, rfl, by omega, by omega, hA4, hb5, o1, by omega, by have := Hpl.out; simp; omega, A2⟩
end Go.Proofs.Ytjbffgjclnjkoaa
