/- The tokens of a pointer by the reference: the walk. -/
import Derived.Test.YtbnnjjilkpdanaaTk
import Derived.Test.YtbnnjjilkpdanaaCb
import Derived.WalkLawsBesides
import Derived.WalkSpells
import Derived.OwnWalk
import Derived.Laws.OwnMore
import Derived.Deep.AppendLies
import Derived.Deep.LoopGhost
import Derived.Deep.Light
import Derived.Outline
namespace Go.Proofs.Ytbnnjjilkpdanaa
open Go.RowKit
set_option linter.unusedVariables false

theorem Try.infoStr : (Try.prog.info? 9).map (fun i => (i.zero, i.size, i.bytes)) = some (some (.string ⟨#[]⟩), 1, 16) := by kernel_rfl
/-- The texts of tokens, in a row. -/
def tv (acc : List (List Int)) : List Value := acc.map fun t => Value.string (txt t)
theorem tv_len (acc : List (List Int)) : (tv acc).length = acc.length := by simp [tv]
def Tks (w : World) (B : Nat) (v : Value) (acc : List (List Int)) : Prop := w.ownsRow B 9 1 v acc.length (tv acc)
theorem tv_add {acc : List (List Int)} (h : acc ≠ []) (x : List Int) : (tv acc).set (acc.length - 1) (.string (txt (acc.getLast?.getD [] ++ x))) = tv (addLast acc x) := by
  obtain ⟨a, b, rfl⟩ : ∃ a b, acc = a ++ [b] := ⟨acc.dropLast, acc.getLast h, (List.dropLast_concat_getLast h).symm⟩
  unfold addLast tv
  simp
/-- What stands in the last cell. -/
theorem tks_last {w : World} {B : Nat} {v : Value} {acc : List (List Int)} (h : Tks w B v acc) (hne : acc ≠ []) :
    ∃ g cap m, v = .slice (some ⟨g, 0, none⟩) (m + 1) cap ∧ acc.length = m + 1 ∧ B ≤ g ∧ cap ≤ maxLen ∧ m + 1 ≤ cap ∧ w.cell? ⟨g, m, none⟩ = some (.string (txt (acc.getLast?.getD []))) ∧ w.frozen? ⟨g, m, none⟩ = false ∧
      (∀ x, Tks (w.setCell ⟨g, m, none⟩ (.string (txt (acc.getLast?.getD [] ++ x)))) B v (addLast acc x)) := by
  have hl : 0 < acc.length := List.length_pos_iff.2 hne
  obtain ⟨m, hm⟩ : ∃ m, acc.length = m + 1 := ⟨acc.length - 1, by omega⟩
  obtain ⟨hlen, h2⟩ := id h
  rcases h2 with ⟨_, h0⟩ | ⟨g, cap, cur, rfl, hB, hg, hn, hcm, hcs, htk⟩
  · omega
  · refine ⟨g, cap, m, by rw [hm], hm, hB, hcm, by omega, ?_, ?_, ?_⟩
    · have hc := World.ownsRow.cellAt h m (by omega)
      rw [hc]
      unfold tv
      rw [List.getElem?_map, List.getLast?_eq_getElem?, hm]
      rw [Nat.add_sub_cancel, List.getElem?_eq_getElem (by omega)]
      rfl
    · exact World.ownsRow.frozenAt h m
    · intro x
      have hst := World.ownsRow.stored h m (.string (txt (acc.getLast?.getD [] ++ x)))
      have e := tv_add hne x
      rw [hm, Nat.add_sub_cancel] at e
      unfold Tks
      rw [num_add x hne, ← e]
      exact hst.1

theorem own_below {w wr w1 : World} {B size n : Nat} {e : TypeId} {v : Value} {xs : List Value} (hB : B ≤ w.heap.size) (hb : Below B w wr) (h : wr.ownsRow B e size v n xs) (hg : wr.grownBy w1 v.ownBlock) : Below B w w1 := by
  refine ⟨hg.os.trans hb.os, hg.tape.trans hb.tape, hg.output.trans hb.output, Nat.le_trans hb.size hg.size, fun k hk => ?_⟩
  have hz := hb.size
  refine (hg.block k (by omega) ?_).trans (hb.block k hk)
  rcases h.2 with ⟨rfl, _⟩ | ⟨g, cap, cur, rfl, hBg, _⟩
  · intro e; cases e
  · intro e; have := Option.some.inj e; simp at this; omega
/-- What is left of a region comes in one order only, by numbers. -/
def seqI (md : Region.Mode) (ops : Array Oper) : List Nat → Array Bool → Bool
  | [], listed => (Region.ready md ops listed).isEmpty
  | i :: is, listed => decide (Region.ready md ops listed = [i]) && seqI md ops is (listed.setIfInBounds i true)
theorem wpAny_idx {P : Program} {md : Region.Mode} {ops : Array Oper} {Q : Exit → Act → World → Prop} : ∀ (is : List Nat) (l : List Oper) (listed : Array Bool) (a : Act) (w : World), (is.map fun i => ops[i]?) = l.map some →
    seqI md ops is listed = true → wpList P ops Q l a w → wpAny P md ops Q is.length listed a w
  | [], [], _, _, _, _, hB, h => ⟨by simpa [seqI] using hB, h⟩
  | [], _ :: _, _, _, _, he, _, _ => by cases he
  | _ :: _, [], _, _, _, he, _, _ => by cases he
  | i :: is, o :: l, listed, a, w, he, hB, h => by
    obtain ⟨h0, he'⟩ := List.cons.inj he
    simp only [seqI, Bool.and_eq_true, decide_eq_true_eq] at hB
    refine ⟨fun h1 => (by rw [hB.1] at h1; cases h1), fun j hj => ?_⟩
    rw [hB.1] at hj
    have hji : j = i := by simpa using hj
    subst hji
    have hw : wpOp P ops Q j (wpList P ops Q l) a w := by unfold wpOp; simp only [h0]; exact h
    exact wpOp_mono (fun a' w' h' => wpAny_idx is l _ a' w' he' hB.2 h') hw

theorem wpAny_some {P : Program} {md : Region.Mode} {ops : List Oper} {Q : Exit → Act → World → Prop} (is : List Nat) {listed : Array Bool} {a : Act} {w : World} (hlt : (is.all fun i => decide (i < ops.length)) = true)
    (hB : seqI md ops.toArray is listed = true) (h : wpList P ops.toArray Q (is.filterMap fun i => ops[i]?) a w) : wpAny P md ops.toArray Q is.length listed a w := by
  refine wpAny_idx is _ listed a w ?_ hB h
  clear h hB
  induction is with
  | nil => rfl
  | cons i is ih =>
    simp only [List.all_cons, Bool.and_eq_true, decide_eq_true_eq] at hlt
    have e : ops[i]? = some ops[i] := List.getElem?_eq_getElem hlt.1
    rw [List.map_cons, List.filterMap_cons, e, ih hlt.2]
    simp [e]

theorem txt_conv (l : List Int) (hl : ∀ x ∈ l, 0 ≤ x ∧ x < 256) (w : World) (T : TypeId) (cap : Nat) :
    (convert 31 9 (.slice (some ⟨w.heap.size, 0, none⟩) l.length cap)).run Try.prog (w.alloc (.cells (l.map (Value.int .u8)).toArray T)) = .ok (.string (txt l)) (w.alloc (.cells (l.map (Value.int .u8)).toArray T)) := by
  have hB : Lib.Bytes (w.alloc (.cells (l.map (Value.int .u8)).toArray T)) w.heap.size 0 (txt l) := by
    intro i hi
    rw [txt_size] at hi
    have hg : (txt l)[i]'(by rw [txt_size]; exact hi) = UInt8.ofNat (l[i]).toNat := by
      show (txt l).data[i]'_ = _
      unfold txt; simp
    have := hl l[i] (List.getElem_mem hi)
    have e : ((UInt8.ofNat (l[i]).toNat).toNat : Int) = l[i] := by
      rw [UInt8.toNat_ofNat']; omega
    rw [hg, e, Nat.zero_add]
    have hh := heap_alloc_new w (.cells (l.map (Value.int .u8)).toArray T)
    simp only [World.cell?, hh]
    simp [hi]
  have h := Lib.run_convert_whole (P := Try.prog) _ 31 5 9 Try.underlying31 Try.underlying5 Try.underlying9 w.heap.size 0 (txt l) hB cap
  rw [txt_size] at h
  exact h
theorem txt_app (a b : List Int) (ha : By8 a) (hb : By8 b) : txt a ++ txt b = txt (a ++ b) := by
  apply bl_inj
  rw [bl_append, bl_txt ha, bl_txt hb, bl_txt (ha.app hb)]
theorem wpOp_val {P : Program} {ops : Array Oper} {Q : Exit → Act → World → Prop} {i : Nat} {o : Oper} {v : Value} {a : Act} {w w' : World} {K : Act → World → Prop} (hi : ops[i]? = some o) (hw : Region.wanted o (yielded ops a.tmps) = true)
    (hr : (execOp a.eval o).run P w = .ok (.value v) w') (h : K (a.put o.dst v) w') : wpOp P ops Q i K a w := by
  unfold wpOp
  simp only [hi, hw, if_true, Oper.wp, hr, Oper.upon]
  exact .inl h
theorem tks_at {w : World} {B g cap m : Nat} {acc : List (List Int)} (h : Tks w B (.slice (some ⟨g, 0, none⟩) (m + 1) cap) acc) (hne : acc ≠ []) :
    w.cell? ⟨g, m, none⟩ = some (.string (txt (acc.getLast?.getD []))) ∧ w.frozen? ⟨g, m, none⟩ = false ∧
      (∀ x, Tks (w.setCell ⟨g, m, none⟩ (.string (txt (acc.getLast?.getD [] ++ x)))) B (.slice (some ⟨g, 0, none⟩) (m + 1) cap) (addLast acc x)) := by
  obtain ⟨g', cap', m', e, h1, h2, h3, h4, h5, h6, h7⟩ := tks_last h hne
  simp only [Value.slice.injEq, Option.some.injEq, Addr.mk.injEq, and_true] at e
  obtain ⟨rfl, e2, rfl⟩ := e
  obtain rfl : m = m' := by omega
  exact ⟨h5, h6, h7⟩

set_option maxRecDepth 100000 in
set_option maxHeartbeats 4000000 in
theorem tokens_any (p : ByteArray) (w : World) (hs : p.size ≤ 10000000000) (ok : PtrOk p) :
    Calls Try.prog 7 #[.string p] w fun e w' => ∃ v, e = .returned v ∧ Tks w' w.heap.size v (toks p) ∧ Below w.heap.size w w' := by
  obtain ⟨i0, hi, hz0, hz1, hz2⟩ := info_parts Try.infoU8
  obtain ⟨j0, ji, jz0, jz1, jz2⟩ := info_parts Try.infoStr
  have h0 : Tks (w.alloc (.cells #[] 9)) w.heap.size (.slice (some ⟨w.heap.size, 0, none⟩) 0 0) [] := World.ownsRow_lit w #[] 0 (Nat.le_refl _) (Nat.zero_le _) rfl
  have I0 : TokI p 0 [] := ⟨by rw [sub_self]; rfl, by simp, by rw [lastSl, sub_self]; rfl, by simp, by simp, by simp⟩
  obtain ⟨R, HR⟩ : ∃ R, Hid (toks p = R) := ⟨_, Lib.hid rfl⟩
  rw [HR.out]
  have A0 : Aside (tokS p p.size 0 [] = R) := HR.out
  go_enter Try.func7, Try.ntmps7
  go_wp2
  go_loopg [3, 4] p.size (fun g v i wr => ∃ (k : Nat) (acc : List (List Int)), i = .int .i64 k ∧ k ≤ p.size ∧ p.size - k ≤ g ∧ Tks wr w.heap.size v acc ∧ TokI p k acc ∧ Below w.heap.size w wr ∧ Aside (tokS p g k acc = R))
  case atStart => exact ⟨0, [], rfl, by omega, by omega, h0, I0, (Below.refl _ _).alloc (Nat.le_refl _) _, A0⟩
  case round =>
    clear h0 I0 A0
    obtain ⟨k, acc, rfl, hks, hg, hown, I, hbel, A⟩ := hrel
    by_cases hk : k < p.size
    · have A' : tokS p gk k acc = R := A
      rw [show gk = gk - 1 + 1 by omega, tokS, if_pos hk] at A'
      have hb := bAt_lt hk
      have hX0 := bAt_nonneg p k
      by_cases h47 : bAt p k = 47
      · rw [if_pos h47] at A'
        have AA : Aside (tokS p (gk - 1) (k + 1) (acc ++ [[]]) = R) := A'
        have I2 := tok_slash I hk h47
        have hd : ((p[k].toNat : Int) == 47) = true := by rw [← hb, h47]; rfl
        have hnum := I.num
        clear A A' hb h47
        go_wp2_with (at_builtin; refine wpList_append_own _ rfl (.tmp 30) (.tmp 31) 23 (by rfl) w.heap.size 9 j0 (.string ⟨#[]⟩) 1 16 Try.underlying23 ji jz0 jz1 jz2 rfl (by decide) _ acc.length (tv acc) rfl (World.ownsRow.alloc hown _) ⟨wr.heap.size, 0, none⟩ 1 1 [.string ⟨#[]⟩] rfl rfl (cell_one_new _ _ _) (by intro u hu; simp at hu; subst hu; rfl) (by unfold maxLen; omega) (by omega) (by have := hbel.size; simp; omega) ?_; intro v1 w1 hown1 hgrow1 hx; clear hx)
        have hown2 : Tks w1 w.heap.size v1 (acc ++ [[]]) := by
          have e : tv (acc ++ [[]]) = tv acc ++ [.string ⟨#[]⟩] := by unfold tv; simp; rfl
          unfold Tks
          rw [e, List.length_append]
          exact hown1
        have hbel2 : Below w.heap.size w w1 := own_below (Nat.le_refl _) (hbel.alloc hbel.size _) (World.ownsRow.alloc hown _) hgrow1
        go_roundg (gk - 1)
        case measure => omega
        case rel => exact ⟨k + 1, _, by go_num, by omega, by omega, hown2, I2, hbel2, AA⟩
      · have hk0 : k ≠ 0 := by rintro rfl; rcases ok.head with h | h; omega; exact h47 h
        have hne : acc ≠ [] := fun e => hk0 (I.emp.1 e)
        obtain ⟨g, cap, m, rfl, hm, hgB, hcm, hmc, hcell, hfz, hset⟩ := tks_last (World.ownsRow.drew hown) hne
        have hcmI : (cap : Int) ≤ 9223372036854775807 := by unfold maxLen at hcm; omega
        have hmcI : (m : Int) + 1 ≤ (cap : Int) := by omega
        clear hcm
        have hd47 : ((p[k].toNat : Int) == 47) = false := by rw [← hb]; simpa using h47
        rw [if_neg h47] at A'
        obtain ⟨last, hlast⟩ : ∃ l, acc.getLast?.getD [] = l := ⟨_, rfl⟩
        have hll : last.length ≤ k ∧ By8 last := by
          rw [← hlast]
          cases hl : acc.getLast? with
          | none => exact ⟨by simp, By8.nil⟩
          | some u => exact ⟨I.len u (List.mem_of_getLast? hl), I.by8 u (List.mem_of_getLast? hl)⟩
        rw [hlast] at hcell
        simp only [hlast] at hset
        have hsz : (txt last).size ≤ k := by rw [txt_size]; exact hll.1
        have hsum : ((txt last).size : Int) + 1 ≤ 9223372036854775807 := by omega
        have hmi : (0 : Int) ≤ (m : Int) := by omega
        have hmw : IntKind.i64.wrap ((m : Int) + 1 - 1) = (m : Int) := by rw [IntKind.wrap_i64]; omega
        have hmw2 : IntKind.i64.wrap (m : Int) = (m : Int) := by rw [IntKind.wrap_i64]; omega
        have hmlt : (m : Int) < (m : Int) + 1 := by omega
        by_cases h126 : bAt p k = 126
        · have ht := ok.tilde k hk h126
          rw [if_pos h126] at A'
          have AA : Aside (tokS p (gk - 1) (k + 2) (addLast acc [tilC (bAt p (k + 1))]) = R) := A'
          have I2 := tok_tilde I hk0 h126 ht.2
          have hk1 : k + 1 < p.size := ht.1
          have hd126 : ((p[k].toNat : Int) == 126) = true := by rw [← hb, h126]; rfl
          have hb1 := bAt_lt hk1
          have hown2 : Tks wr.drew w.heap.size (.slice (some ⟨g, 0, none⟩) (m + 1) cap) acc := World.ownsRow.drew hown
          have hbel2 : Below w.heap.size w wr.drew := hbel.drew
          clear hset
          obtain ⟨C, hC, hcase⟩ : ∃ C : Int, tilC (bAt p (k + 1)) = C ∧ ((p[k + 1].toNat : Int) = 48 ∧ C = 126 ∨ (p[k + 1].toNat : Int) = 49 ∧ C = 47) := by
            refine ⟨_, rfl, ?_⟩
            rcases ht.2 with e | e
            · exact Or.inl ⟨by rw [← hb1, e], by rw [e]; rfl⟩
            · exact Or.inr ⟨by rw [← hb1, e], by rw [e]; rfl⟩
          rw [hC] at AA I2
          have hkw : IntKind.i64.wrap ((k : Int) + 1) = (k : Int) + 1 := by rw [IntKind.wrap_i64]; omega
          have hk2 : (k : Int) + 1 < p.size := by omega
          have hk3 : ((k : Int) + 1).toNat = k + 1 := by omega
          have hk4 : (0 : Int) ≤ (k : Int) + 1 := by omega
          have hlast0 := hlast
          clear A A' hb hb1 h47 h126 ht hC hlast
          go_upto_region 10 with fail
          have hw0 : IntKind.u8.wrap 0 = 0 := rfl
          have hw1 : IntKind.u8.wrap 1 = 1 := rfl
          have hw0 : IntKind.u8.wrap 0 = 0 := rfl
          have hw1 : IntKind.u8.wrap 1 = 1 := rfl
          have hw0 : IntKind.u8.wrap 0 = 0 := rfl
          have hw1 : IntKind.u8.wrap 1 = 1 := rfl
          have hw0 : IntKind.u8.wrap 0 = 0 := rfl
          have hw1 : IntKind.u8.wrap 1 = 1 := rfl
          have hw0 : IntKind.u8.wrap 0 = 0 := rfl
          have hw1 : IntKind.u8.wrap 1 = 1 := rfl
          have hw0 : IntKind.u8.wrap 0 = 0 := rfl
          have hw1 : IntKind.u8.wrap 1 = 1 := rfl
          rcases hcase with ⟨hx, rfl⟩ | ⟨hx, rfl⟩
          · refine wp_region_any (by kernel_rfl) ?_
            try (change wpAny _ _ _ _ _ _ _ (World.drew _))
            refine wpAny_take (i := 0) (v := ?_) rfl (by kernel_rfl) (by kernel_rfl) (by kernel_rfl) (fun _ _ _ h => h) (Or.inl ⟨by rfl, ?_⟩) ?_
            rotate_left
            · intro wx; go_simp; try with_reducible rfl
            rotate_left
            refine wpAny_take (i := 1) (v := ?_) rfl (by kernel_rfl) (by kernel_rfl) (by kernel_rfl) (fun _ _ _ h => h) (Or.inl ⟨by rfl, ?_⟩) ?_
            rotate_left
            · intro wx; go_simp; try with_reducible rfl
            rotate_left
            refine wpAny_take (i := 2) (v := ?_) rfl (by kernel_rfl) (by kernel_rfl) (by kernel_rfl) (fun _ _ _ h => h) (Or.inl ⟨by rfl, ?_⟩) ?_
            rotate_left
            · intro wx; go_simp; try with_reducible rfl
            rotate_left
            refine wpAny_take (i := 3) (v := ?_) rfl (by kernel_rfl) (by kernel_rfl) (by kernel_rfl) (fun _ _ _ h => h) (Or.inl ⟨by rfl, ?_⟩) ?_
            rotate_left
            · intro wx; go_simp; try with_reducible rfl
            rotate_left
            refine wpAny_take (i := 4) (v := ?_) rfl (by kernel_rfl) (by kernel_rfl) (by kernel_rfl) (fun _ _ _ h => h) (Or.inl ⟨by rfl, ?_⟩) ?_
            rotate_left
            · intro wx; go_simp; try with_reducible rfl
            rotate_left
            refine wpAny_take (i := 6) (v := ?_) rfl (by kernel_rfl) (by kernel_rfl) (by kernel_rfl) (fun _ _ _ h => h) (Or.inl ⟨by rfl, ?_⟩) ?_
            rotate_left
            · intro wx; go_simp; try with_reducible rfl
            rotate_left
            refine wpAny_take (i := 7) (v := ?_) rfl (by kernel_rfl) (by kernel_rfl) (by kernel_rfl) (fun _ _ _ h => h) (Or.inl ⟨by rfl, ?_⟩) ?_
            rotate_left
            · intro wx; go_simp; try with_reducible rfl
            rotate_left
            refine wpAny_take (i := 8) (v := ?_) rfl (by kernel_rfl) (by kernel_rfl) (by kernel_rfl) (fun _ _ _ h => h) (Or.inl ⟨by rfl, ?_⟩) ?_
            rotate_left
            · intro wx; go_simp; try with_reducible rfl
            rotate_left
            refine wpAny_take (i := 9) (v := ?_) rfl (by kernel_rfl) (by kernel_rfl) (by kernel_rfl) (fun _ _ _ h => h) (Or.inl ⟨by rfl, ?_⟩) ?_
            rotate_left
            · intro wx; go_simp; try with_reducible rfl
            rotate_left
            refine wpAny_take (i := 10) (v := .int .u8 126) rfl (by kernel_rfl) (by kernel_rfl) (by kernel_rfl) (fun _ _ _ h => h) (Or.inl ⟨by rfl, ?_⟩) ?_
            · intro wx; go_simp; rfl
            simp only [List.getElem_toArray, List.getElem_cons_succ, List.getElem_cons_zero, Act.put, List.setIfInBounds_toArray, List.set_cons_succ, List.set_cons_zero]
            generalize wr.drew = w2 at hbel2 hcell hfz hown2 ⊢
            have hconv : (convert 31 9 (.slice (some ⟨w2.heap.size, 0, none⟩) 1 1)).run Try.prog (w2.alloc (.cells #[.int .u8 126] 5)) = .ok (.string (txt [126])) (w2.alloc (.cells #[.int .u8 126] 5)) := txt_conv [126] (by decide) w2 5 1
            have hown3 := World.ownsRow.alloc hown2 (.cells #[.int .u8 126] 5)
            obtain ⟨hcell3, hfz3, hset3⟩ := tks_at hown3 hne
            simp only [hlast0] at hcell3 hset3
            have HS := Lib.hid (hset3 [126])
            have hbel3 : Below w.heap.size w (w2.alloc (.cells #[.int .u8 126] 5)) := hbel2.alloc hbel2.size _
            have hS1 : (txt [126]).size = 1 := by rw [txt_size]; rfl
            have HC := Lib.hid (txt_app last [126] hll.2 (by intro x hx; simp at hx; omega))
            generalize txt [126] = S at hconv hS1 HC
            have hcc : ¬ 9223372036854775807 < (txt last).size + S.size := by omega
            have H126 := Lib.hid hcc
            have hsI : (p.size : Int) ≤ 10000000000 := by omega
            have HS1 := Lib.hid hS1
            clear hset3 hcc hS1 hs hown2 hown
            refine wpAny_all (rs := [5, 11]) (by kernel_rfl) (by decide) ?_
            intro i hi
            simp only [List.mem_cons, List.not_mem_nil, or_false] at hi
            rcases hi with rfl | rfl
            · refine wpOp_val (v := .string (txt last)) (w' := w2) rfl (by rfl) (by go_simp) ?_
              refine wpAny_some [11, 12, 13, 14, 15] (by kernel_rfl) (by kernel_rfl) ?_
              simp only [List.filterMap_cons, List.filterMap_nil, List.getElem?_cons_succ, List.getElem?_cons_zero, List.getElem_toArray, List.getElem_cons_succ, List.getElem_cons_zero, Act.put, List.setIfInBounds_toArray, List.set_cons_succ, List.set_cons_zero]
              repeat (first | rw [if_neg H126.out] | go_step | go_upon)
              go_wp2_with fail
              go_roundg (gk - 1)
              case measure => go_light; omega
              case rel =>
                go_light
                refine ⟨k + 2, _, congrArg (Value.int .i64) (by omega), by omega, by omega, ?_, I2, ?_, AA⟩
                · rw [HC.out]; exact HS.out
                · exact own_below (Nat.le_refl _) hbel3 hown3 (grownBy_setCell _ _ _ _)
            · refine wpOp_val (v := .slice (some ⟨w2.heap.size, 0, none⟩) 1 1) (w' := w2.alloc (.cells #[.int .u8 126] 5)) rfl (by rfl) (by go_simp) ?_
              refine wpAny_all (rs := [5, 12]) (by kernel_rfl) (by decide) ?_
              intro i hi
              simp only [List.mem_cons, List.not_mem_nil, or_false] at hi
              rcases hi with rfl | rfl
              · refine wpOp_val (v := .string (txt last)) (w' := w2.alloc (.cells #[.int .u8 126] 5)) rfl (by rfl) (by go_simp) ?_
                refine wpAny_some [12, 13, 14, 15] (by kernel_rfl) (by kernel_rfl) ?_
                simp only [List.filterMap_cons, List.filterMap_nil, List.getElem?_cons_succ, List.getElem?_cons_zero, List.getElem_toArray, List.getElem_cons_succ, List.getElem_cons_zero, Act.put, List.setIfInBounds_toArray, List.set_cons_succ, List.set_cons_zero]
                repeat (first | rw [if_neg H126.out] | go_step | go_upon)
                go_wp2_with fail
                go_roundg (gk - 1)
                case measure => go_light; omega
                case rel =>
                  go_light
                  refine ⟨k + 2, _, congrArg (Value.int .i64) (by omega), by omega, by omega, ?_, I2, ?_, AA⟩
                  · rw [HC.out]; exact HS.out
                  · exact own_below (Nat.le_refl _) hbel3 hown3 (grownBy_setCell _ _ _ _)
              · refine wpOp_val (v := .string S) (w' := w2.alloc (.cells #[.int .u8 126] 5)) rfl (by rfl) (by go_simp) ?_
                refine wpAny_some [5, 13, 14, 15] (by kernel_rfl) (by kernel_rfl) ?_
                simp only [List.filterMap_cons, List.filterMap_nil, List.getElem?_cons_succ, List.getElem?_cons_zero, List.getElem_toArray, List.getElem_cons_succ, List.getElem_cons_zero, Act.put, List.setIfInBounds_toArray, List.set_cons_succ, List.set_cons_zero]
                repeat (first | rw [if_neg H126.out] | go_step | go_upon)
                go_wp2_with fail
                go_roundg (gk - 1)
                case measure => go_light; omega
                case rel =>
                  go_light
                  refine ⟨k + 2, _, congrArg (Value.int .i64) (by omega), by omega, by omega, ?_, I2, ?_, AA⟩
                  · rw [HC.out]; exact HS.out
                  · exact own_below (Nat.le_refl _) hbel3 hown3 (grownBy_setCell _ _ _ _)
          · refine wp_region_any (by kernel_rfl) ?_
            try (change wpAny _ _ _ _ _ _ _ (World.drew _))
            refine wpAny_take (i := 0) (v := ?_) rfl (by kernel_rfl) (by kernel_rfl) (by kernel_rfl) (fun _ _ _ h => h) (Or.inl ⟨by rfl, ?_⟩) ?_
            rotate_left
            · intro wx; go_simp; try with_reducible rfl
            rotate_left
            refine wpAny_take (i := 1) (v := ?_) rfl (by kernel_rfl) (by kernel_rfl) (by kernel_rfl) (fun _ _ _ h => h) (Or.inl ⟨by rfl, ?_⟩) ?_
            rotate_left
            · intro wx; go_simp; try with_reducible rfl
            rotate_left
            refine wpAny_take (i := 2) (v := ?_) rfl (by kernel_rfl) (by kernel_rfl) (by kernel_rfl) (fun _ _ _ h => h) (Or.inl ⟨by rfl, ?_⟩) ?_
            rotate_left
            · intro wx; go_simp; try with_reducible rfl
            rotate_left
            refine wpAny_take (i := 3) (v := ?_) rfl (by kernel_rfl) (by kernel_rfl) (by kernel_rfl) (fun _ _ _ h => h) (Or.inl ⟨by rfl, ?_⟩) ?_
            rotate_left
            · intro wx; go_simp; try with_reducible rfl
            rotate_left
            refine wpAny_take (i := 4) (v := ?_) rfl (by kernel_rfl) (by kernel_rfl) (by kernel_rfl) (fun _ _ _ h => h) (Or.inl ⟨by rfl, ?_⟩) ?_
            rotate_left
            · intro wx; go_simp; try with_reducible rfl
            rotate_left
            refine wpAny_take (i := 6) (v := ?_) rfl (by kernel_rfl) (by kernel_rfl) (by kernel_rfl) (fun _ _ _ h => h) (Or.inl ⟨by rfl, ?_⟩) ?_
            rotate_left
            · intro wx; go_simp; try with_reducible rfl
            rotate_left
            refine wpAny_take (i := 7) (v := ?_) rfl (by kernel_rfl) (by kernel_rfl) (by kernel_rfl) (fun _ _ _ h => h) (Or.inl ⟨by rfl, ?_⟩) ?_
            rotate_left
            · intro wx; go_simp; try with_reducible rfl
            rotate_left
            refine wpAny_take (i := 8) (v := ?_) rfl (by kernel_rfl) (by kernel_rfl) (by kernel_rfl) (fun _ _ _ h => h) (Or.inl ⟨by rfl, ?_⟩) ?_
            rotate_left
            · intro wx; go_simp; try with_reducible rfl
            rotate_left
            refine wpAny_take (i := 9) (v := ?_) rfl (by kernel_rfl) (by kernel_rfl) (by kernel_rfl) (fun _ _ _ h => h) (Or.inl ⟨by rfl, ?_⟩) ?_
            rotate_left
            · intro wx; go_simp; try with_reducible rfl
            rotate_left
            refine wpAny_take (i := 10) (v := .int .u8 47) rfl (by kernel_rfl) (by kernel_rfl) (by kernel_rfl) (fun _ _ _ h => h) (Or.inl ⟨by rfl, ?_⟩) ?_
            · intro wx; go_simp; rfl
            simp only [List.getElem_toArray, List.getElem_cons_succ, List.getElem_cons_zero, Act.put, List.setIfInBounds_toArray, List.set_cons_succ, List.set_cons_zero]
            generalize wr.drew = w2 at hbel2 hcell hfz hown2 ⊢
            have hconv : (convert 31 9 (.slice (some ⟨w2.heap.size, 0, none⟩) 1 1)).run Try.prog (w2.alloc (.cells #[.int .u8 47] 5)) = .ok (.string (txt [47])) (w2.alloc (.cells #[.int .u8 47] 5)) := txt_conv [47] (by decide) w2 5 1
            have hown3 := World.ownsRow.alloc hown2 (.cells #[.int .u8 47] 5)
            obtain ⟨hcell3, hfz3, hset3⟩ := tks_at hown3 hne
            simp only [hlast0] at hcell3 hset3
            have HS := Lib.hid (hset3 [47])
            have hbel3 : Below w.heap.size w (w2.alloc (.cells #[.int .u8 47] 5)) := hbel2.alloc hbel2.size _
            have hS1 : (txt [47]).size = 1 := by rw [txt_size]; rfl
            have HC := Lib.hid (txt_app last [47] hll.2 (by intro x hx; simp at hx; omega))
            generalize txt [47] = S at hconv hS1 HC
            have hcc : ¬ 9223372036854775807 < (txt last).size + S.size := by omega
            have H47 := Lib.hid hcc
            have hsI : (p.size : Int) ≤ 10000000000 := by omega
            have HS1 := Lib.hid hS1
            clear hset3 hcc hS1 hs hown2 hown
            refine wpAny_all (rs := [5, 11]) (by kernel_rfl) (by decide) ?_
            intro i hi
            simp only [List.mem_cons, List.not_mem_nil, or_false] at hi
            rcases hi with rfl | rfl
            · refine wpOp_val (v := .string (txt last)) (w' := w2) rfl (by rfl) (by go_simp) ?_
              refine wpAny_some [11, 12, 13, 14, 15] (by kernel_rfl) (by kernel_rfl) ?_
              simp only [List.filterMap_cons, List.filterMap_nil, List.getElem?_cons_succ, List.getElem?_cons_zero, List.getElem_toArray, List.getElem_cons_succ, List.getElem_cons_zero, Act.put, List.setIfInBounds_toArray, List.set_cons_succ, List.set_cons_zero]
              repeat (first | rw [if_neg H47.out] | go_step | go_upon)
              go_wp2_with fail
              go_roundg (gk - 1)
              case measure => go_light; omega
              case rel =>
                go_light
                refine ⟨k + 2, _, congrArg (Value.int .i64) (by omega), by omega, by omega, ?_, I2, ?_, AA⟩
                · rw [HC.out]; exact HS.out
                · exact own_below (Nat.le_refl _) hbel3 hown3 (grownBy_setCell _ _ _ _)
            · refine wpOp_val (v := .slice (some ⟨w2.heap.size, 0, none⟩) 1 1) (w' := w2.alloc (.cells #[.int .u8 47] 5)) rfl (by rfl) (by go_simp) ?_
              refine wpAny_all (rs := [5, 12]) (by kernel_rfl) (by decide) ?_
              intro i hi
              simp only [List.mem_cons, List.not_mem_nil, or_false] at hi
              rcases hi with rfl | rfl
              · refine wpOp_val (v := .string (txt last)) (w' := w2.alloc (.cells #[.int .u8 47] 5)) rfl (by rfl) (by go_simp) ?_
                refine wpAny_some [12, 13, 14, 15] (by kernel_rfl) (by kernel_rfl) ?_
                simp only [List.filterMap_cons, List.filterMap_nil, List.getElem?_cons_succ, List.getElem?_cons_zero, List.getElem_toArray, List.getElem_cons_succ, List.getElem_cons_zero, Act.put, List.setIfInBounds_toArray, List.set_cons_succ, List.set_cons_zero]
                repeat (first | rw [if_neg H47.out] | go_step | go_upon)
                go_wp2_with fail
                go_roundg (gk - 1)
                case measure => go_light; omega
                case rel =>
                  go_light
                  refine ⟨k + 2, _, congrArg (Value.int .i64) (by omega), by omega, by omega, ?_, I2, ?_, AA⟩
                  · rw [HC.out]; exact HS.out
                  · exact own_below (Nat.le_refl _) hbel3 hown3 (grownBy_setCell _ _ _ _)
              · refine wpOp_val (v := .string S) (w' := w2.alloc (.cells #[.int .u8 47] 5)) rfl (by rfl) (by go_simp) ?_
                refine wpAny_some [5, 13, 14, 15] (by kernel_rfl) (by kernel_rfl) ?_
                simp only [List.filterMap_cons, List.filterMap_nil, List.getElem?_cons_succ, List.getElem?_cons_zero, List.getElem_toArray, List.getElem_cons_succ, List.getElem_cons_zero, Act.put, List.setIfInBounds_toArray, List.set_cons_succ, List.set_cons_zero]
                repeat (first | rw [if_neg H47.out] | go_step | go_upon)
                go_wp2_with fail
                go_roundg (gk - 1)
                case measure => go_light; omega
                case rel =>
                  go_light
                  refine ⟨k + 2, _, congrArg (Value.int .i64) (by omega), by omega, by omega, ?_, I2, ?_, AA⟩
                  · rw [HC.out]; exact HS.out
                  · exact own_below (Nat.le_refl _) hbel3 hown3 (grownBy_setCell _ _ _ _)
        · rw [if_neg h126] at A'
          have AA : Aside (tokS p (gk - 1) (k + 1) (addLast acc [bAt p k]) = R) := A'
          have I2 := tok_byte I hk0 h47 h126
          have hd126 : ((p[k].toNat : Int) == 126) = false := by rw [← hb]; simpa using h126
          have hcat : txt last ++ p.extract k (k + 1) = txt (last ++ [bAt p k]) := by
            apply bl_inj
            rw [bl_append, bl_txt hll.2, bl_sub p k (k + 1) (by omega) (by omega), sub_one, bl_txt]
            exact hll.2.app (by intro x hx; simp at hx; have := bAt_le p k; omega)
          have HC := Lib.hid hcat
          have HS := hset [bAt p k]
          have hkw : IntKind.i64.wrap ((k : Int) + 1) = (k : Int) + 1 := by rw [IntKind.wrap_i64]; omega
          have hk1 : (0 : Int) ≤ (k : Int) + 1 := by omega
          have hk2 : (k : Int) + 1 ≤ p.size := by omega
          have hk3 : ((k : Int) + 1).toNat = k + 1 := by omega
          have hk4 : (k : Int) ≤ (k : Int) + 1 := by omega
          clear A A' hb h47 h126 hcat hset hlast
          go_wp2
          refine wp_region_any (by kernel_rfl) ?_
          try (change wpAny _ _ _ _ _ _ _ (World.drew _))
          refine wpAny_take (i := 0) (v := ?_) rfl (by kernel_rfl) (by kernel_rfl) (by kernel_rfl) (fun _ _ _ h => h) (Or.inl ⟨by rfl, ?_⟩) ?_
          rotate_left
          · intro wx; go_simp; try with_reducible rfl
          rotate_left
          refine wpAny_take (i := 1) (v := ?_) rfl (by kernel_rfl) (by kernel_rfl) (by kernel_rfl) (fun _ _ _ h => h) (Or.inl ⟨by rfl, ?_⟩) ?_
          rotate_left
          · intro wx; go_simp; try with_reducible rfl
          rotate_left
          refine wpAny_take (i := 2) (v := ?_) rfl (by kernel_rfl) (by kernel_rfl) (by kernel_rfl) (fun _ _ _ h => h) (Or.inl ⟨by rfl, ?_⟩) ?_
          rotate_left
          · intro wx; go_simp; try with_reducible rfl
          rotate_left
          refine wpAny_take (i := 3) (v := ?_) rfl (by kernel_rfl) (by kernel_rfl) (by kernel_rfl) (fun _ _ _ h => h) (Or.inl ⟨by rfl, ?_⟩) ?_
          rotate_left
          · intro wx; go_simp; try with_reducible rfl
          rotate_left
          refine wpAny_take (i := 4) (v := ?_) rfl (by kernel_rfl) (by kernel_rfl) (by kernel_rfl) (fun _ _ _ h => h) (Or.inl ⟨by rfl, ?_⟩) ?_
          rotate_left
          · intro wx; go_simp; try with_reducible rfl
          rotate_left
          refine wpAny_take (i := 6) (v := ?_) rfl (by kernel_rfl) (by kernel_rfl) (by kernel_rfl) (fun _ _ _ h => h) (Or.inl ⟨by rfl, ?_⟩) ?_
          rotate_left
          · intro wx; go_simp; try with_reducible rfl
          rotate_left
          refine wpAny_take (i := 7) (v := ?_) rfl (by kernel_rfl) (by kernel_rfl) (by kernel_rfl) (fun _ _ _ h => h) (Or.inl ⟨by rfl, ?_⟩) ?_
          rotate_left
          · intro wx; go_simp; try with_reducible rfl
          rotate_left
          refine wpAny_take (i := 8) (v := ?_) rfl (by kernel_rfl) (by kernel_rfl) (by kernel_rfl) (fun _ _ _ h => h) (Or.inl ⟨by rfl, ?_⟩) ?_
          rotate_left
          · intro wx; go_simp; try with_reducible rfl
          rotate_left
          refine wpAny_take (i := 9) (v := ?_) rfl (by kernel_rfl) (by kernel_rfl) (by kernel_rfl) (fun _ _ _ h => h) (Or.inl ⟨by rfl, ?_⟩) ?_
          rotate_left
          · intro wx; go_simp; try with_reducible rfl
          rotate_left
          refine wpAny_take (i := 10) (v := ?_) rfl (by kernel_rfl) (by kernel_rfl) (by kernel_rfl) (fun _ _ _ h => h) (Or.inl ⟨by rfl, ?_⟩) ?_
          rotate_left
          · intro wx; go_simp; try with_reducible rfl
          rotate_left
          refine wpAny_some [5, 11, 12, 13] (by kernel_rfl) (by kernel_rfl) ?_
          simp only [List.filterMap_cons, List.filterMap_nil, List.getElem?_cons_succ, List.getElem?_cons_zero]
          have hbel2 : Below w.heap.size w wr.drew := hbel.drew
          have hown2 : Tks wr.drew w.heap.size (.slice (some ⟨g, 0, none⟩) (m + 1) cap) acc := World.ownsRow.drew hown
          generalize wr.drew = w2 at hbel2 hcell hfz HS hown2 ⊢
          simp only [List.getElem_toArray, List.getElem_cons_succ, List.getElem_cons_zero, Act.put, List.setIfInBounds_toArray, List.set_cons_succ, List.set_cons_zero]
          clear hs
          go_step; go_step; go_step
          rw [if_neg (by omega)]
          go_wp2_with fail
          go_roundg (gk - 1)
          case measure => go_light; omega
          case rel =>
            go_light
            refine ⟨k + 1, _, by go_num, by omega, by omega, ?_, I2, ?_, AA⟩
            · rw [HC.out]; exact HS
            · exact own_below (Nat.le_refl _) hbel2 hown2 (grownBy_setCell _ _ _ _)
    · go_wp2_with fail
      go_ret
      have A' : tokS p gk k acc = R := A
      rw [show tokS p gk k acc = acc by cases gk with
        | zero => rfl
        | succ g => rw [tokS, if_neg hk]] at A'
      subst A'
      exact ⟨_, rfl, hown, hbel⟩
end Go.Proofs.Ytbnnjjilkpdanaa
