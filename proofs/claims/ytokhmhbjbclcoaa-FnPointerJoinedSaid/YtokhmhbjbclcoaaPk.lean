/- The tokens of a pointer as the thin package collects them. -/
import Derived.Test.YtokhmhbjbclcoaaIt
import Derived.Shelf.Abstract
import Derived.RangeFuncNested
namespace Go.Proofs.Ytokhmhbjbclcoaa
set_option linter.unusedVariables false
set_option linter.unusedSimpArgs false
open Go.RowKit Go.Shelf

/-- The box holds a row of tokens. -/
def TI (B Bo : Nat) (pre : List (List Int)) (W : World) : Prop := ∃ v, Boxed W Bo 23 v ∧ Tks W B v pre ∧ ∃ g cap, v = .slice (some ⟨g, 0, none⟩) pre.length cap
theorem TI.kept {B Bo : Nat} {pre : List (List Int)} {W W' : World} {row : Option Nat} (h : TI B Bo pre W) (hg : W.grownBy W' row) (hne : some Bo ≠ row) (hrow : ∀ r, row = some r → ∀ cur fr, W.heap[r]? ≠ some (.cells cur 9 fr)) : TI B Bo pre W' := by
  obtain ⟨v, h1, h2, h3⟩ := h
  refine ⟨v, h1.kept hg hne, ?_, h3⟩
  refine World.ownsRow.kept h2 hg ?_
  rcases h2.2 with ⟨rfl, _⟩ | ⟨g, cap, cur, rfl, _, hgb, _⟩
  · exact .inl rfl
  · refine .inr fun e => ?_
    exact hrow g e.symm _ _ hgb
theorem TI.below {B Bo : Nat} {pre : List (List Int)} {W W' : World} (h : TI B Bo pre W) (hb : Below W.heap.size W W') : TI B Bo pre W' :=
  h.kept (row := none) ⟨hb.os, hb.tape, hb.output, hb.size, fun k hk _ => hb.block k hk⟩ (by simp) (fun r e => by cases e)
theorem TI.set {B Bo Bx : Nat} {pre : List (List Int)} {W : World} {q u : Value} (h : TI B Bo pre W) (hx : Boxed W Bx 30 q) (hne : Bo ≠ Bx) : TI B Bo pre (W.setCell ⟨Bx, 0, none⟩ u) :=
  h.kept (grownBy_setCell' W Bx u) (fun e => hne (Option.some.inj e)) (fun r e cur fr => by
    obtain rfl := Option.some.inj e
    intro h2
    have := (show W.heap[Bx]? = _ from hx).symm.trans h2
    injection this with this
    injection this with _ h3
    revert h3
    decide)
theorem TI.put {B Bo l : Nat} {pre : List (List Int)} {W : World} {o : Obj} (h : TI B Bo pre W) (hl : W.heap[l]? = some o) (ho : o.isCells = false) (o' : Obj) : TI B Bo pre (W.putObj l o') := by
  refine h.kept (grownBy_putObj' W l o') (fun e => ?_) (fun r e cur fr h2 => ?_)
  · obtain ⟨v, h1, _⟩ := h
    obtain rfl := Option.some.inj e
    rw [show W.heap[Bo]? = _ from h1] at hl
    cases hl; cases ho
  · obtain rfl := Option.some.inj e
    rw [hl] at h2
    cases h2; cases ho
/-- What holds between two rounds. -/
structure JT (w : World) (B Bo Bx l : Nat) (r : Loop) (pre : List (List Int)) (W : World) : Prop where
  ti : TI B Bo pre W
  below : Below B w W
  box : ∃ q, Boxed W Bx 30 q
  lp : W.heap[l]? = some (.loop r)
  df : W.heap[l - 1]? = some (.deferred (some []))
theorem JT.one {w : World} {B Bo Bx l : Nat} {r : Loop} {pre : List (List Int)} {W : World} (h : JT w B Bo Bx l r pre W) (hne : Bo ≠ Bx) (hB : B ≤ Bx) (q : ByteArray) : JT w B Bo Bx l r pre (W.setCell ⟨Bx, 0, none⟩ (.string q)) := by
  obtain ⟨q0, hq⟩ := h.box
  have other : ∀ (k : Nat) (o : Obj), W.heap[k]? = some o → o.isCells = false → (W.setCell ⟨Bx, 0, none⟩ (.string q)).heap[k]? = some o := fun k o hk ho =>
    (KeepsOthers.setCell W ⟨Bx, 0, none⟩ (.string q)).same k o hk ho
  exact ⟨h.ti.set hq hne, h.below.setCell (p := ⟨Bx, 0, none⟩) hB _, ⟨_, hq.set _⟩, other _ _ h.lp rfl, other _ _ h.df rfl⟩
theorem JT.two {w : World} {B Bo Bx l : Nat} {r : Loop} {pre : List (List Int)} {W W' : World} (h : JT w B Bo Bx l r pre W) (hB : B ≤ W.heap.size) (hb : Below W.heap.size W W') : JT w B Bo Bx l r pre W' := by
  obtain ⟨q0, hq⟩ := h.box
  have blk : ∀ (k : Nat) (o : Obj), W.heap[k]? = some o → W'.heap[k]? = some o := fun k o hk => (hb.block k (Array.getElem?_eq_some_iff.1 hk).1).trans hk
  exact ⟨h.ti.below hb, h.below.trans (hb.mono hB), ⟨q0, blk _ _ hq⟩, blk _ _ h.lp, blk _ _ h.df⟩

set_option maxRecDepth 100000 in
theorem tokens_mk (p : ByteArray) (w : World) :
    Calls Try.prog 10 #[.string p] w fun e w' => e = .returned (.func (.func 14) #[] #[.pointer (some ⟨w.heap.size, 0, none⟩)]) ∧ w' = w.alloc (.cells #[.string p] 30) := by
  go_enter Try.func10, Try.ntmps10
  go_wp2
  go_ret
  exact ⟨rfl, rfl⟩

/-- The statement 'for token := range p.Tokens()', for a body that collects. -/
theorem range_tok {a : Act} {asg body : Code} {Q : Exit → Act → World → Prop} {W0 w : World} {gs : Operand} {p : ByteArray} (hs : p.size ≤ 1000000) (hp : p.size = 0 ∨ bAt p 0 = 47) (B Bo Bx : Nat)
    (hg : a.eval gs = .func (.func 14) #[] #[.pointer (some ⟨Bx, 0, none⟩)]) (hTI : TI B Bo [] W0) (hbx : Boxed W0 Bx 30 (.string p)) (hbl : Below B w W0) (hne : Bo ≠ Bx) (hBx : B ≤ Bx)
    (a₁ : List Int → Act)
    (hassign : ∀ (l : Nat) (t : List Int) (W : World) (K : Act → World → Prop), K (a₁ t) W → asg.wpIn (Fence.wide.inRound l) 9 Try.prog (Exit.then K (fun _ _ _ => False)) { tmps := ((#[8] : Array Tmp).zip #[Value.string (txt t)]).foldl (fun t (p, v) => t.setIfInBounds p v) a.tmps, defers := [] } W)
    (hbody : ∀ (l : Nat) (pre : List (List Int)) (t : List Int) (W : World) (q : ByteArray), TI B Bo pre W → Boxed W Bx 30 (.string q) → pre.length < p.size → B ≤ W.heap.size →
      body.wpIn (Fence.wide.inRound l) 9 Try.prog (fun e _ W' => e = .normal ∧ TI B Bo (pre ++ [t]) W' ∧ Boxed W' Bx 30 (.string q) ∧ Below B W W' ∧ KeepsOthers W W') (a₁ t) W)
    (hdone : ∀ (D : Nat) (W : World), W0.heap.size ≤ D → TI B Bo (tkl p) W → Below B w W → W.heap[D]? = some (.deferred (some [])) → Q .normal { a with defers := { target := .collected D, args := #[] } :: a.defers } W) :
    (Code.rangeFunc gs #[8] asg body).wp Try.prog Q a W0 := by
  refine wpIn_wide.1 (wpIn_rangeFunc (F := Fence.wide) (n := 9) ?_)
  intro fn _
  have hB0 : B ≤ W0.heap.size := by have := hbx.lt; omega
  have eg : ∀ args w, (callFunc 14 args).run Try.prog w = .ok (.enter 14 args) w := enters_of Try.func14 (by kernel_rfl) rfl
  obtain ⟨rc, hrc⟩ : ∃ rc : Loop, rc = { state := .ready, pending := none, fn := fn, tmps := a.tmps, params := #[8], assign := asg, body := body, defers := W0.heap.size } := ⟨_, rfl⟩
  obtain ⟨W1, hW1⟩ : ∃ W1, (W0.alloc (.deferred (some []))).alloc (.loop rc) = W1 := ⟨_, rfl⟩
  refine ⟨W0.heap.size + 1, [{ target := .collected W0.heap.size, args := #[] }], W1, { target := .fn (.func 14) #[.pointer (some ⟨Bx, 0, none⟩)], args := #[.func (.yield (W0.heap.size + 1)) #[] #[]] }, W1, 14,
    #[.func (.yield (W0.heap.size + 1)) #[] #[], .pointer (some ⟨Bx, 0, none⟩)], W1, ?_, ?_, fun _ _ => trivial, ?_, fun _ => by omega, ?_⟩
  · rw [← hW1, hrc]
    exact run_enterLoop_outer fn _ _ _ _
  · simp only [resolve, hg]
    simp [go_sem]
  · simp [invoke, go_sem, eg]
  · obtain ⟨l, hl⟩ : ∃ l, l = W0.heap.size + 1 := ⟨_, rfl⟩
    rw [← hl]
    have hL1 : W1.heap[l]? = some (.loop rc) := by
      rw [← hW1, hl]; have := World.alloc_heap_new (W0.alloc (.deferred (some []))) (.loop rc); rwa [World.size_alloc] at this
    have hK1 : W1.heap[l - 1]? = some (.deferred (some [])) := by
      rw [← hW1, hl, Nat.add_sub_cancel]; exact (Below.heap_alloc _ _ _ (by simp)).trans (World.alloc_heap_new W0 _)
    have hbW : Below W0.heap.size W0 W1 := by rw [← hW1]; exact ((Below.refl _ W0).alloc (Nat.le_refl _) _).alloc (by simp) _
    have hbx1 : Boxed W1 Bx 30 (.string p) := (hbW.block Bx hbx.lt).trans hbx
    have J0 : JT w B Bo Bx l rc [] W1 := ⟨hTI.below hbW, hbl.trans (hbW.mono hB0), ⟨_, hbx1⟩, hL1, hK1⟩
    have hBJ : ∀ {pre W}, JT w B Bo Bx l rc pre W → B ≤ W.heap.size := fun h => by obtain ⟨q, hq⟩ := h.box; have := hq.lt; omega
    refine callsIn_wide.2 ((tok_it l Bx 9 p hs hp (JT w B Bo Bx l rc) (fun pre W q h => h.one hne hBx q) (fun pre W W' h hb => h.two (hBJ h) hb) ?_ W1 hbx1 J0).mono ?_)
    · intro pre t W q hJ hq hlen h8 htl
      have hy := run_yield (P := Try.prog) (args := #[.string (txt t)]) hJ.lp (by rw [hrc]; rfl)
      rw [hrc] at hy
      refine ⟨fn, _, asg, body, hy, roundIn_of_wpIn trivial ?_⟩
      refine hassign l t W _ ?_
      refine ⟨_, run_beginRound hJ.lp (by rw [hrc]), ?_⟩
      have hll : l < W.heap.size := (Array.getElem?_eq_some_iff.1 hJ.lp).1
      have hl2 := World.putObj_heap_same (w := W) (r := l) (o := .loop { rc with state := .busy }) hll
      have hk2 : (W.putObj l (.loop { rc with state := .busy })).heap[l - 1]? = some (.deferred (some [])) := (World.putObj_heap_other (by omega)).trans hJ.df
      have hBl : B ≤ l := by omega
      have hbp : ∀ (X : World) (o o' : Obj), X.heap[l]? = some o → Below B X (X.putObj l o') := fun X o o' hx =>
        (Below.refl B X).grown (grownBy_putObj' X l o') (by have := (Array.getElem?_eq_some_iff.1 hx).1; omega) (fun k e => by cases e; exact hBl)
      have hxl : Bx ≠ l := by have := hbx.lt; omega
      have hq2 : Boxed (W.putObj l (.loop { rc with state := .busy })) Bx 30 (.string q) := (World.putObj_heap_other hxl).trans hq
      refine wpIn_mono (hbody l pre t _ q (hJ.ti.put hJ.lp rfl _) hq2 hlen (by simp; have := hBJ hJ; omega)) ?_
      rintro e a3 W3 ⟨rfl, hT3, hq3, hb3, hk3⟩
      have hl3 := hk3.same _ _ hl2 rfl
      refine ⟨_, _, run_endRound (P := Try.prog) none hl3, rfl, ?_, (World.putObj_heap_other hxl).trans hq3⟩
      have hlt3 := (Array.getElem?_eq_some_iff.1 hl3).1
      refine ⟨hT3.put hl3 rfl _, (hJ.below.trans ((hbp W _ _ hJ.lp).trans hb3)).trans (hbp W3 _ _ hl3), ⟨_, (World.putObj_heap_other hxl).trans hq3⟩, ?_, (World.putObj_heap_other (by omega)).trans (hk3.same _ _ hk2 rfl)⟩
      rw [World.putObj_heap_same hlt3, hrc]
      rfl
    · rintro e W2 ⟨⟨v, rfl⟩, hJ⟩
      have hend := run_endLoop (P := Try.prog) hJ.lp (by rw [hrc]; simp)
      rw [hrc] at hend
      have hll : l < W2.heap.size := (Array.getElem?_eq_some_iff.1 hJ.lp).1
      have hD : l - 1 = W0.heap.size := by omega
      refine ⟨none, _, hend, hdone W0.heap.size _ (Nat.le_refl _) (hJ.ti.put hJ.lp rfl _) ?_ (by rw [← hD]; exact (World.putObj_heap_other (by omega)).trans hJ.df)⟩
      exact hJ.below.trans ((Below.refl B W2).grown (grownBy_putObj' W2 l _) (by omega) (fun k e => by cases e; omega))

attribute [local go_sem] Oper.semAt_some
set_option maxRecDepth 100000 in
set_option maxHeartbeats 4000000 in
theorem ptok_any (p : ByteArray) (w : World) (hs : p.size ≤ 1000000) (hp : p.size = 0 ∨ bAt p 0 = 47) :
    Calls Try.prog 5 #[.string p] w fun e w' => ∃ g cap, e = .returned (.slice (some ⟨g, 0, none⟩) (tkl p).length cap) ∧ Tks w' w.heap.size (.slice (some ⟨g, 0, none⟩) (tkl p).length cap) (tkl p) ∧ Below w.heap.size w w' := by
  obtain ⟨j0, ji, jz0, jz1, jz2⟩ := info_parts Try.infoStr
  refine callsIn_wide.1 (callsIn_of_wp_marks (n := 9) Try.func5 rfl trivial ?_)
  simp only [Try.ntmps5, List.size_toArray, List.length_cons, List.length_nil, Nat.reduceAdd, Nat.reduceSub, Array.replicate_succ, Array.replicate_zero, List.push_toArray, List.append_toArray, List.nil_append, List.cons_append]
  refine wpIn_wide.2 ?_
  go_wp2_with (go_at_call 10; refine (tokens_mk _ _).mono ?_; rintro e w2 ⟨rfl, rfl⟩)
  have bO := Boxed.new (w.alloc (.cells #[] 9)) 23 (.slice (some ⟨w.heap.size, 0, none⟩) 0 0)
  have h0 : Tks (w.alloc (.cells #[] 9)) w.heap.size (.slice (some ⟨w.heap.size, 0, none⟩) 0 0) [] := World.ownsRow_lit w #[] 0 (Nat.le_refl _) (Nat.zero_le _) rfl
  have hB1 : Below w.heap.size w (w.alloc (.cells #[] 9)) := (Below.refl _ _).alloc (Nat.le_refl _) _
  obtain ⟨w1, hw1⟩ : ∃ w1, w.alloc (.cells #[] 9) = w1 := ⟨_, rfl⟩
  have hz1 : w1.heap.size = w.heap.size + 1 := by rw [← hw1]; simp
  rw [hw1] at bO h0 hB1 ⊢
  obtain ⟨w2, hw2⟩ : ∃ w2, w1.alloc (.cells #[.slice (some ⟨w.heap.size, 0, none⟩) 0 0] 23) = w2 := ⟨_, rfl⟩
  have hz2 : w2.heap.size = w.heap.size + 1 + 1 := by rw [← hw2]; simp [hz1]
  have hb12 : Below w1.heap.size w1 w2 := by rw [← hw2]; exact (Below.refl _ _).alloc (Nat.le_refl _) _
  have hT2 : Tks w2 w.heap.size (.slice (some ⟨w.heap.size, 0, none⟩) 0 0) [] := World.ownsRow.kept h0 (row := none) ⟨hb12.os, hb12.tape, hb12.output, hb12.size, fun k hk _ => hb12.block k hk⟩ (.inr (by simp [Value.ownBlock]))
  rw [hw2] at bO ⊢
  rw [hz1] at bO
  have bX := Boxed.new w2 30 (.string p)
  obtain ⟨w3, hw3⟩ : ∃ w3, w2.alloc (.cells #[.string p] 30) = w3 := ⟨_, rfl⟩
  have hb23 : Below w2.heap.size w2 w3 := by rw [← hw3]; exact (Below.refl _ _).alloc (Nat.le_refl _) _
  rw [hw3] at bX ⊢
  rw [hz2] at bX
  have hTI : TI w.heap.size (w.heap.size + 1) [] w3 := TI.below ⟨_, bO, hT2, _, _, rfl⟩ hb23
  have hBw : Below w.heap.size w w3 := (hB1.trans (hb12.mono (by omega))).trans (hb23.mono (by omega))
  clear bO hT2 h0 hB1 hb12 hb23 hw1 hw2 hw3 hz1 hz2
  refine range_tok hs hp w.heap.size (w.heap.size + 1) (w.heap.size + 1 + 1) rfl hTI bX hBw (by omega) (by omega)
    (fun t => { tmps := #[.string p, undef, .slice none 0 0, .pointer (some ⟨w.heap.size + 1, 0, none⟩), .string (txt t), .slice (some ⟨w.heap.size, 0, none⟩) 0 0, .string p, .func (.func 14) #[] #[.pointer (some ⟨w.heap.size + 1 + 1, 0, none⟩)], .string (txt t), undef, undef, undef, undef, undef], defers := [] }) ?assign ?body ?done
  case assign =>
    intro l t W K hK
    gi_wp2
    exact hK
  case body =>
    rintro l pre t W q ⟨v, hv, hrow, _⟩ hq hlen hBW
    have hc := hv.cell
    have hrow' : W.ownsRow w.heap.size 9 1 v pre.length (tv pre) := hrow
    gi_wp2_with (gi_at_builtin; refine wpListIn_append_own _ rfl _ _ 23 rfl w.heap.size 9 j0 (.string ⟨#[]⟩) 1 16 Try.underlying23 ji jz0 jz1 jz2 rfl (by decide) _ _ _ rfl (hrow'.alloc _) ⟨W.heap.size, 0, none⟩ 1 1 [.string (txt t)] rfl rfl (cell_one_new _ _ _) (by simp [Value.oneCell']) (by unfold maxLen; omega) (by omega) (by simp; omega) ?_; intro v' w1 hown' hgrow _; obtain ⟨g', cap', rfl⟩ := ownsRow_succ hown'; obtain ⟨hv1, hv2, hr2, hk2, hb2⟩ := hv.appended (by decide) hrow' hBW (by omega) hown' hgrow; have hc1 := hv1.cell; have hf1 := hv1.frozen)
    have hne : some (w.heap.size + 1 + 1) ≠ v.ownBlock := fun e => by
      have := hq.not_row (by decide) hrow'
      exact this e
    have hq1 : Boxed w1 (w.heap.size + 1 + 1) 30 (.string q) := (hq.alloc _).kept hgrow hne
    refine ⟨⟨_, hv2, ?_, _, _, by rw [List.length_append]; rfl⟩, hq1.other (by omega) _⟩
    have e1 : tv (pre ++ [t]) = tv pre ++ [.string (txt t)] := by simp [tv]
    have e2 : (pre ++ [t]).length = pre.length + 1 := by simp
    unfold Tks
    rw [e1, e2]
    exact hr2
  case done =>
    rintro D W hD ⟨v, hv, hrow, g, cap, rfl⟩ hB hK
    have hc := hv.cell
    go_wp2_with fail
    refine ⟨by simp, .inl ⟨_, _, rfl, run_takeDeferred hK, ?_⟩⟩
    exact ⟨_, results_tmp rfl _ _ _, g, cap, rfl, ownsRow_putObj hrow _ hK rfl, hB.trans (belowK_b (w := w) (Nat.le_refl _) W D _ _ (by have := hBw.size; omega) hK rfl rfl)⟩
end Go.Proofs.Ytokhmhbjbclcoaa
