/- appendCompact without escapes: the walk. Printed by genac.py. -/
import Derived.Test.YtjbffgjclnjkoaaGreatDoorFd
import Derived.Test.YtjbffgjclnjkoaaGreatDoorK1
import Derived.Test.YtjbffgjclnjkoaaGreatDoorSb
import Derived.Deep.LoopGhost
import Derived.Deep.DeepCutAuto
import Derived.Deep.Light
import Derived.RegionTactic
import Derived.BigRegion
import Derived.ChangeAlike
namespace Go.Proofs.YtjbffgjclnjkoaaGreatDoor
set_option linter.unusedVariables false
set_option linter.unusedSimpArgs false
open Go.RowKit Go.Shelf

theorem bs_ne {w : World} {C : Nat} {v : Value} {l : List Int} (h : Bs w C v l) {p : Nat} {cs : Array Value} {T : TypeId} {fr : Nat × Nat} (hp : w.heap[p]? = some (.cells cs T fr)) (hT : T ≠ 5) : v.ownBlock ≠ some p := fun e => by
  obtain ⟨_, ao, cap, hv, _, _, h3⟩ := h
  rcases h3 with ⟨rfl, _⟩ | ⟨g', o, cur, fr', rfl, _, hg', _⟩
  · rw [hv] at e; cases e
  · rw [hv] at e
    obtain rfl : g' = p := by simpa [Value.ownBlock] using e
    rw [hp] at hg'
    injection hg' with hg'
    injection hg' with _ h3
    exact hT h3
/-- Rows of bytes, the scanner and its stack never lie in one block. -/
theorem bs_b {w : World} {b B C : Nat} {σ : Sc} {sv v : Value} {l : List Int} (h : Bs w C v l) (hS : IsS w b B σ sv) : v.ownBlock ≠ some b := by
  obtain ⟨e, n, h2, _⟩ := hS.cell
  exact bs_ne h h2 (by decide)
theorem bs_sv {w : World} {b B C : Nat} {σ : Sc} {sv v : Value} {l : List Int} (h : Bs w C v l) (hS : IsS w b B σ sv) {g : Nat} (hg : sv.ownBlock = some g) : v.ownBlock ≠ some g := by
  obtain ⟨_, _, cur, h1⟩ := hS.own_lt hg
  exact bs_ne h h1 (by decide)
theorem bs_stp {w w' : World} {b B C : Nat} {σ : Sc} {sv sv' v : Value} {l : List Int} (h : Bs w C v l) (hS : IsS w b B σ sv) (hP : Stp b sv w sv' w') : Bs w' C v l :=
  h.same fun g hg => hP.block g (h.lt hg).2 (fun e => bs_b h hS (e ▸ hg)) (fun e => bs_sv h hS e hg)
theorem ap_stp {w0 w w' : World} {b B : Nat} {σ : Sc} {sv sv' v v' : Value} (h : Ap v w0 v' w) (hS : IsS w b B σ sv) (hB : w0.heap.size ≤ B) (hP : Stp b sv w sv' w') : Ap v w0 v' w' :=
  ⟨⟨hP.os.trans h.gr.os, hP.tape.trans h.gr.tape, hP.output.trans h.gr.output, Nat.le_trans h.gr.size hP.size, fun k hk hne => (hP.block k (Nat.lt_of_lt_of_le hk h.gr.size) (by have := hS.hB; omega) (fun e => by have := (hS.own_lt e).1; omega)).trans (h.gr.block k hk hne)⟩, h.blk, h.org, fun g o cur fr hv hg => by
    obtain ⟨c1, h1, h2, h3⟩ := h.pre g o cur fr hv hg
    have hlt := lt_of_block hg
    exact ⟨c1, (hP.block g (Nat.lt_of_lt_of_le hlt h.gr.size) (by have := hS.hB; omega) (fun e => by have := (hS.own_lt e).1; omega)).trans h1, h2, h3⟩⟩
theorem IsS.keep2 {w w' : World} {b B : Nat} {σ : Sc} {v : Value} (h : IsS w b B σ v) (hb : w'.heap[b]? = w.heap[b]?)
    (he : ∀ (p : Nat) (s : ByteArray) (n : Int), w.heap[p]? = some (Obj.cells #[.string s, .int .i64 n] 107 (0, 0)) → w'.heap[p]? = w.heap[p]?) (hr : ∀ g, v.ownBlock = some g → w'.heap[g]? = w.heap[g]?) : IsS w' b B σ v := by
  obtain ⟨e, n, h1, h2⟩ := h.cell
  refine ⟨h.hB, ⟨e, n, hb.trans h1, h2.keep he⟩, h.row.1, ?_⟩
  rcases h.row.2 with r2 | ⟨g, cap, cur, hv, hBg, hg, k1⟩
  · exact .inl r2
  · exact .inr ⟨g, cap, cur, hv, hBg, (hr g (by rw [hv]; rfl)).trans hg, k1⟩
theorem isS_ap {w w' : World} {b B C : Nat} {σ : Sc} {sv v v' : Value} {l : List Int} (h : IsS w b B σ sv) (hb : Bs w C v l) (ha : Ap v w v' w') : IsS w' b B σ sv :=
  h.keep2 (ha.block h.lt (bs_b hb h)) (fun p s n hp => ha.block (lt_of_block hp) (bs_ne hb hp (by decide))) (fun g hg => ha.block (h.own_lt hg).2.1 (bs_sv hb h hg))
/-- A slice of bytes that is cut off. -/
theorem Bs.cutn {w : World} {B : Nat} {v : Value} {l x : List Int} (h : Bs w B v (l ++ x)) : (v = .slice none 0 0 ∧ l = [] ∧ x = []) ∨ ∃ g o cap, v = .slice (some ⟨g, o, none⟩) (l.length + x.length) cap ∧ l.length + x.length ≤ cap ∧ cap ≤ maxLen ∧ Bs w B (.slice (some ⟨g, o, none⟩) l.length cap) l := by
  obtain ⟨h8, ao, cap, hv, h1, h2, h3⟩ := h
  rw [List.length_append] at hv h1 h3
  rcases h3 with ⟨rfl, rfl⟩ | ⟨g, o, cur, fr, rfl, hB, hg, k1, k2, k3⟩
  · have e1 : l.length = 0 := by omega
    have e2 : x.length = 0 := by omega
    exact .inl ⟨by rw [hv, e1, e2], List.eq_nil_of_length_eq_zero e1, List.eq_nil_of_length_eq_zero e2⟩
  · refine .inr ⟨g, o, cap, hv, h1, h2, fun y hy => h8 y (List.mem_append_left _ hy), some ⟨g, o, none⟩, cap, rfl, by omega, h2, .inr ⟨g, o, cur, fr, rfl, hB, hg, k1, k2, ?_⟩⟩
    have e : (cur.toList.drop o).take l.length = ((cur.toList.drop o).take (l.length + x.length)).take l.length := by rw [List.take_take, Nat.min_eq_left (by omega)]
    rw [e, k3, bv_app, ← bv_len l, List.take_left]
/-- freeScanner as a deferred call, and what it leaves. -/
def FreeK (b : Nat) (w w' : World) : Prop := w' = w ∨ w' = w.setCell ⟨b, 2, none⟩ (.slice none 0 0)
theorem FreeK.block {b : Nat} {w w' : World} (h : FreeK b w w') {k : Nat} (hk : k ≠ b) : w'.heap[k]? = w.heap[k]? := by
  rcases h with rfl | rfl
  · rfl
  · exact Below.heap_setCell _ _ _ _ (by simpa using hk)
theorem FreeK.ap {b : Nat} {w0 w w' : World} {v v' : Value} (h : FreeK b w w') (ha : Ap v w0 v' w) (hb : w0.heap.size ≤ b) : Ap v w0 v' w' := by
  refine ⟨?_, ha.blk, ha.org, fun g o cur fr hv hg => by
    obtain ⟨c1, h1, h2, h3⟩ := ha.pre g o cur fr hv hg
    have hlt := lt_of_block hg
    exact ⟨c1, (h.block (by omega)).trans h1, h2, h3⟩⟩
  rcases h with rfl | rfl
  · exact ha.gr
  · exact ⟨ha.gr.os, ha.gr.tape, ha.gr.output, by have := ha.gr.size; simpa [World.setCell] using this, fun k hk hne => (Below.heap_setCell _ _ _ _ (by simp; omega)).trans (ha.gr.block k hk hne)⟩
set_option maxRecDepth 100000 in
set_option maxHeartbeats 1000000 in
theorem free_k (b B : Nat) (σ : Sc) (v : Value) (w : World) (u : FrameMode) (h : IsS w b B σ v) :
    CallsD Tryz.prog 44 #[.pointer (some ⟨b, 0, none⟩)] u w fun e u' w' => u' = u ∧ (e = .returned (.tuple #[]) ∧ FreeK b w w') := by
  obtain ⟨e, n, _, _, _, c2, _, _, f0⟩ := h.cells
  have f2 := f0 2
  have hv : ∃ a cap, v = .slice a σ.stk.length cap := by
    rcases h.row.2 with ⟨e, h0⟩ | ⟨g, cap, cur, e, _⟩
    · exact ⟨none, 0, by rw [e, h0]⟩
    · exact ⟨_, _, e⟩
  obtain ⟨a, cap, rfl⟩ := hv
  obtain ⟨m, hm⟩ : ∃ m, σ.stk.length = m := ⟨_, rfl⟩
  rw [hm] at c2
  clear h hm f0
  by_cases hd : (1024 : Int) < (m : Int)
  · go_enter_d Tryz.func44, Tryz.ntmps44
    go_wp2_with fail
    all_goals go_end0
    exact ⟨rfl, .inr rfl⟩
  · have hd' : decide ((1024 : Int) < (m : Int)) = false := by simp; omega
    clear hd
    go_enter_d Tryz.func44, Tryz.ntmps44
    go_wp2_with fail
    all_goals go_end0
    exact ⟨rfl, .inl rfl⟩
theorem drop_sub (s : ByteArray) {k : Nat} (h : k ≤ s.size) : (bl s).drop k = sub s k s.size := by
  rw [← sub_all, ← sub_app s (Nat.zero_le k) h]
  have := List.drop_left (l₁ := sub s 0 k) (l₂ := sub s k s.size)
  rw [sub_len, Nat.sub_zero] at this
  exact this
/-- What a text that is made compact gives: fine or not. -/
def CompR (B : Nat) (v : Value) (w : World) (l T : List Int) (V : Bool) (e : Ending) (w' : World) : Prop :=
  ∃ v' u, e = .returned (.tuple #[v', u]) ∧ Ap v w v' w' ∧ (V = true → u = .nilIface ∧ Bs w' B v' (l ++ T)) ∧
    (V = false → Bs w' B v' l ∧ ∃ (p : Nat) (s : ByteArray) (n : Int), u = .iface 103 (.pointer (some ⟨p, 0, none⟩)) ∧ w.heap.size ≤ p ∧ w'.heap[p]? = some (.cells #[.string s, .int .i64 n] 107 (0, 0)))
/-- At the head of each round. -/
structure CRel (B : Nat) (v : Value) (w : World) (s : ByteArray) (l0 : List Int) (V : Bool) (T : List Int) (g j k : Nat) (σ : Sc) (sv v' : Value) (l' : List Int) (wr : World) : Prop where
  jk : j ≤ k
  ks : k ≤ s.size
  bs : Bs wr B v' (l0 ++ l')
  ap : Ap v w v' wr
  len : l'.length + (k - j) ≤ k
  fuel : s.size - k ≤ g
  sc : IsS wr w.heap.size w.heap.size σ sv
  inv : Inv σ
  dep : DepQ 9000 σ ((bl s).drop k)
  val : Aside (validQ σ ((bl s).drop k) = V)
  out : Aside (V = true → l' ++ sub s j k ++ cmpQ σ ((bl s).drop k) = T)
theorem bdrop {t : ByteArray} {k : Nat} (h : k < t.size) : (bl t).drop k = bAt t k :: (bl t).drop (k + 1) := gdrop h
theorem cellC {w : World} {b : Nat} {s : ByteArray} (h : Lib.Bytes w b 0 s) {i : Nat} (hi : i < s.size) (X : Int) (hX : bAt s i = X) : w.cell? ⟨b, i, none⟩ = some (.int .u8 X) := by
  have := h i hi
  rw [Nat.zero_add] at this
  rw [this, ← hX]; unfold bAt; rw [dif_pos hi]
/-- Behind a step: a byte that stays. -/
theorem CRel.stay {B v w s l0 V T g j k σ sv v' l' wr} (q : CRel B v w s l0 V T g j k σ sv v' l' wr) (hk : k < s.size) {y : Int} {σ2 : Sc} (hy : stepQ σ (bAt s k) = (y, σ2)) (h9 : y < 9) {sv2 : Value} {w2 : World} (hS : IsS w2 w.heap.size w.heap.size σ2 sv2) (hP : Stp w.heap.size sv wr sv2 w2) :
    g - 1 < g ∧ CRel B v w s l0 V T (g - 1) j (k + 1) σ2 sv2 v' l' w2 := by
  have hf := q.fuel
  have ho := (ok_step q.inv (bAt s k)).inv
  have hd := q.dep
  rw [bdrop hk] at hd
  have hval : validQ σ ((bl s).drop k) = V := q.val
  rw [bdrop hk, validQ_cons, hy, if_neg (by show ¬ y = 11; omega)] at hval
  have hout : V = true → l' ++ sub s j k ++ cmpQ σ ((bl s).drop k) = T := q.out
  have hd2 := hd.2
  rw [hy] at ho hd2
  refine ⟨by omega, ⟨by have := q.jk; omega, by omega, bs_stp q.bs q.sc hP, ap_stp q.ap q.sc (Nat.le_refl _) hP, by have := q.len; have := q.jk; omega, by omega, hS, ho, hd2, hval, fun hV => ?_⟩⟩
  have := hout hV
  rw [bdrop hk, cmp_lt (by rw [hy]; exact h9), hy] at this
  rw [← this, sub_snoc s q.jk]
  simp
/-- Behind a step: a byte that is left out. -/
theorem CRel.skip {B v w s l0 V T g j k σ sv v' l' wr} (q : CRel B v w s l0 V T g j k σ sv v' l' wr) (hk : k < s.size) {y : Int} {σ2 : Sc} (hy : stepQ σ (bAt s k) = (y, σ2)) (h9 : 9 ≤ y) (h11 : y ≠ 11) {sv2 v2 : Value} {w2 w3 : World} (hS : IsS w2 w.heap.size w.heap.size σ2 sv2) (hP : Stp w.heap.size sv wr sv2 w2)
    (hb : Bs w3 B v2 (l0 ++ (l' ++ sub s j k))) (ha : Ap v' w2 v2 w3) : g - 1 < g ∧ CRel B v w s l0 V T (g - 1) (k + 1) (k + 1) σ2 sv2 v2 (l' ++ sub s j k) w3 := by
  have hf := q.fuel
  have ho := (ok_step q.inv (bAt s k)).inv
  have hd := q.dep
  rw [bdrop hk] at hd
  have hval : validQ σ ((bl s).drop k) = V := q.val
  rw [bdrop hk, validQ_cons, hy, if_neg (by show ¬ y = 11; omega)] at hval
  have hout : V = true → l' ++ sub s j k ++ cmpQ σ ((bl s).drop k) = T := q.out
  have hd2 := hd.2
  rw [hy] at ho hd2
  have hb2 := bs_stp q.bs q.sc hP
  refine ⟨by omega, ⟨Nat.le_refl _, by omega, hb, (ap_stp q.ap q.sc (Nat.le_refl _) hP).trans ha, by have := q.len; have := q.jk; simp [sub_len]; omega, by omega, isS_ap hS hb2 ha, ho, hd2, hval, fun hV => ?_⟩⟩
  have := hout hV
  rw [bdrop hk, cmp_ge (by rw [hy]; exact h9), hy] at this
  rw [← this, sub_self, List.append_nil]
/-- The end of a text that is no value: what had been put is cut off. -/
theorem CompR.bad {B : Nat} {v v1 : Value} {w wr w3 w4 : World} {l T : List Int} {σ : Sc} {sv sv3 : Value} {g o cap : Nat} (hap : Ap v w v1 wr) (hv1 : orgA v1 = some ⟨g, o, none⟩) (hbs : Bs wr B (.slice (some ⟨g, o, none⟩) l.length cap) l) (hS : IsS wr w.heap.size w.heap.size σ sv) {σ3 : Sc} (hS3 : IsS w3 w.heap.size w.heap.size σ3 sv3) (hP : Stp w.heap.size sv wr sv3 w3)
    (hF : FreeK w.heap.size w3 w4) {p : Nat} {es : ByteArray} {n : Int} (hp : w.heap.size ≤ p) (hc : w3.heap[p]? = some (.cells #[.string es, .int .i64 n] 107 (0, 0))) :
    CompR B v w l T false (.returned (.tuple #[.slice (some ⟨g, o, none⟩) l.length cap, .iface 103 (.pointer (some ⟨p, 0, none⟩))])) w4 := by
  have h3 := bs_stp hbs hS hP
  have hap3 := ap_stp hap hS (Nat.le_refl _) hP
  have hap4 := hF.ap hap3 (Nat.le_refl _)
  refine ⟨_, _, rfl, ⟨hap4.gr, by have := hap4.blk; rw [orgA_own hv1] at this; exact this, by have := hap4.org; rw [hv1, orgA_own hv1] at this; exact this, hap4.pre⟩, fun h => (by cases h), fun _ => ⟨?_, p, es, n, rfl, hp, ?_⟩⟩
  · exact h3.same fun g' hg => hF.block (fun e => bs_b h3 hS3 (by rw [hg, e]))
  · exact (hF.block (hS3.err_ne hc).1).trans hc
theorem CompR.bad0 {B : Nat} {v : Value} {w wr w3 w4 : World} {T : List Int} {σ : Sc} {sv sv3 : Value} (hap : Ap v w (.slice none 0 0) wr) (hS : IsS wr w.heap.size w.heap.size σ sv) {σ3 : Sc} (hS3 : IsS w3 w.heap.size w.heap.size σ3 sv3) (hP : Stp w.heap.size sv wr sv3 w3)
    (hF : FreeK w.heap.size w3 w4) {p : Nat} {es : ByteArray} {n : Int} (hp : w.heap.size ≤ p) (hc : w3.heap[p]? = some (.cells #[.string es, .int .i64 n] 107 (0, 0))) :
    CompR B v w [] T false (.returned (.tuple #[.slice none 0 0, .iface 103 (.pointer (some ⟨p, 0, none⟩))])) w4 :=
  ⟨_, _, rfl, hF.ap (ap_stp hap hS (Nat.le_refl _) hP) (Nat.le_refl _), fun h => (by cases h), fun _ => ⟨Bs.nil _ _, p, es, n, rfl, hp, (hF.block (hS3.err_ne hc).1).trans hc⟩⟩
theorem CompR.good {B : Nat} {v v1 : Value} {w w3 w4 : World} {l T : List Int} {b1 : Nat} (hap : Ap v w v1 w3) (hb : Bs w3 B v1 (l ++ T)) {σ3 : Sc} {sv3 : Value} (hS3 : IsS w3 b1 b1 σ3 sv3) (hF : FreeK b1 w3 w4) (hB : w.heap.size = b1) :
    CompR B v w l T true (.returned (.tuple #[v1, .nilIface])) w4 :=
  ⟨_, _, rfl, hF.ap hap (Nat.le_of_eq hB), fun _ => ⟨rfl, hb.same fun g hg => hF.block (fun e => bs_b hb hS3 (by rw [hg, e]))⟩, fun h => (by cases h)⟩
theorem HT2 {l' x T : List Int} (h : Hid (l' ++ x = T)) (l : List Int) : (l ++ l') ++ x = l ++ T := by rw [← h.out, List.append_assoc]
set_option maxRecDepth 100000 in
set_option maxHeartbeats 8000000 in
theorem compF (B : Nat) (v : Value) (l : List Int) (s : ByteArray) (b cap : Nat) (w : World) (hv : Bs w B v l) (hB : B ≤ w.heap.size) (hs : s.size ≤ 100000000000) (hl : l.length ≤ 100000000000) (hcap : s.size ≤ cap) (hcm : cap ≤ maxLen)
    (hS : Lib.Bytes w b 0 s) (hbn : v.ownBlock ≠ some b) (hbl : b < w.heap.size) (hd : DepQ 9000 sc0 (bl s)) :
    Calls Tryz.prog 51 #[v, .slice (some ⟨b, 0, none⟩) s.size cap, .bool false] w (CompR B v w l (cmpQ sc0 (bl s)) (validQ sc0 (bl s))) := by
  obtain ⟨i0, hi, hz0, hz1, hz2⟩ := info_parts Tryz.infoU8
  obtain ⟨T, hT⟩ : ∃ T, cmpQ sc0 (bl s) = T := ⟨_, rfl⟩
  obtain ⟨V, hV⟩ : ∃ V, validQ sc0 (bl s) = V := ⟨_, rfl⟩
  have hn := new_any w
  have hcapI : (cap : Int) ≤ 9223372036854775807 := by unfold maxLen at hcm; omega
  have hscI : (s.size : Int) ≤ (cap : Int) := by omega
  have h0 : ∀ w1, IsS w1 w.heap.size w.heap.size sc0 (.slice none 0 0) → Below w.heap.size w w1 → CRel B v w s l V T s.size 0 0 sc0 (.slice none 0 0) v [] w1 := fun w1 h1 h2 =>
    ⟨Nat.le_refl _, Nat.zero_le _, by rw [List.append_nil]; exact hv.below h2, Ap.of_below v h2, by simp, by omega, h1, inv0, hd, hV, fun _ => by rw [sub_self]; exact hT⟩
  rw [hT, hV]
  obtain ⟨ao0, cap0, rfl, _, _⟩ := hv.form
  obtain ⟨n0, hn0⟩ : ∃ n0, l.length = n0 := ⟨_, rfl⟩
  have HN := Lib.hid hn0
  rw [hn0] at h0 hbn hl ⊢
  clear hcm hT hV hn0 hv
  go_enter_defers Tryz.func51, Tryz.ntmps51
  go_wp2_with (first | (go_at_call 43; refine hn.mono ?_; rintro e w1 ⟨rfl, hS0, _, hb0⟩))
  have h1 := h0 w1 hS0 hb0
  clear h0 hS0 hb0 hn
  have hbw : b < w.heap.size := hbl
  obtain ⟨b1, hb1⟩ : ∃ b1, w.heap.size = b1 := ⟨_, rfl⟩
  rw [hb1] at hB hbl hbw ⊢
  have hB1 : w.heap.size = b1 := hb1
  go_loopg [0, 10, 20] s.size (fun g d i n wr => ∃ (j k : Nat) (σ : Sc) (sv v' : Value) (l' : List Int), d = v' ∧ i = .int .i64 j ∧ n = .int .i64 k ∧ CRel B (.slice ao0 n0 cap0) w s l V T g j k σ sv v' l' wr)
  case atStart => exact ⟨0, 0, sc0, _, _, [], rfl, rfl, rfl, h1⟩
  case round =>
    clear h1 hb1
    have HB1 := Lib.hid hB1
    clear hB1
    obtain ⟨j, k, σ, sv, v', l', rfl, rfl, rfl, q⟩ := hrel
    obtain ⟨qjk, qks, qbs, qap, qlen, qf, qsc, qi, qd, qv, qo⟩ := id q
    rw [HB1.out] at qsc
    have hSr := bytes_block hS (qap.block (by rw [HB1.out]; exact hbl) hbn)
    have hsz := qap.size
    rw [HB1.out] at hsz
    have hBr : B ≤ wr.heap.size := Nat.le_trans hB hsz
    have hblr : b < wr.heap.size := Nat.lt_of_lt_of_le hbl hsz
    have hbnr := qap.ne (by rw [HB1.out]; exact hbl) hbn
    by_cases hk : k < s.size
    case neg =>
      obtain rfl : k = s.size := by omega
      have hdr : (bl s).drop s.size = [] := List.drop_of_length_le (by rw [bl_len]; exact Nat.le_refl _)
      have qv' : validQ σ ((bl s).drop s.size) = V := qv
      have qo' : V = true → l' ++ sub s j s.size ++ cmpQ σ ((bl s).drop s.size) = T := qo
      rw [hdr] at qv' qo'
      have qv2 : ((eofQ σ).1 != 11) = V := qv'
      have he := eof_any b1 b1 σ sv wr qsc hsz (by have := qd.here; omega) qi.bs
      have hbad := @eof_bad σ
      obtain ⟨y, hy⟩ : ∃ y, (eofQ σ).1 = y := ⟨_, rfl⟩
      obtain ⟨σ2, hσ⟩ : ∃ σ2, (eofQ σ).2 = σ2 := ⟨_, rfl⟩
      rw [hy, hσ] at he hbad
      rw [hy] at qv2
      by_cases h11 : y = 11
      · subst h11
        have hb2 := hbad rfl
        obtain rfl : V = false := by rw [← qv2]; rfl
        clear hbad hy hσ qv qo qv' qo' qv2 hdr qd q
        rcases qbs.cutn with ⟨rfl, rfl, rfl⟩ | ⟨gb, ob, cp, rfl, hc1, hc2, hcut⟩
        · obtain rfl : n0 = 0 := by rw [← HN.out]; rfl
          go_upto_region 26 with (first
            | (go_at_call 68; refine he.mono ?_; rintro e w3 ⟨v3, rfl, hS3, hP3⟩; obtain ⟨e3, n3, he3, _, _, _, c33, _, _⟩ := hS3.cells; obtain ⟨pe, es, en, rfl, hpe, hce⟩ := he3.2 hb2))
          have q33 : ∀ nq, (w3.drewN nq).cell? ⟨b1, 3, none⟩ = some (.iface 103 (.pointer (some ⟨pe, 0, none⟩))) := fun _ => c33
          clear c33
          go_quiet (fail)
          go_wp2_with fail
          have hS3q : IsS (w3.drewN nq) b1 b1 σ2 v3 := ⟨hS3.hB, hS3.cell, hS3.row⟩
          refine leaves_cons (f := 44) (args := #[.pointer (some ⟨b1, 0, none⟩)]) (by simp) (by simp [go_sem]) ?_
          refine (free_k b1 b1 _ _ _ _ hS3q).mono ?_
          rintro e u' w5 ⟨rfl, rfl, hF⟩
          have HB2 := HB1.out
          subst HB2
          exact ⟨_, results_tmp2 rfl _ _ _, CompR.bad0 qap qsc hS3q (hP3.trans (Stp.drew _ _ _ nq)) hF hpe hce⟩
        · rw [HN.out] at hc1 hcut
          have hn0I : (0 : Int) ≤ (n0 : Int) := by omega
          have hncI : (n0 : Int) ≤ (cp : Int) := by omega
          have hcpI : (cp : Int) ≤ 9223372036854775807 := by unfold maxLen at hc2; omega
          rw [HN.out] at qap qbs hbnr
          obtain ⟨m, hm⟩ : ∃ m, n0 + l'.length = m := ⟨_, rfl⟩
          rw [hm] at hc1 qap qbs hbnr
          rw [HN.out, hm]
          clear hm hc2
          go_upto_region 26 with (first
            | (go_at_call 68; refine he.mono ?_; rintro e w3 ⟨v3, rfl, hS3, hP3⟩; obtain ⟨e3, n3, he3, _, _, _, c33, _, _⟩ := hS3.cells; obtain ⟨pe, es, en, rfl, hpe, hce⟩ := he3.2 hb2))
          have q33 : ∀ nq, (w3.drewN nq).cell? ⟨b1, 3, none⟩ = some (.iface 103 (.pointer (some ⟨pe, 0, none⟩))) := fun _ => c33
          clear c33
          go_quiet (fail)
          go_wp2_with fail
          have hS3q : IsS (w3.drewN nq) b1 b1 σ2 v3 := ⟨hS3.hB, hS3.cell, hS3.row⟩
          refine leaves_cons (f := 44) (args := #[.pointer (some ⟨b1, 0, none⟩)]) (by simp) (by simp [go_sem]) ?_
          refine (free_k b1 b1 _ _ _ _ hS3q).mono ?_
          rintro e u' w5 ⟨rfl, rfl, hF⟩
          have HN2 := HN.out
          subst HN2
          have HB2 := HB1.out
          subst HB2
          exact ⟨_, results_tmp2 rfl _ _ _, CompR.bad qap rfl hcut qsc hS3q (hP3.trans (Stp.drew _ _ _ nq)) hF hpe hce⟩
      · have h11' : (y == 11) = false := by simpa using h11
        obtain rfl : V = true := by rw [← qv2]; simp [h11]
        have hT2 : Hid (l' ++ sub s j s.size = T) := Lib.hid (by have := qo' rfl; simpa [cmpQ, K] using this)
        clear hbad hy hσ qv qo qv' qo' qv2 hdr qd h11
        have hlnn : (l ++ l').length + (s.size - j) ≤ 140737488355328 := by rw [List.length_append, HN.out]; omega
        have hln1 : (l ++ l').length + (sub s j s.size).length ≤ 140737488355328 := by rw [sub_len]; exact hlnn
        by_cases hjs : j < s.size
        · have hjI : (j : Int) < (s.size : Int) := by omega
          have hjc : (j : Int) < (cap : Int) := by omega
          have hjc' : (j : Int) ≤ (cap : Int) := by omega
          go_wp2_with (first
            | (go_at_call 68; refine he.mono ?_; rintro e w3 ⟨v3, rfl, hS3, hP3⟩; have hbs3 := bs_stp qbs qsc hP3; have hS3b := bytes_block hSr (hP3.block b hblr (by omega) (fun e => by have := (qsc.own_lt e).1; omega)); have hB3 : B ≤ w3.heap.size := Nat.le_trans hBr hP3.size)
            | (at_builtin; refine wpList_append_bs _ rfl (.tmp 145) (.tmp 148) 54 54 (by rfl) B i0 Tryz.underlying54 hi hz0 hz1 hz2 _ _ rfl hbs3 _ (sub s j s.size) rfl (sub_by s j s.size) (src_cells Tryz.underlying54 _ _ _ _ (sub_len s j s.size) _ _ hz1 (.inr ⟨b, j, rfl, sub_cells hS3b (Nat.le_refl _)⟩)) (by exact hln1) (by first | assumption | omega | (simp; omega)) ?_; intro v4 w4 hb4 ha4))
          have hS4 := isS_ap hS3 hbs3 ha4
          have hap4 := (ap_stp qap qsc (Nat.le_of_eq HB1.out) hP3).trans ha4
          refine leaves_cons (f := 44) (args := #[.pointer (some ⟨b1, 0, none⟩)]) (by simp) (by simp [go_sem]) ?_
          refine (free_k b1 b1 _ _ _ _ hS4).mono ?_
          rintro e u' w5 ⟨rfl, rfl, hF⟩
          exact ⟨_, results_tmp2 rfl _ _ _, CompR.good hap4 (by rw [← HT2 hT2 l]; exact hb4) hS4 hF HB1.out⟩
        · obtain rfl : j = s.size := by omega
          go_wp2_with (first
            | (go_at_call 68; refine he.mono ?_; rintro e w3 ⟨v3, rfl, hS3, hP3⟩))
          have hbs3 := bs_stp qbs qsc hP3
          have hap4 := ap_stp qap qsc (Nat.le_of_eq HB1.out) hP3
          refine leaves_cons (f := 44) (args := #[.pointer (some ⟨b1, 0, none⟩)]) (by simp) (by simp [go_sem]) ?_
          refine (free_k b1 b1 _ _ _ _ hS3).mono ?_
          rintro e u' w5 ⟨rfl, rfl, hF⟩
          have e0 : l' = T := by have := hT2.out; rwa [sub_self, List.append_nil] at this
          exact ⟨_, results_tmp2 rfl _ _ _, CompR.good hap4 (by rw [← e0]; exact hbs3) hS3 hF HB1.out⟩
    obtain ⟨X, hX⟩ : ∃ X, bAt s k = X := ⟨_, rfl⟩
    have c1 := cellC hSr hk X hX
    have hkI : (k : Int) < (s.size : Int) := by omega
    obtain ⟨e1, n1, _, c10, _, _, _, _, f10⟩ := qsc.cells
    clear f10
    unfold fv at c10
    have hst := step_any b1 b1 σ sv X wr qsc hsz (by have := qd.here; omega) qi.bs
    have hok := ok_step qi X
    have hd2 : DepQ 9000 σ ((bl s).drop k) := qd
    rw [bdrop hk, hX] at hd2
    have hd3 := hd2.2.here
    obtain ⟨r, hr⟩ : ∃ r, stepQ σ X = r := ⟨_, rfl⟩
    rw [hr] at hst hok hd3
    have hrX : stepQ σ (bAt s k) = r := by rw [hX]; exact hr
    obtain ⟨y, σ2⟩ := r
    obtain ⟨o1, o2, o3⟩ := hok
    dsimp only at hst o1 o2 o3 hd3
    clear qv qo qd hd2 hr hX o3
    by_cases h11 : y = 11
    · subst h11
      have hb2 := o2 rfl
      have hv0 : validQ σ ((bl s).drop k) = V := q.val
      rw [bdrop hk, validQ_cons, hrX, if_pos rfl] at hv0
      subst hv0
      have heq : eofQ σ2 = (11, σ2) := by unfold eofQ; rw [hb2]; rfl
      have heb : ∀ (w2 : World) (v2 : Value), IsS w2 b1 b1 σ2 v2 → b1 ≤ w2.heap.size → Calls Tryz.prog 68 #[.pointer (some ⟨b1, 0, none⟩)] w2 fun e w' => ∃ v', e = .returned (.int .i64 11) ∧ IsS w' b1 b1 σ2 v' ∧ Stp b1 v2 w2 v' w' := fun w2 v2 h1 h2 => by
        have := eof_any b1 b1 σ2 v2 w2 h1 h2 (by omega) o1.bs
        rwa [heq] at this
      have HEB := Lib.hid heb
      clear q heq o2 hrX heb
      go_wp2_with (first | (refine hst.mono ?_; rintro e w2 ⟨v2, rfl, hS2, hP2⟩; refine Hid.out ?_))
      refine Lib.hid ?_
      have he := HEB.out _ _ hS2 (Nat.le_trans hsz hP2.size)
      clear hst HEB c10 c1
      rcases qbs.cutn with ⟨rfl, rfl, rfl⟩ | ⟨gb, ob, cp, rfl, hc1, hc2, hcut⟩
      · obtain rfl : n0 = 0 := by rw [← HN.out]; rfl
        go_upto_region 26 with (first
          | (go_at_call 68; refine he.mono ?_; rintro e w3 ⟨v3, rfl, hS3, hP3⟩; obtain ⟨e3, n3, he3, _, _, _, c33, _, _⟩ := hS3.cells; obtain ⟨pe, es, en, rfl, hpe, hce⟩ := he3.2 hb2))
        have q33 : ∀ nq, (w3.drewN nq).cell? ⟨b1, 3, none⟩ = some (.iface 103 (.pointer (some ⟨pe, 0, none⟩))) := fun _ => c33
        clear c33
        go_quiet (fail)
        go_wp2_with fail
        have hS3q : IsS (w3.drewN nq) b1 b1 σ2 v3 := ⟨hS3.hB, hS3.cell, hS3.row⟩
        refine leaves_cons (f := 44) (args := #[.pointer (some ⟨b1, 0, none⟩)]) (by simp) (by simp [go_sem]) ?_
        refine (free_k b1 b1 _ _ _ _ hS3q).mono ?_
        rintro e u' w5 ⟨rfl, rfl, hF⟩
        have HB2 := HB1.out
        subst HB2
        exact ⟨_, results_tmp2 rfl _ _ _, CompR.bad0 qap qsc hS3q (hP2.trans (hP3.trans (Stp.drew _ _ _ nq))) hF hpe hce⟩
      · rw [HN.out] at hc1 hcut
        have hn0I : (0 : Int) ≤ (n0 : Int) := by omega
        have hncI : (n0 : Int) ≤ (cp : Int) := by omega
        have hcpI : (cp : Int) ≤ 9223372036854775807 := by unfold maxLen at hc2; omega
        rw [HN.out] at qap qbs hbnr
        obtain ⟨m, hm⟩ : ∃ m, n0 + l'.length = m := ⟨_, rfl⟩
        rw [hm] at hc1 qap qbs hbnr
        rw [HN.out, hm]
        clear hm hc2
        go_upto_region 26 with (first
          | (go_at_call 68; refine he.mono ?_; rintro e w3 ⟨v3, rfl, hS3, hP3⟩; obtain ⟨e3, n3, he3, _, _, _, c33, _, _⟩ := hS3.cells; obtain ⟨pe, es, en, rfl, hpe, hce⟩ := he3.2 hb2))
        have q33 : ∀ nq, (w3.drewN nq).cell? ⟨b1, 3, none⟩ = some (.iface 103 (.pointer (some ⟨pe, 0, none⟩))) := fun _ => c33
        clear c33
        go_quiet (fail)
        go_wp2_with fail
        have hS3q : IsS (w3.drewN nq) b1 b1 σ2 v3 := ⟨hS3.hB, hS3.cell, hS3.row⟩
        refine leaves_cons (f := 44) (args := #[.pointer (some ⟨b1, 0, none⟩)]) (by simp) (by simp [go_sem]) ?_
        refine (free_k b1 b1 _ _ _ _ hS3q).mono ?_
        rintro e u' w5 ⟨rfl, rfl, hF⟩
        have HN2 := HN.out
        subst HN2
        have HB2 := HB1.out
        subst HB2
        exact ⟨_, results_tmp2 rfl _ _ _, CompR.bad qap rfl hcut qsc hS3q (hP2.trans (hP3.trans (Stp.drew _ _ _ nq))) hF hpe hce⟩
    by_cases h9 : y < 9
    · have h9d : decide ((9 : Int) ≤ y) = false := by simp; omega
      clear h11
      go_wp2_with (first | (refine hst.mono ?_; rintro e w2 ⟨v2, rfl, hS2, hP2⟩))
      rw [← HB1.out] at hS2 hP2
      have Q := q.stay hk hrX h9 hS2 hP2
      go_roundg (gk - 1)
      case measure => exact Q.1
      case rel => exact ⟨j, k + 1, σ2, _, _, l', rfl, rfl, by go_num, Q.2⟩
    · have h9i : (9 : Int) ≤ y := by omega
      have h11d : (y == 11) = false := by simpa using h11
      have hln1 : (l ++ l').length + (sub s j k).length ≤ 140737488355328 := by rw [List.length_append, sub_len, HN.out]; omega
      by_cases hjk : j < k
      · have hjI : (j : Int) < (k : Int) := by omega
        go_wp2_with (first
          | (refine hst.mono ?_; rintro e w2 ⟨v2, rfl, hS2, hP2⟩; have hbs2 := bs_stp qbs qsc hP2; have hS2b := bytes_block hSr (hP2.block b hblr (by omega) (fun e => by have := (qsc.own_lt e).1; omega)); have hB2 : B ≤ w2.heap.size := Nat.le_trans hBr hP2.size)
          | (at_builtin; refine wpList_append_bs _ rfl (.tmp 122) (.tmp 126) 54 54 (by rfl) B i0 Tryz.underlying54 hi hz0 hz1 hz2 _ _ rfl hbs2 _ (sub s j k) rfl (sub_by s j k) (src_cells Tryz.underlying54 _ _ _ _ (sub_len s j k) _ _ hz1 (.inr ⟨b, j, rfl, sub_cells hS2b qks⟩)) (by exact hln1) (by first | assumption | omega | (simp; omega)) ?_; intro v4 w4 hb4 ha4))
        rw [← HB1.out] at hS2 hP2
        have Q := q.skip hk hrX h9i h11 hS2 hP2 (by rw [← List.append_assoc]; exact hb4) ha4
        go_roundg (gk - 1)
        case measure => exact Q.1
        case rel => exact ⟨k + 1, k + 1, σ2, _, _, _, rfl, by go_num, by go_num, Q.2⟩
      · obtain rfl : j = k := by omega
        go_wp2_with (first | (refine hst.mono ?_; rintro e w2 ⟨v2, rfl, hS2, hP2⟩; have hbs2 := bs_stp qbs qsc hP2))
        rw [← HB1.out] at hS2 hP2
        have Q := q.skip hk hrX h9i h11 hS2 hP2 (by rw [sub_self, List.append_nil]; exact hbs2) (Ap.refl _ _)
        go_roundg (gk - 1)
        case measure => exact Q.1
        case rel => exact ⟨j + 1, j + 1, σ2, _, _, _, rfl, by go_num, by go_num, Q.2⟩
end Go.Proofs.YtjbffgjclnjkoaaGreatDoor
