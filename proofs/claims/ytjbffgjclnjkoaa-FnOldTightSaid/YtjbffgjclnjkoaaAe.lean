/- appendCompact with escapes: the walk. Printed by genae.py. -/
import Derived.Test.YtjbffgjclnjkoaaAc
import Derived.Test.YtjbffgjclnjkoaaKe
import Derived.Test.YtjbffgjclnjkoaaHi
namespace Go.Proofs.Ytjbffgjclnjkoaa
set_option linter.unusedVariables false
set_option linter.unusedSimpArgs false
open Go.RowKit Go.Shelf

theorem leaves_res {P : Program} {fn : Func} {R : Ending → World → Prop} {t t' : Array Value} (hr : ∀ w, (results fn t).run P w = (results fn t').run P w) : ∀ (ds : List Deferred) (u : FrameMode) (w : World), Leaves P fn t R ds u w → Leaves P fn t' R ds u w
  | [], .returning, w, h => by obtain ⟨v, h1, h2⟩ := h; exact ⟨v, (hr w) ▸ h1, h2⟩
  | [], .panicking _, _, h => h
  | [], .run, _, h => h
  | d :: ds, u, w, h => by
    obtain ⟨hu, fv, cap, f, args, e1, e2, hc⟩ := h
    refine ⟨hu, fv, cap, f, args, e1, e2, hc.mono ?_⟩
    intro e u' w' hh
    cases e with
    | returned _ => exact leaves_res hr ds _ _ hh
    | panicked _ => exact leaves_res hr ds _ _ hh
    | outgrown => exact hh
theorem pan_put {P : Program} {fn : Func} {R : Ending → World → Prop} (r1 r2 d : Nat) (hf : fn.results = #[.tmp r1, .tmp r2]) (h1 : d ≠ r1) (h2 : d ≠ r2) {a : Act} {v : Value} {c : List PanicEntry} {w : World} (h : bodyPostD P fn R (.panic c) (a.put (some d) v) w) : bodyPostD P fn R (.panic c) a w := by
  refine leaves_res (fun w => ?_) _ _ _ h
  rw [results_tmp2 hf, results_tmp2 hf]
  have e : ∀ r, d ≠ r → (a.put (some d) v).tmps.getD r undef = a.tmps.getD r undef := fun r hr => by
    simp [Act.put, Array.getD_eq_getD_getElem?, Array.getElem?_setIfInBounds, hr]
  rw [e r1 h1, e r2 h2]
theorem str_Y {σ : Sc} (hi : Wl σ) (hq : σ.q = .str) {c : Int} {t : List Int} (hc : 128 ≤ c) (hv : VQ σ (128 :: c :: t)) : cmpQ σ (128 :: c :: t) = 128 :: c :: cmpQ σ t := by
  obtain ⟨g1, hv1⟩ := hv
  obtain ⟨_, e1⟩ := str_only hi g1 (by omega)
  rw [e1] at hv1
  obtain ⟨g2, hv2⟩ := hv1
  obtain ⟨_, e2⟩ := str_only hi g2 (by omega)
  rw [(kept0 e1 hi.bad _).1, (kept0 e2 hi.bad _).1]
/-- At the head of each round. -/
structure ERel (B : Nat) (v : Value) (w : World) (s : ByteArray) (l0 : List Int) (V : Bool) (T : List Int) (g j k : Nat) (σ : Sc) (sv v' : Value) (l' : List Int) (wr : World) : Prop where
  js : j ≤ s.size
  ks : k ≤ s.size
  jk : j ≤ k + 2
  pend : ∀ i, k ≤ i → i < j → 128 ≤ bAt s i ∧ bAt s i < 200
  bs : Bs wr B v' (l0 ++ l')
  ap : Ap v w v' wr
  len : l'.length + (k - j) ≤ 7 * k
  fuel : s.size - k ≤ g
  sc : IsS wr w.heap.size w.heap.size σ sv
  inv : Inv σ
  wl : V = true → Wl σ
  dep : DepQ 9000 σ ((bl s).drop k)
  val : Aside (validQ σ ((bl s).drop k) = V)
  out : Aside (V = true → l' ++ sub s j k ++ heS (j - k) (cmpQ σ ((bl s).drop k)) = T)
/-- Behind the escapes of a round. -/
structure EMid (B : Nat) (v : Value) (w : World) (s : ByteArray) (l0 : List Int) (V : Bool) (T : List Int) (k : Nat) (σ : Sc) (sv : Value) (j1 : Nat) (v1 : Value) (l1 : List Int) (w1 : World) : Prop where
  js : j1 ≤ s.size
  jk : j1 ≤ k + 3
  pend : ∀ i, k + 1 ≤ i → i < j1 → 128 ≤ bAt s i ∧ bAt s i < 200
  bs : Bs w1 B v1 (l0 ++ l1)
  ap : Ap v w v1 w1
  len : l1.length + (k + 1 - j1) ≤ 7 * (k + 1)
  sc : IsS w1 w.heap.size w.heap.size σ sv
  out : Aside (V = true → (stepQ σ (bAt s k)).1 < 9 → l1 ++ sub s j1 (k + 1) ++ heS (j1 - (k + 1)) (cmpQ (stepQ σ (bAt s k)).2 ((bl s).drop (k + 1))) = T)
  out9 : Aside (V = true → 9 ≤ (stepQ σ (bAt s k)).1 → j1 ≤ k ∧ l1 ++ sub s j1 k ++ heS 0 (cmpQ (stepQ σ (bAt s k)).2 ((bl s).drop (k + 1))) = T)
section
variable {B : Nat} {v : Value} {w : World} {s : ByteArray} {l0 : List Int} {V : Bool} {T : List Int} {g j k : Nat} {σ : Sc} {sv v' : Value} {l' : List Int} {wr : World}
theorem ERel.good (q : ERel B v w s l0 V T g j k σ sv v' l' wr) (hk : k < s.size) (hV : V = true) : Wl σ ∧ Good (stepQ σ (bAt s k)) ∧ VQ (stepQ σ (bAt s k)).2 ((bl s).drop (k + 1)) := by
  have hv : validQ σ ((bl s).drop k) = V := q.val
  rw [hV] at hv
  have hw := q.wl hV
  have := vq_of _ σ hw.bad hv
  rw [bdrop hk] at this
  exact ⟨hw, this.1, this.2⟩
theorem drop_get (s : ByteArray) (k i : Nat) : ((bl s).drop k)[i]? = if k + i < s.size then some (bAt s (k + i)) else none := by
  by_cases h : k ≤ s.size
  · rw [drop_sub s h, sub_get]
    by_cases h2 : k + i < s.size
    · rw [if_pos (by omega), if_pos h2]
    · rw [if_neg (by omega), if_neg h2]
  · rw [List.drop_of_length_le (by rw [bl_len]; omega), if_neg (by omega)]
    rfl
/-- The test of the line's separators over what is kept. -/
theorem sep_iff (hi : Wl σ) (hk : k < s.size) (h226 : bAt s k = 226) (hg : Good (stepQ σ (bAt s k))) (hv : VQ (stepQ σ (bAt s k)).2 ((bl s).drop (k + 1))) :
    sepB s k = true ↔ ((cmpQ (stepQ σ (bAt s k)).2 ((bl s).drop (k + 1)))[0]? = some 128 ∧ ((cmpQ (stepQ σ (bAt s k)).2 ((bl s).drop (k + 1)))[1]? = some 168 ∨ (cmpQ (stepQ σ (bAt s k)).2 ((bl s).drop (k + 1)))[1]? = some 169)) := by
  obtain ⟨hq, e⟩ := str_only hi hg (by omega)
  rw [e] at hv ⊢
  rw [str_two hi hq hv, drop_get, drop_get]
  unfold sepB
  rw [decide_eq_true_eq]
  rw [show k + 1 + 0 = k + 1 from rfl, show k + 1 + 1 = k + 2 from rfl]
  constructor
  · rintro ⟨_, h2, h3, h4⟩
    rw [if_pos (by omega), if_pos (by omega), h3]
    refine ⟨rfl, ?_⟩
    rcases h4 with h | h <;> rw [h]
    · exact .inl rfl
    · exact .inr rfl
  · rintro ⟨h1, h2⟩
    by_cases hz : k + 2 < s.size
    · rw [if_pos hz] at h2
      rw [if_pos (by omega)] at h1
      refine ⟨h226, hz, Option.some.inj h1, ?_⟩
      rcases h2 with h | h
      · exact .inl (Option.some.inj h)
      · exact .inr (Option.some.inj h)
    · rw [if_neg hz] at h2
      rcases h2 with h | h <;> cases h
theorem ERel.pass (q : ERel B v w s l0 V T g j k σ sv v' l' wr) (hk : k < s.size) (hj : k < j) : EMid B v w s l0 V T k σ sv j v' l' wr := by
  have hp := q.pend k (Nat.le_refl _) hj
  have hout : V = true → l' ++ sub s j k ++ heS (j - k) (cmpQ σ ((bl s).drop k)) = T := q.out
  have e1 : sub s j k = [] := by simp [sub, show k - j = 0 by omega]
  have e2 : sub s j (k + 1) = [] := by simp [sub, show k + 1 - j = 0 by omega]
  have hlt : V = true → (stepQ σ (bAt s k)).1 < 9 := fun hV => by
    obtain ⟨hw, hg, _⟩ := q.good hk hV
    obtain ⟨_, e⟩ := str_only hw hg (by omega)
    rw [e]; show (0 : Int) < 9; decide
  refine ⟨q.js, by have := q.jk; omega, fun i h1 h2 => q.pend i (by omega) h2, q.bs, q.ap, by have := q.len; omega, q.sc, fun hV h9 => ?_, fun hV h9 => ?_⟩
  · have := hout hV
    rw [bdrop hk, cmp_lt h9, show j - k = (j - (k + 1)) + 1 by omega, heS, e1] at this
    rw [e2]; exact this
  · have := hlt hV; omega
theorem ERel.none (q : ERel B v w s l0 V T g j k σ sv v' l' wr) (hk : k < s.size) (hj : j ≤ k) (h1 : ¬ (bAt s k = 60 ∨ bAt s k = 62 ∨ bAt s k = 38)) (h2 : sepB s k = false) : EMid B v w s l0 V T k σ sv j v' l' wr := by
  have hout : V = true → l' ++ sub s j k ++ heS (j - k) (cmpQ σ ((bl s).drop k)) = T := q.out
  have ejk : j - k = 0 := by omega
  refine ⟨q.js, by omega, fun i h3 h4 => by omega, q.bs, q.ap, by have := q.len; omega, q.sc, fun hV h9 => ?_, fun hV h9 => ⟨hj, ?_⟩⟩
  · have := hout hV
    obtain ⟨hw, hg, hv⟩ := q.good hk hV
    have hn : ¬ (bAt s k = 226 ∧ (cmpQ (stepQ σ (bAt s k)).2 ((bl s).drop (k + 1)))[0]? = some 128 ∧ ((cmpQ (stepQ σ (bAt s k)).2 ((bl s).drop (k + 1)))[1]? = some 168 ∨ (cmpQ (stepQ σ (bAt s k)).2 ((bl s).drop (k + 1)))[1]? = some 169)) := fun ⟨k1, k2⟩ => by
      have := (sep_iff hw hk k1 hg hv).2 k2
      rw [h2] at this; cases this
    rw [ejk, bdrop hk, cmp_lt h9, heS, if_neg h1, if_neg hn] at this
    rw [← this, show j - (k + 1) = 0 by omega, sub_snoc s hj]
    simp
  · have := hout hV
    rw [ejk, bdrop hk, cmp_ge h9] at this
    exact this
theorem ERel.hit (q : ERel B v w s l0 V T g j k σ sv v' l' wr) (hk : k < s.size) (hj : j ≤ k) (h1 : bAt s k = 60 ∨ bAt s k = 62 ∨ bAt s k = 38) {v1 : Value} {w1 : World}
    (hb : Bs w1 B v1 (l0 ++ (l' ++ sub s j k ++ [92, 117, 48, 48, hxD (bAt s k / 16), hxD (bAt s k % 16)]))) (ha : Ap v' wr v1 w1) :
    EMid B v w s l0 V T k σ sv (k + 1) v1 (l' ++ sub s j k ++ [92, 117, 48, 48, hxD (bAt s k / 16), hxD (bAt s k % 16)]) w1 := by
  have hout : V = true → l' ++ sub s j k ++ heS (j - k) (cmpQ σ ((bl s).drop k)) = T := q.out
  have hlt : V = true → (stepQ σ (bAt s k)).1 < 9 := fun hV => by
    obtain ⟨hw, hg, _⟩ := q.good hk hV
    obtain ⟨_, e⟩ := str_only hw hg (by omega)
    rw [e]; show (0 : Int) < 9; decide
  refine ⟨by omega, by omega, fun i h3 h4 => by omega, hb, q.ap.trans ha, by have := q.len; simp [sub_len]; omega, isS_ap q.sc q.bs ha, fun hV h9 => ?_, fun hV h9 => ?_⟩
  · have := hout hV
    rw [show j - k = 0 by omega, bdrop hk, cmp_lt h9, heS, if_pos h1] at this
    rw [sub_self, Nat.sub_self, ← this]
    simp
  · have := hlt hV; omega
theorem ERel.sep (q : ERel B v w s l0 V T g j k σ sv v' l' wr) (hk : k < s.size) (hj : j ≤ k) (h2 : sepB s k = true) {v1 : Value} {w1 : World}
    (hb : Bs w1 B v1 (l0 ++ (l' ++ sub s j k ++ [92, 117, 50, 48, 50, hxD (bAt s (k + 2) % 16)]))) (ha : Ap v' wr v1 w1) :
    EMid B v w s l0 V T k σ sv (k + 3) v1 (l' ++ sub s j k ++ [92, 117, 50, 48, 50, hxD (bAt s (k + 2) % 16)]) w1 := by
  have hout : V = true → l' ++ sub s j k ++ heS (j - k) (cmpQ σ ((bl s).drop k)) = T := q.out
  have hsp := h2
  unfold sepB at hsp
  rw [decide_eq_true_eq] at hsp
  obtain ⟨e1, e2, e3, e4⟩ := hsp
  have hlt : V = true → (stepQ σ (bAt s k)).1 < 9 := fun hV => by
    obtain ⟨hw, hg, _⟩ := q.good hk hV
    obtain ⟨_, e⟩ := str_only hw hg (by omega)
    rw [e]; show (0 : Int) < 9; decide
  refine ⟨by omega, by omega, fun i h3 h4 => ?_, hb, q.ap.trans ha, by have := q.len; simp [sub_len]; omega, isS_ap q.sc q.bs ha, fun hV h9 => ?_, fun hV h9 => ?_⟩
  · have : i = k + 1 ∨ i = k + 2 := by omega
    rcases this with rfl | rfl <;> omega
  · have := hout hV
    obtain ⟨hw, hg, hv⟩ := q.good hk hV
    have hy := (sep_iff hw hk e1 hg hv).1 h2
    obtain ⟨hq, e⟩ := str_only hw hg (by omega)
    have hd : (bl s).drop (k + 1) = 128 :: bAt s (k + 2) :: (bl s).drop (k + 3) := by
      rw [bdrop (show k + 1 < s.size by omega), bdrop (show k + 2 < s.size by omega), e3]
    have hY : (cmpQ (stepQ σ (bAt s k)).2 ((bl s).drop (k + 1))).getD 1 0 = bAt s (k + 2) := by
      rw [e] at hv ⊢
      rw [hd] at hv ⊢
      rw [str_Y hw hq (by omega) hv]
      rfl
    rw [show j - k = 0 by omega, bdrop hk, cmp_lt h9, heS, if_neg (by omega), if_pos ⟨e1, hy⟩, hY] at this
    have e0 : sub s (k + 3) (k + 1) = [] := by simp [sub, show k + 1 - (k + 3) = 0 by omega]
    rw [e0, show k + 3 - (k + 1) = 2 by omega, ← this]
    simp
  · have := hlt hV; omega
/-- Behind the step: a byte that stays. -/
theorem EMid.stay (q : ERel B v w s l0 V T g j k σ sv v' l' wr) {j1 : Nat} {v1 : Value} {l1 : List Int} {w1 : World} (m : EMid B v w s l0 V T k σ sv j1 v1 l1 w1) (hk : k < s.size) {y : Int} {σ2 : Sc} (hy : stepQ σ (bAt s k) = (y, σ2)) (h9 : y < 9)
    {sv2 : Value} {w2 : World} (hS : IsS w2 w.heap.size w.heap.size σ2 sv2) (hP : Stp w.heap.size sv w1 sv2 w2) : g - 1 < g ∧ ERel B v w s l0 V T (g - 1) j1 (k + 1) σ2 sv2 v1 l1 w2 := by
  have hf := q.fuel
  have ho := (ok_step q.inv (bAt s k)).inv
  have hd := q.dep
  rw [bdrop hk] at hd
  have hval : validQ σ ((bl s).drop k) = V := q.val
  rw [bdrop hk, validQ_cons, hy, if_neg (by show ¬ y = 11; omega)] at hval
  have hd2 := hd.2
  have hwl : V = true → Wl σ2 := fun hV => by
    obtain ⟨hw, hg, _⟩ := q.good hk hV
    have := hw.step hg
    rwa [hy] at this
  have hout : V = true → (stepQ σ (bAt s k)).1 < 9 → l1 ++ sub s j1 (k + 1) ++ heS (j1 - (k + 1)) (cmpQ (stepQ σ (bAt s k)).2 ((bl s).drop (k + 1))) = T := m.out
  rw [hy] at ho hd2 hout
  exact ⟨by omega, ⟨m.js, by omega, by have := m.jk; omega, m.pend, bs_stp m.bs m.sc hP, ap_stp m.ap m.sc (Nat.le_refl _) hP, by have := m.len; omega, by omega, hS, ho, hwl, hd2, hval, fun hV => hout hV h9⟩⟩
/-- Behind the step: a byte that is left out. -/
theorem EMid.skip (q : ERel B v w s l0 V T g j k σ sv v' l' wr) {j1 : Nat} {v1 : Value} {l1 : List Int} {w1 : World} (m : EMid B v w s l0 V T k σ sv j1 v1 l1 w1) (hk : k < s.size) {y : Int} {σ2 : Sc} (hy : stepQ σ (bAt s k) = (y, σ2)) (h9 : 9 ≤ y) (h11 : y ≠ 11)
    {sv2 v2 : Value} {w2 w3 : World} (hS : IsS w2 w.heap.size w.heap.size σ2 sv2) (hP : Stp w.heap.size sv w1 sv2 w2) (hb : Bs w3 B v2 (l0 ++ (l1 ++ sub s j1 k))) (ha : Ap v1 w2 v2 w3) :
    g - 1 < g ∧ ERel B v w s l0 V T (g - 1) (k + 1) (k + 1) σ2 sv2 v2 (l1 ++ sub s j1 k) w3 := by
  have hf := q.fuel
  have ho := (ok_step q.inv (bAt s k)).inv
  have hd := q.dep
  rw [bdrop hk] at hd
  have hval : validQ σ ((bl s).drop k) = V := q.val
  rw [bdrop hk, validQ_cons, hy, if_neg (by show ¬ y = 11; omega)] at hval
  have hd2 := hd.2
  have hwl : V = true → Wl σ2 := fun hV => by
    obtain ⟨hw, hg, _⟩ := q.good hk hV
    have := hw.step hg
    rwa [hy] at this
  have hout : V = true → 9 ≤ (stepQ σ (bAt s k)).1 → j1 ≤ k ∧ l1 ++ sub s j1 k ++ heS 0 (cmpQ (stepQ σ (bAt s k)).2 ((bl s).drop (k + 1))) = T := m.out9
  rw [hy] at ho hd2 hout
  have hb2 := bs_stp m.bs m.sc hP
  refine ⟨by omega, ⟨by omega, by omega, by omega, fun i h1 h2 => by omega, hb, (ap_stp m.ap m.sc (Nat.le_refl _) hP).trans ha, by have := m.len; have := m.jk; simp [sub_len]; omega, by omega, isS_ap hS hb2 ha, ho, hwl, hd2, hval, fun hV => ?_⟩⟩
  rw [sub_self, Nat.sub_self, List.append_nil]
  exact (hout hV h9).2
end
set_option maxRecDepth 100000 in
set_option maxHeartbeats 16000000 in
theorem compT (B : Nat) (v : Value) (l : List Int) (s : ByteArray) (b cap : Nat) (w : World) (hv : Bs w B v l) (hB : B ≤ w.heap.size) (hs : s.size ≤ 100000000000) (hl : l.length ≤ 100000000000) (hcap : s.size ≤ cap) (hcm : cap ≤ maxLen)
    (hS : Lib.Bytes w b 0 s) (hbn : v.ownBlock ≠ some b) (hbl : b < w.heap.size) (hd : DepQ 9000 sc0 (bl s)) :
    Calls Try.prog 36 #[v, .slice (some ⟨b, 0, none⟩) s.size cap, .bool true] w (CompR B v w l (heL (cmpQ sc0 (bl s))) (validQ sc0 (bl s))) := by
  obtain ⟨i0, hi, hz0, hz1, hz2⟩ := info_parts Try.infoU8
  obtain ⟨T, hT⟩ : ∃ T, heL (cmpQ sc0 (bl s)) = T := ⟨_, rfl⟩
  obtain ⟨V, hV⟩ : ∃ V, validQ sc0 (bl s) = V := ⟨_, rfl⟩
  have hn := new_any w
  have hcapI : (cap : Int) ≤ 9223372036854775807 := by unfold maxLen at hcm; omega
  have hscI : (s.size : Int) ≤ (cap : Int) := by omega
  have h0 : ∀ w1, IsS w1 w.heap.size w.heap.size sc0 (.slice none 0 0) → Below w.heap.size w w1 → ERel B v w s l V T s.size 0 0 sc0 (.slice none 0 0) v [] w1 := fun w1 h1 h2 =>
    ⟨Nat.zero_le _, Nat.zero_le _, by omega, fun i h3 h4 => by omega, by rw [List.append_nil]; exact hv.below h2, Ap.of_below v h2, by simp, by omega, h1, inv0, fun _ => wl0, hd, hV, fun _ => by rw [sub_self]; exact hT⟩
  rw [hT, hV]
  obtain ⟨ao0, cap0, rfl, _, _⟩ := hv.form
  obtain ⟨n0, hn0⟩ : ∃ n0, l.length = n0 := ⟨_, rfl⟩
  have HN := Lib.hid hn0
  rw [hn0] at h0 hbn hl ⊢
  clear hcm hT hV hn0 hv
  go_enter_defers Try.func36, Try.ntmps36
  go_wp2_with (first | (go_at_call 25; refine hn.mono ?_; rintro e w1 ⟨rfl, hS0, _, hb0⟩))
  have h1 := h0 w1 hS0 hb0
  clear h0 hS0 hb0 hn
  have hbw : b < w.heap.size := hbl
  obtain ⟨b1, hb1⟩ : ∃ b1, w.heap.size = b1 := ⟨_, rfl⟩
  rw [hb1] at hB hbl hbw ⊢
  have hB1 : w.heap.size = b1 := hb1
  go_loopg [0, 10, 20] s.size (fun g d i n wr => ∃ (j k : Nat) (σ : Sc) (sv v' : Value) (l' : List Int), d = v' ∧ i = .int .i64 j ∧ n = .int .i64 k ∧ ERel B (.slice ao0 n0 cap0) w s l V T g j k σ sv v' l' wr)
  case atStart => exact ⟨0, 0, sc0, _, _, [], rfl, rfl, rfl, h1⟩
  case round =>
    clear h1 hb1
    have HB1 := Lib.hid hB1
    clear hB1
    obtain ⟨j, k, σ, sv, v', l', rfl, rfl, rfl, q⟩ := hrel
    obtain ⟨qjs, qks, qjk, qpend, qbs, qap, qlen, qf, qsc, qi, qwl, qd, qv, qo⟩ := id q
    rw [HB1.out] at qsc
    have hSr := bytes_block hS (qap.block (by rw [HB1.out]; exact hbl) hbn)
    have hsz := qap.size
    rw [HB1.out] at hsz
    have hBr : B ≤ wr.heap.size := Nat.le_trans hB hsz
    have hblr : b < wr.heap.size := Nat.lt_of_lt_of_le hbl hsz
    have hbnr := qap.ne (by rw [HB1.out]; exact hbl) hbn
    by_cases hk : k < s.size
    case neg =>
      obtain rfl : k = s.size := by omega
      have hdr : (bl s).drop s.size = [] := List.drop_of_length_le (by rw [bl_len]; exact Nat.le_refl _)
      have qv' : validQ σ ((bl s).drop s.size) = V := qv
      have qo' : V = true → l' ++ sub s j s.size ++ heS (j - s.size) (cmpQ σ ((bl s).drop s.size)) = T := qo
      rw [hdr] at qv' qo'
      have qv2 : ((eofQ σ).1 != 11) = V := qv'
      have he := eof_any b1 b1 σ sv wr qsc hsz (by have := qd.here; omega) qi.bs
      have hbad := @eof_bad σ
      obtain ⟨y, hy⟩ : ∃ y, (eofQ σ).1 = y := ⟨_, rfl⟩
      obtain ⟨σ2, hσ⟩ : ∃ σ2, (eofQ σ).2 = σ2 := ⟨_, rfl⟩
      rw [hy, hσ] at he hbad
      rw [hy] at qv2
      by_cases h11 : y = 11
      · subst h11
        have hb2 := hbad rfl
        obtain rfl : V = false := by rw [← qv2]; rfl
        clear hbad hy hσ qv qo qv' qo' qv2 hdr qd q qwl qpend
        rcases qbs.cutn with ⟨rfl, rfl, rfl⟩ | ⟨gb, cp, rfl, hc1, hc2, hcut⟩
        · obtain rfl : n0 = 0 := by rw [← HN.out]; rfl
          go_upto_region 26 with (first
            | (go_at_call 26; refine he.mono ?_; rintro e w3 ⟨v3, rfl, hS3, hP3⟩; obtain ⟨e3, n3, he3, _, _, _, c33, _, _⟩ := hS3.cells; obtain ⟨pe, es, en, rfl, hpe, hce⟩ := he3.2 hb2))
          have q33 : ∀ nq, (w3.drewN nq).cell? ⟨b1, 3, none⟩ = some (.iface 74 (.pointer (some ⟨pe, 0, none⟩))) := fun _ => c33
          clear c33
          go_quiet (fail)
          go_wp2_with fail
          have hS3q : IsS (w3.drewN nq) b1 b1 σ2 v3 := ⟨hS3.hB, hS3.cell, hS3.row⟩
          refine leaves_cons (f := 34) (args := #[.pointer (some ⟨b1, 0, none⟩)]) (by simp) (by simp [go_sem]) ?_
          refine (free_k b1 b1 _ _ _ _ hS3q).mono ?_
          rintro e u' w5 ⟨rfl, rfl, hF⟩
          have HB2 := HB1.out
          subst HB2
          exact ⟨_, results_tmp2 rfl _ _ _, CompR.bad0 qap qsc hS3q (hP3.trans (Stp.drew _ _ _ nq)) hF hpe hce⟩
        · rw [HN.out] at hc1 hcut
          have hn0I : (0 : Int) ≤ (n0 : Int) := by omega
          have hncI : (n0 : Int) ≤ (cp : Int) := by omega
          have hcpI : (cp : Int) ≤ 9223372036854775807 := by unfold maxLen at hc2; omega
          rw [HN.out] at qap qbs hbnr
          obtain ⟨m, hm⟩ : ∃ m, n0 + l'.length = m := ⟨_, rfl⟩
          rw [hm] at hc1 qap qbs hbnr
          rw [HN.out, hm]
          clear hm hc2
          go_upto_region 26 with (first
            | (go_at_call 26; refine he.mono ?_; rintro e w3 ⟨v3, rfl, hS3, hP3⟩; obtain ⟨e3, n3, he3, _, _, _, c33, _, _⟩ := hS3.cells; obtain ⟨pe, es, en, rfl, hpe, hce⟩ := he3.2 hb2))
          have q33 : ∀ nq, (w3.drewN nq).cell? ⟨b1, 3, none⟩ = some (.iface 74 (.pointer (some ⟨pe, 0, none⟩))) := fun _ => c33
          clear c33
          go_quiet (fail)
          go_wp2_with fail
          have hS3q : IsS (w3.drewN nq) b1 b1 σ2 v3 := ⟨hS3.hB, hS3.cell, hS3.row⟩
          refine leaves_cons (f := 34) (args := #[.pointer (some ⟨b1, 0, none⟩)]) (by simp) (by simp [go_sem]) ?_
          refine (free_k b1 b1 _ _ _ _ hS3q).mono ?_
          rintro e u' w5 ⟨rfl, rfl, hF⟩
          have HN2 := HN.out
          subst HN2
          have HB2 := HB1.out
          subst HB2
          exact ⟨_, results_tmp2 rfl _ _ _, CompR.bad qap rfl hcut qsc hS3q (hP3.trans (Stp.drew _ _ _ nq)) hF hpe hce⟩
      · have h11' : (y == 11) = false := by simpa using h11
        obtain rfl : V = true := by rw [← qv2]; simp [h11]
        have hT2 : Hid (l' ++ sub s j s.size = T) := Lib.hid (by
          have := qo' rfl
          rw [show j - s.size = 0 by omega] at this
          simpa [cmpQ, K, heS] using this)
        clear hbad hy hσ qv qo qv' qo' qv2 hdr qd h11 q qwl qpend
        have hlnn : (l ++ l').length + (s.size - j) ≤ 140737488355328 := by rw [List.length_append, HN.out]; omega
        have hln1 : (l ++ l').length + (sub s j s.size).length ≤ 140737488355328 := by rw [sub_len]; exact hlnn
        by_cases hjs : j < s.size
        · have hjI : (j : Int) < (s.size : Int) := by omega
          have hjc : (j : Int) < (cap : Int) := by omega
          have hjc' : (j : Int) ≤ (cap : Int) := by omega
          go_wp2_with (first
            | (go_at_call 26; refine he.mono ?_; rintro e w3 ⟨v3, rfl, hS3, hP3⟩; have hbs3 := bs_stp qbs qsc hP3; have hS3b := bytes_block hSr (hP3.block b hblr (by omega) (fun e => by have := (qsc.own_lt e).1; omega)); have hB3 : B ≤ w3.heap.size := Nat.le_trans hBr hP3.size)
            | (at_builtin; refine wpList_append_bs _ rfl (.tmp 145) (.tmp 148) 42 42 (by rfl) B i0 Try.underlying42 hi hz0 hz1 hz2 _ _ rfl hbs3 _ (sub s j s.size) rfl (sub_by s j s.size) (src_cells Try.underlying42 _ _ _ _ (sub_len s j s.size) _ _ hz1 (.inr ⟨b, j, rfl, sub_cells hS3b (Nat.le_refl _)⟩)) (by exact hln1) (by first | assumption | omega | (simp; omega)) ?_; intro v4 w4 hb4 ha4))
          have hS4 := isS_ap hS3 hbs3 ha4
          have hap4 := (ap_stp qap qsc (Nat.le_of_eq HB1.out) hP3).trans ha4
          refine leaves_cons (f := 34) (args := #[.pointer (some ⟨b1, 0, none⟩)]) (by simp) (by simp [go_sem]) ?_
          refine (free_k b1 b1 _ _ _ _ hS4).mono ?_
          rintro e u' w5 ⟨rfl, rfl, hF⟩
          exact ⟨_, results_tmp2 rfl _ _ _, CompR.good hap4 (by rw [← HT2 hT2 l]; exact hb4) hS4 hF HB1.out⟩
        · obtain rfl : j = s.size := by omega
          go_wp2_with (first
            | (go_at_call 26; refine he.mono ?_; rintro e w3 ⟨v3, rfl, hS3, hP3⟩))
          have hbs3 := bs_stp qbs qsc hP3
          have hap4 := ap_stp qap qsc (Nat.le_of_eq HB1.out) hP3
          refine leaves_cons (f := 34) (args := #[.pointer (some ⟨b1, 0, none⟩)]) (by simp) (by simp [go_sem]) ?_
          refine (free_k b1 b1 _ _ _ _ hS3).mono ?_
          rintro e u' w5 ⟨rfl, rfl, hF⟩
          have e0 : l' = T := by have := hT2.out; rwa [sub_self, List.append_nil] at this
          exact ⟨_, results_tmp2 rfl _ _ _, CompR.good hap4 (by rw [← e0]; exact hbs3) hS3 hF HB1.out⟩
    obtain ⟨X, hX⟩ : ∃ X, bAt s k = X := ⟨_, rfl⟩
    have hX0 := bAt_nonneg s k
    have hX1 := bAt_le s k
    have c1 := cellC hSr hk X hX
    rw [hX] at hX0 hX1
    have HX := Lib.hid hX
    have hkI : (k : Int) < (s.size : Int) := by omega
    have hln1 : (l ++ l').length + (sub s j k).length ≤ 140737488355328 := by rw [List.length_append, sub_len, HN.out]; omega
    have hln2 : (l ++ l' ++ sub s j k).length + 6 ≤ 140737488355328 := by rw [List.length_append, List.length_append, sub_len, HN.out]; omega
    have hH : ∃ H, H = decide (X = 60 ∨ X = 62 ∨ X = 38) := ⟨_, rfl⟩
    obtain ⟨H, hH⟩ := hH
    have HH := Lib.hid hH
    -- what the round is: within a separator, an escape, a separator, none of these
    have QP : k < j → EMid B (.slice ao0 n0 cap0) w s l V T k σ sv j u0 l' wr := fun h => q.pass hk h
    have QN : j ≤ k → H = false → sepB s k = false → EMid B (.slice ao0 n0 cap0) w s l V T k σ sv j u0 l' wr := fun h1 h2 h3 => q.none hk h1 (by rw [HX.out]; rw [hH] at h2; simpa using h2) h3
    have hpj : k < j → 128 ≤ X ∧ X < 200 := fun h => by have := qpend k (Nat.le_refl _) h; rw [hX] at this; exact this
    clear qv qo qpend hX hH
    go_upto_region 8 with fail
    go_cut [37] from 25 to 130 (fun v wx => v = .bool H ∧ wx = wr)
    case first =>
      have hH := HH.out
      clear HH QP QN
      by_cases h60 : X = 60
      · subst h60
        subst hH
        go_wp2_with fail
        go_meet
        exact ⟨rfl, rfl⟩
      have d60 : (X == 60) = false := by simpa using h60
      by_cases h62 : X = 62
      · subst h62
        subst hH
        go_wp2_with fail
        go_meet
        exact ⟨rfl, rfl⟩
      have d62 : (X == 62) = false := by simpa using h62
      have hH2 : H = decide (X = 38) := by rw [hH]; simp [h60, h62]
      clear hH h60 h62
      subst hH2
      go_wp2_with fail
      all_goals go_meet
      all_goals first | exact ⟨rfl, rfl⟩ | exact ⟨congrArg Value.bool (by rw [Bool.eq_iff_iff]; simp), rfl⟩
    case rest =>
      obtain ⟨rfl, rfl⟩ := hcut
      go_upto_if 37 with fail
      go_cut [0, 10] from 38 to 130 (fun d i wx => (H = false ∧ d = u0 ∧ i = .int .i64 (j : Nat) ∧ wx = wc) ∨ (H = true ∧ ∃ (v1 : Value) (l1 : List Int), d = v1 ∧ i = .int .i64 ((k + 1 : Nat) : Int) ∧ EMid B (.slice ao0 n0 cap0) w s l V T k σ sv (k + 1) v1 l1 wx))
      case first =>
        cases H
        · go_wp2_with fail
          go_meet
          exact .inl (by simp)
        · have hh : X = 60 ∨ X = 62 ∨ X = 38 := by have := HH.out; simpa using this.symm
          have hj2 : j ≤ k := by
            by_cases h : j ≤ k
            · exact h
            · have := hpj (by omega); omega
          have Qh := fun (v1 : Value) (w1 : World) hb ha => q.hit hk hj2 (by rw [HX.out]; exact hh) (v1 := v1) (w1 := w1) hb ha
          rw [HX.out] at Qh
          have xa := fun w => hexIdx .u8 (X / 16) (by omega) (by omega) w
          have xb := fun w => hexIdx .u8 (X % 16) (by omega) (by omega) w
          have ma : bits .and .u8 X 15 = X % 16 := bits_mask .u8 8 (by decide) wraps_u8 4 (by decide) _ hX0 (by omega)
          have g8 : By8 [92, 117, 48, 48, hxD (X / 16), hxD (X % 16)] := by
            have h1 := hxD_by (n := X / 16) (by omega) (by omega)
            have h2 := hxD_by (n := X % 16) (by omega) (by omega)
            intro x hx; simp at hx; omega
          clear QP QN HH hpj q qwl
          go_upto_if 40 with fail
          go_cut [0] from 40 to 130 (fun d wx => Bs wx B d (l ++ l' ++ sub s j k) ∧ Ap u0 wc d wx)
          case first =>
            by_cases hjk : j < k
            · have hjI : (j : Int) < (k : Int) := by omega
              have hkc : (k : Int) ≤ (cap : Int) := by omega
              have hjc : (j : Int) < (cap : Int) := by omega
              go_wp2_with (first | (at_builtin; refine wpList_append_bs _ rfl (.tmp 41) (.tmp 45) 42 42 (by rfl) B i0 Try.underlying42 hi hz0 hz1 hz2 _ _ rfl qbs _ (sub s j k) rfl (sub_by s j k) (src_cells Try.underlying42 _ _ _ _ (sub_len s j k) _ _ hz1 (.inr ⟨b, j, rfl, sub_cells hSr qks⟩)) (by exact hln1) (by first | assumption | omega | (simp; omega)) ?_; intro v3 w3 hb3 ha3))
              go_meet
              exact ⟨hb3, ha3⟩
            · have hjI : ¬ (j : Int) < (k : Int) := by omega
              obtain rfl : j = k := by omega
              go_wp2_with fail
              go_meet
              exact ⟨by rw [sub_self, List.append_nil]; exact qbs, Ap.refl _ _⟩
          case rest =>
            obtain ⟨hb3, ha3⟩ := hcut
            have hB3 := Nat.le_trans hBr ha3.size
            clear hbnr hln1
            go_upto_region 11 with fail
            refine wp_region_any (by kernel_rfl) ?_
            try (change wpAny _ _ _ _ _ _ _ (World.drew _))
            refine wpAny_take (i := 0) (v := ?_) rfl (by kernel_rfl) (by kernel_rfl) (by kernel_rfl) (fun _ _ _ h => pan_put (fn := Try.f36) 6 7 47 rfl (by decide) (by decide) h) (Or.inl ⟨by rfl, ?_⟩) ?_
            rotate_left
            · intro wx; go_simp; try with_reducible rfl
            rotate_left
            refine wpAny_take (i := 1) (v := ?_) rfl (by kernel_rfl) (by kernel_rfl) (by kernel_rfl) (fun _ _ _ h => pan_put (fn := Try.f36) 6 7 48 rfl (by decide) (by decide) h) (Or.inl ⟨by rfl, ?_⟩) ?_
            rotate_left
            · intro wx; go_simp; try with_reducible rfl
            rotate_left
            refine wpAny_take (i := 2) (v := ?_) rfl (by kernel_rfl) (by kernel_rfl) (by kernel_rfl) (fun _ _ _ h => pan_put (fn := Try.f36) 6 7 49 rfl (by decide) (by decide) h) (Or.inl ⟨by rfl, ?_⟩) ?_
            rotate_left
            · intro wx; go_simp; try with_reducible rfl
            rotate_left
            refine wpAny_take (i := 3) (v := ?_) rfl (by kernel_rfl) (by kernel_rfl) (by kernel_rfl) (fun _ _ _ h => pan_put (fn := Try.f36) 6 7 50 rfl (by decide) (by decide) h) (Or.inl ⟨by rfl, ?_⟩) ?_
            rotate_left
            · intro wx; go_simp; try with_reducible rfl
            rotate_left
            refine wpAny_take (i := 4) (v := ?_) rfl (by kernel_rfl) (by kernel_rfl) (by kernel_rfl) (fun _ _ _ h => pan_put (fn := Try.f36) 6 7 51 rfl (by decide) (by decide) h) (Or.inl ⟨by rfl, ?_⟩) ?_
            rotate_left
            · intro wx; go_simp; try with_reducible rfl
            rotate_left
            refine wpAny_take (i := 5) (v := ?_) rfl (by kernel_rfl) (by kernel_rfl) (by kernel_rfl) (fun _ _ _ h => pan_put (fn := Try.f36) 6 7 52 rfl (by decide) (by decide) h) (Or.inl ⟨by rfl, ?_⟩) ?_
            rotate_left
            · intro wx; go_simp; try with_reducible rfl
            rotate_left
            refine wpAny_take (i := 6) (v := ?_) rfl (by kernel_rfl) (by kernel_rfl) (by kernel_rfl) (fun _ _ _ h => pan_put (fn := Try.f36) 6 7 53 rfl (by decide) (by decide) h) (Or.inl ⟨by rfl, ?_⟩) ?_
            rotate_left
            · intro wx; go_simp; try with_reducible rfl
            rotate_left
            refine wpAny_rest 7 (by kernel_rfl) ?_
            simp only [List.drop_succ_cons, List.drop_zero]
            have hb3d : Bs wc.drew B u0 (l ++ l' ++ sub s j k) := hb3.drewN 1
            have ha3d := ha3.trans (Ap.drewN u0 wc 1)
            have hB3d : B ≤ wc.drew.heap.size := hB3
            change Ap _ _ _ wc.drew at ha3d
            clear hb3 ha3 hB3
            generalize wc.drew = w5 at hb3d ha3d hB3d ⊢
            go_wp2_with (first | (at_builtin; refine wpList_append_bs _ rfl (.tmp 47) (.tmp 54) 42 42 (by rfl) B i0 Try.underlying42 hi hz0 hz1 hz2 _ _ rfl (Bs.alloc hb3d _) _ [92, 117, 48, 48, hxD (X / 16), hxD (X % 16)] rfl g8 (src_lit Try.underlying42 _ [92, 117, 48, 48, hxD (X / 16), hxD (X % 16)] 6 rfl _ _ hz1 _ rfl) (by exact hln2) (by first | assumption | omega | (simp; omega)) ?_; intro v4 w4 hb4 ha4))
            go_meet
            exact .inr ⟨trivial, _, _, rfl, by go_num, Qh _ _ (by rw [← List.append_assoc, ← List.append_assoc]; exact hb4) ((ha3d.trans (Ap.alloc _ _ _)).trans ha4)⟩
      case rest =>
        have hcut2 := hcut
        clear hcut
        obtain ⟨S, hSd⟩ : ∃ S, S = (!H && sepB s k) := ⟨_, rfl⟩
        have HSd := Lib.hid hSd
        clear hSd
        go_upto_region 13 with fail
        go_cut [86] from 58 to 130 (fun v wx => v = .bool S ∧ wx = wc)
        case first =>
          rcases hcut2 with ⟨rfl, rfl, rfl, rfl⟩ | ⟨rfl, v1, l1, rfl, rfl, m⟩
          · have hSp : S = sepB s k := by rw [HSd.out]; rfl
            clear QP QN q qwl hpj HH HSd
            by_cases h226 : X = 226
            · subst h226
              unfold sepB at hSp
              by_cases h2 : k + 2 < s.size
              · obtain ⟨Y, hY⟩ : ∃ Y, bAt s (k + 1) = Y := ⟨_, rfl⟩
                obtain ⟨Z, hZ⟩ : ∃ Z, bAt s (k + 2) = Z := ⟨_, rfl⟩
                have c3 := cellC hSr (show k + 1 < s.size by omega) Y hY
                have c4 := cellC hSr h2 Z hZ
                have hz0 := bAt_nonneg s (k + 2)
                have hz1' := bAt_le s (k + 2)
                rw [hZ] at hz0 hz1'
                have han := andnot2 hz0 hz1'
                have hSv : S = decide (Y = 128 ∧ (Z = 168 ∨ Z = 169)) := by rw [hSp, HX.out, hY, hZ]; simp [h2]
                have e2 : (k : Int) + 2 < (s.size : Int) := by omega
                have e3 : ((k : Int) + 1).toNat = k + 1 := by omega
                have e4 : ((k : Int) + 2).toNat = k + 2 := by omega
                have e5 : (k : Int) + 1 < (s.size : Int) := by omega
                have e6 : (0 : Int) ≤ (k : Int) + 1 := by omega
                have e7 : (0 : Int) ≤ (k : Int) + 2 := by omega
                clear hSp hY hZ
                subst hSv
                by_cases hy : Y = 128
                · have e8 : (Y == 128) = true := by simp [hy]
                  go_wp2_with fail
                  go_meet
                  exact ⟨congrArg Value.bool (by simp [hy]), rfl⟩
                · have e8 : (Y == 128) = false := by simpa using hy
                  go_wp2_with fail
                  go_meet
                  exact ⟨congrArg Value.bool (by simp [hy]), rfl⟩
              · have e2 : ¬ (k : Int) + 2 < (s.size : Int) := by omega
                have hSv : S = false := by rw [hSp]; simp [h2]
                clear hSp
                subst hSv
                go_wp2_with fail
                go_meet
                exact ⟨rfl, rfl⟩
            · have d226 : (X == 226) = false := by simpa using h226
              have hSv : S = false := by rw [hSp]; unfold sepB; rw [HX.out]; simp [h226]
              clear hSp h226
              subst hSv
              go_wp2_with fail
              go_meet
              exact ⟨rfl, rfl⟩
          · have hSv : S = false := by rw [HSd.out]; rfl
            have hh : X = 60 ∨ X = 62 ∨ X = 38 := by have := HH.out; simpa using this.symm
            have d226 : (X == 226) = false := by simp; omega
            clear QP QN q qwl hpj HH HSd m hh
            subst hSv
            go_wp2_with fail
            go_meet
            exact ⟨rfl, rfl⟩
        case rest =>
          obtain ⟨rfl, rfl⟩ := hcut
          go_upto_if 86 with fail
          go_cut [0, 10] from 86 to 130 (fun d i wx => ∃ (v1 : Value) (l1 : List Int) (j1 : Nat), d = v1 ∧ i = .int .i64 (j1 : Int) ∧ EMid B (.slice ao0 n0 cap0) w s l V T k σ sv j1 v1 l1 wx)
          case first =>
            rcases hcut2 with ⟨rfl, rfl, rfl, rfl⟩ | ⟨rfl, v1, l1, rfl, rfl, m⟩
            · have hSp : S = sepB s k := by rw [HSd.out]; rfl
              cases S
              · have M := (Nat.lt_or_ge k j).elim QP (fun hj => QN hj rfl hSp.symm)
                clear QP QN q qwl hpj HH HSd hSp
                go_wp2_with fail
                go_meet
                exact ⟨_, _, _, rfl, rfl, M⟩
              · have hsp := hSp.symm
                unfold sepB at hsp
                rw [decide_eq_true_eq] at hsp
                obtain ⟨s1, s2, s3, s4⟩ := hsp
                have hj2 : j ≤ k := by
                  by_cases h : j ≤ k
                  · exact h
                  · have := hpj (by omega); rw [HX.out] at s1; omega
                obtain ⟨Z, hZ⟩ : ∃ Z, bAt s (k + 2) = Z := ⟨_, rfl⟩
                have c4 := cellC hSr s2 Z hZ
                rw [hZ] at s4
                have Qs := @ERel.sep _ _ _ _ _ _ _ _ _ _ _ _ _ _ _ q hk hj2 hSp.symm
                rw [hZ] at Qs
                have HZ := Lib.hid hZ
                have xb := fun w => hexIdx .u8 (Z % 16) (by omega) (by omega) w
                have ma : bits .and .u8 Z 15 = Z % 16 := bits_mask .u8 8 (by decide) wraps_u8 4 (by decide) _ (by omega) (by omega)
                have g8 : By8 [92, 117, 50, 48, 50, hxD (Z % 16)] := by
                  have h2 := hxD_by (n := Z % 16) (by omega) (by omega)
                  intro x hx; simp at hx; omega
                have e2 : (k : Int) + 2 < (s.size : Int) := by omega
                have e4 : ((k : Int) + 2).toNat = k + 2 := by omega
                have e7 : (0 : Int) ≤ (k : Int) + 2 := by omega
                clear QP QN q qwl hpj HH HSd hSp hZ s1 s3 s4
                by_cases hjk : j < k
                · have hjI : (j : Int) < (k : Int) := by omega
                  have hkc : (k : Int) ≤ (cap : Int) := by omega
                  have hjc : (j : Int) < (cap : Int) := by omega
                  go_wp2_with (first
                    | (at_builtin; refine wpList_append_bs _ rfl (.tmp 90) (.tmp 94) 42 42 (by rfl) B i0 Try.underlying42 hi hz0 hz1 hz2 _ _ rfl qbs _ (sub s j k) rfl (sub_by s j k) (src_cells Try.underlying42 _ _ _ _ (sub_len s j k) _ _ hz1 (.inr ⟨b, j, rfl, sub_cells hSr qks⟩)) (by exact hln1) (by first | assumption | omega | (simp; omega)) ?_; intro v3 w3 hb3 ha3; have hB3 : B ≤ w3.heap.size := Nat.le_trans hBr ha3.size; have c5 := cellC (bytes_block hSr (ha3.block hblr hbnr)) s2 Z HZ.out)
                    | (at_builtin; refine wpList_append_bs _ rfl (.tmp 96) (.tmp 104) 42 42 (by rfl) B i0 Try.underlying42 hi hz0 hz1 hz2 _ _ rfl (Bs.alloc hb3 _) _ [92, 117, 50, 48, 50, hxD (Z % 16)] rfl g8 (src_lit Try.underlying42 _ [92, 117, 50, 48, 50, hxD (Z % 16)] 6 rfl _ _ hz1 _ rfl) (by exact hln2) (by first | assumption | omega | (simp; omega)) ?_; intro v4 w4 hb4 ha4))
                  go_meet
                  exact ⟨_, _, k + 3, rfl, by go_num, Qs (by rw [← List.append_assoc, ← List.append_assoc]; exact hb4) ((ha3.trans (Ap.alloc _ _ _)).trans ha4)⟩
                · have hjI : ¬ (j : Int) < (k : Int) := by omega
                  obtain rfl : j = k := by omega
                  have hln3 : (l ++ l').length + 6 ≤ 140737488355328 := by rw [sub_self, List.append_nil] at hln2; exact hln2
                  go_wp2_with (first
                    | (at_builtin; refine wpList_append_bs _ rfl (.tmp 96) (.tmp 104) 42 42 (by rfl) B i0 Try.underlying42 hi hz0 hz1 hz2 _ _ rfl (Bs.alloc qbs _) _ [92, 117, 50, 48, 50, hxD (Z % 16)] rfl g8 (src_lit Try.underlying42 _ [92, 117, 50, 48, 50, hxD (Z % 16)] 6 rfl _ _ hz1 _ rfl) (by exact hln3) (by first | assumption | omega | (simp; omega)) ?_; intro v4 w4 hb4 ha4))
                  go_meet
                  exact ⟨_, _, j + 3, rfl, by go_num, Qs (by rw [sub_self, List.append_nil, ← List.append_assoc]; exact hb4) ((Ap.alloc _ _ _).trans ha4)⟩
            · have hSv : S = false := by rw [HSd.out]; rfl
              clear QP QN q qwl hpj HH HSd
              subst hSv
              go_wp2_with fail
              go_meet
              exact ⟨_, _, k + 1, rfl, rfl, m⟩
          case rest =>
            obtain ⟨v1, l1, j1, rfl, rfl, m⟩ := hcut
            clear hcut2 QP QN HSd HH hpj hSr hsz hBr hblr qbs qap qsc c1 hbnr hln1 hln2
            obtain ⟨mjs, mjk, mpend, qbs, qap, mlen, qsc, mo, mo9⟩ := id m
            rw [HB1.out] at qsc
            have hSr := bytes_block hS (qap.block (by rw [HB1.out]; exact hbl) hbn)
            have hsz := qap.size
            rw [HB1.out] at hsz
            have hBr : B ≤ wc.heap.size := Nat.le_trans hB hsz
            have hblr : b < wc.heap.size := Nat.lt_of_lt_of_le hbl hsz
            have hbnr := qap.ne (by rw [HB1.out]; exact hbl) hbn
            obtain ⟨e1, n1, _, c10, _, _, _, _, f10⟩ := qsc.cells
            clear f10 mo mo9
            unfold fv at c10
            have hst := step_any b1 b1 σ sv X wc qsc hsz (by have := qd.here; omega) qi.bs
            have hok := ok_step qi X
            have hd2 : DepQ 9000 σ ((bl s).drop k) := qd
            rw [bdrop hk, HX.out] at hd2
            have hd3 := hd2.2.here
            obtain ⟨r, hr⟩ : ∃ r, stepQ σ X = r := ⟨_, rfl⟩
            rw [hr] at hst hok hd3
            have hrX : stepQ σ (bAt s k) = r := by rw [HX.out]; exact hr
            obtain ⟨y, σ2⟩ := r
            obtain ⟨o1, o2, o3⟩ := hok
            dsimp only at hst o1 o2 o3 hd3
            clear qd hd2 hr o3
            by_cases h11 : y = 11
            · subst h11
              have hb2 := o2 rfl
              have hv0 : validQ σ ((bl s).drop k) = V := q.val
              rw [bdrop hk, validQ_cons, hrX, if_pos rfl] at hv0
              subst hv0
              have heq : eofQ σ2 = (11, σ2) := by unfold eofQ; rw [hb2]; rfl
              have heb : ∀ (w2 : World) (v2 : Value), IsS w2 b1 b1 σ2 v2 → b1 ≤ w2.heap.size → Calls Try.prog 26 #[.pointer (some ⟨b1, 0, none⟩)] w2 fun e w' => ∃ v', e = .returned (.int .i64 11) ∧ IsS w' b1 b1 σ2 v' ∧ Stp b1 v2 w2 v' w' := fun w2 v2 h1 h2 => by
                have := eof_any b1 b1 σ2 v2 w2 h1 h2 (by omega) o1.bs
                rwa [heq] at this
              have HEB := Lib.hid heb
              clear q m heq o2 hrX heb qwl mpend
              go_wp2_with (first | (refine hst.mono ?_; rintro e w2 ⟨v2, rfl, hS2, hP2⟩; refine Hid.out ?_))
              refine Lib.hid ?_
              have he := HEB.out _ _ hS2 (Nat.le_trans hsz hP2.size)
              clear hst HEB c10
              rcases qbs.cutn with ⟨rfl, rfl, rfl⟩ | ⟨gb, cp, rfl, hc1, hc2, hcut⟩
              · obtain rfl : n0 = 0 := by rw [← HN.out]; rfl
                go_upto_region 26 with (first
                  | (go_at_call 26; refine he.mono ?_; rintro e w3 ⟨v3, rfl, hS3, hP3⟩; obtain ⟨e3, n3, he3, _, _, _, c33, _, _⟩ := hS3.cells; obtain ⟨pe, es, en, rfl, hpe, hce⟩ := he3.2 hb2))
                have q33 : ∀ nq, (w3.drewN nq).cell? ⟨b1, 3, none⟩ = some (.iface 74 (.pointer (some ⟨pe, 0, none⟩))) := fun _ => c33
                clear c33
                go_quiet (fail)
                go_wp2_with fail
                have hS3q : IsS (w3.drewN nq) b1 b1 σ2 v3 := ⟨hS3.hB, hS3.cell, hS3.row⟩
                refine leaves_cons (f := 34) (args := #[.pointer (some ⟨b1, 0, none⟩)]) (by simp) (by simp [go_sem]) ?_
                refine (free_k b1 b1 _ _ _ _ hS3q).mono ?_
                rintro e u' w5 ⟨rfl, rfl, hF⟩
                have HB2 := HB1.out
                subst HB2
                exact ⟨_, results_tmp2 rfl _ _ _, CompR.bad0 qap qsc hS3q (hP2.trans (hP3.trans (Stp.drew _ _ _ nq))) hF hpe hce⟩
              · rw [HN.out] at hc1 hcut
                have hn0I : (0 : Int) ≤ (n0 : Int) := by omega
                have hncI : (n0 : Int) ≤ (cp : Int) := by omega
                have hcpI : (cp : Int) ≤ 9223372036854775807 := by unfold maxLen at hc2; omega
                rw [HN.out] at qap qbs hbnr
                obtain ⟨m, hm⟩ : ∃ m, n0 + l1.length = m := ⟨_, rfl⟩
                rw [hm] at hc1 qap qbs hbnr
                rw [HN.out, hm]
                clear hm hc2
                go_upto_region 26 with (first
                  | (go_at_call 26; refine he.mono ?_; rintro e w3 ⟨v3, rfl, hS3, hP3⟩; obtain ⟨e3, n3, he3, _, _, _, c33, _, _⟩ := hS3.cells; obtain ⟨pe, es, en, rfl, hpe, hce⟩ := he3.2 hb2))
                have q33 : ∀ nq, (w3.drewN nq).cell? ⟨b1, 3, none⟩ = some (.iface 74 (.pointer (some ⟨pe, 0, none⟩))) := fun _ => c33
                clear c33
                go_quiet (fail)
                go_wp2_with fail
                have hS3q : IsS (w3.drewN nq) b1 b1 σ2 v3 := ⟨hS3.hB, hS3.cell, hS3.row⟩
                refine leaves_cons (f := 34) (args := #[.pointer (some ⟨b1, 0, none⟩)]) (by simp) (by simp [go_sem]) ?_
                refine (free_k b1 b1 _ _ _ _ hS3q).mono ?_
                rintro e u' w5 ⟨rfl, rfl, hF⟩
                have HN2 := HN.out
                subst HN2
                have HB2 := HB1.out
                subst HB2
                exact ⟨_, results_tmp2 rfl _ _ _, CompR.bad qap rfl hcut qsc hS3q (hP2.trans (hP3.trans (Stp.drew _ _ _ nq))) hF hpe hce⟩
            by_cases h9 : y < 9
            · have h9d : decide ((9 : Int) ≤ y) = false := by simp; omega
              clear h11
              go_wp2_with (first | (refine hst.mono ?_; rintro e w2 ⟨v2, rfl, hS2, hP2⟩))
              rw [← HB1.out] at hS2 hP2
              have Q := EMid.stay q m hk hrX h9 hS2 hP2
              go_roundg (gk - 1)
              case measure => exact Q.1
              case rel => exact ⟨j1, k + 1, σ2, _, _, l1, rfl, rfl, by go_num, Q.2⟩
            · have h9i : (9 : Int) ≤ y := by omega
              have h11d : (y == 11) = false := by simpa using h11
              have hln1 : (l ++ l1).length + (sub s j1 k).length ≤ 140737488355328 := by rw [List.length_append, sub_len, HN.out]; omega
              by_cases hjk : j1 < k
              · have hjI : (j1 : Int) < (k : Int) := by omega
                have hkc : (k : Int) ≤ (cap : Int) := by omega
                have hjc : (j1 : Int) < (cap : Int) := by omega
                go_wp2_with (first
                  | (refine hst.mono ?_; rintro e w2 ⟨v2, rfl, hS2, hP2⟩; have hbs2 := bs_stp qbs qsc hP2; have hS2b := bytes_block hSr (hP2.block b hblr (by omega) (fun e => by have := (qsc.own_lt e).1; omega)); have hB2 : B ≤ w2.heap.size := Nat.le_trans hBr hP2.size)
                  | (at_builtin; refine wpList_append_bs _ rfl (.tmp 122) (.tmp 126) 42 42 (by rfl) B i0 Try.underlying42 hi hz0 hz1 hz2 _ _ rfl hbs2 _ (sub s j1 k) rfl (sub_by s j1 k) (src_cells Try.underlying42 _ _ _ _ (sub_len s j1 k) _ _ hz1 (.inr ⟨b, j1, rfl, sub_cells hS2b qks⟩)) (by exact hln1) (by first | assumption | omega | (simp; omega)) ?_; intro v4 w4 hb4 ha4))
                rw [← HB1.out] at hS2 hP2
                have Q := EMid.skip q m hk hrX h9i h11 hS2 hP2 (by rw [← List.append_assoc]; exact hb4) ha4
                go_roundg (gk - 1)
                case measure => exact Q.1
                case rel => exact ⟨k + 1, k + 1, σ2, _, _, _, rfl, by go_num, by go_num, Q.2⟩
              · have hjI : (k : Int) ≤ (j1 : Int) := by omega
                have e0 : sub s j1 k = [] := by simp [sub, show k - j1 = 0 by omega]
                go_wp2_with (first | (refine hst.mono ?_; rintro e w2 ⟨v2, rfl, hS2, hP2⟩; have hbs2 := bs_stp qbs qsc hP2))
                rw [← HB1.out] at hS2 hP2
                have Q := EMid.skip q m hk hrX h9i h11 hS2 hP2 (by rw [e0, List.append_nil]; exact hbs2) (Ap.refl _ _)
                go_roundg (gk - 1)
                case measure => exact Q.1
                case rel => exact ⟨k + 1, k + 1, σ2, _, _, _, rfl, by go_num, by go_num, Q.2⟩
end Go.Proofs.Ytjbffgjclnjkoaa
