/- Joined texts: Ox, Qe, LSf. -/
import Derived.Test.YtjbffgjclnjkoaaGreatDoorB1
import Derived.Test.YtjbffgjclnjkoaaGreatDoorHi
import Derived.Test.YtjbffgjclnjkoaaGreatDoorQ1
import Derived.Test.YtjbffgjclnjkoaaGreatDoorF1
import Derived.Test.YtjbffgjclnjkoaaGreatDoorSw
import Derived.Test.YtjbffgjclnjkoaaGreatDoorSt
import Derived.Test.YtjbffgjclnjkoaaGreatDoorA2
namespace Go.Proofs.YtjbffgjclnjkoaaGreatDoor
set_option linter.unusedVariables false
set_option linter.unusedSimpArgs false
section
/- (Ox) impl.OldEscape: a text escaped for HTML behind another one, over a bytes.Buffer. -/
open Go.RowKit Go.Shelf

theorem bwO2 {w a b : World} (h : Below w.heap.size w a) (k : Below a.heap.size a b) : Below w.heap.size w b := Below.trans h (Below.mono k h.size)
theorem bufS_below2 {w w' : World} {b B : Nat} {v : Value} {l : List Int} (h : BufS w b B v l) (k : Below w.heap.size w w') : BufS w' b B v l := by
  obtain ⟨lr, hc⟩ := h.cell
  exact ⟨h.hB, ⟨lr, (k.block b (lt_of_block hc)).trans hc⟩, h.bs.below k⟩
/-- What has been made behind the buffer's bytes is written to it. -/
theorem html_write {b B g o m cap g1 o1 cap1 : Nat} {l T : List Int} {w w1 w2 : World} {v' : Value} (hb1 : BufS w1 b B (.slice (some ⟨g1, o1, none⟩) m cap1) l) (hP : Stp b (.slice (some ⟨g, o, none⟩) m cap) w (.slice (some ⟨g1, o1, none⟩) m cap1) w1) (hB1 : B ≤ w1.heap.size)
    (hlim : m + T.length ≤ 100000000000000) (hbT : Bs w2 B v' T) (hap : Ap (.slice (some ⟨g1, o1 + m, none⟩) 0 (cap1 - m)) w1 v' w2) : ∃ pa n pc, v' = .slice pa n pc ∧
      Calls Tryz.prog 35 #[.pointer (some ⟨b, 0, none⟩), .slice pa n pc] w2 fun e w' => e = .returned (.tuple #[.int .i64 n, .nilIface]) ∧ ∃ g3 o3 cap3, BufS w' b B (.slice (some ⟨g3, o3, none⟩) (m + n) cap3) (l ++ T) ∧ Stp b (.slice (some ⟨g, o, none⟩) m cap) w (.slice (some ⟨g3, o3, none⟩) (m + n) cap3) w' := by
  obtain ⟨h2, hP2⟩ := buf_behind hb1 hap
  have hB2 : B ≤ w2.heap.size := Nat.le_trans hB1 hP2.size
  obtain ⟨h8, pa, pc, hv', q1, q2, q3⟩ := id hbT
  subst hv'
  refine ⟨pa, _, pc, rfl, (write_any b B g1 o1 m cap1 T.length pc l T pa w2 h2 hbT hB2 hlim).mono ?_⟩
  rintro e w3 ⟨rfl, g3, o3, cap3, k1, k2⟩
  exact ⟨rfl, g3, o3, cap3, k1, (hP.trans hP2).trans k2⟩
set_option maxRecDepth 100000 in
set_option maxHeartbeats 4000000 in
theorem html_any (b B g o m cap : Nat) (l : List Int) (s : ByteArray) (sb scap : Nat) (w : World) (h : BufS w b B (.slice (some ⟨g, o, none⟩) m cap) l) (hB : B ≤ w.heap.size) (hs0 : 0 < s.size ∨ m = 0) (hs : s.size ≤ 10000000000) (hm : m ≤ 1000000000000) (hcap : s.size ≤ scap) (hcm : scap ≤ maxLen)
    (hS : Lib.Bytes w sb 0 s) (hsb : sb ≠ b) (hsg : sb ≠ g) (hbl : sb < w.heap.size) :
    Calls Tryz.prog 18 #[.pointer (some ⟨b, 0, none⟩), .slice (some ⟨sb, 0, none⟩) s.size scap] w fun e w' => e = .returned (.tuple #[]) ∧ ∃ g3 o3 n cap3, BufS w' b B (.slice (some ⟨g3, o3, none⟩) (m + n) cap3) (l ++ heL (bl s)) ∧ Stp b (.slice (some ⟨g, o, none⟩) m cap) w (.slice (some ⟨g3, o3, none⟩) (m + n) cap3) w' := by
  have hgr := growPub_any b B g o m cap s.size l w h hB (by omega)
  have hlen : (heL (bl s)).length ≤ 6 * s.size := by have := heL_len (bl s) 0; rw [bl_len] at this; exact this
  have hcF := fun v w1 h1 h2 h3 h4 h5 => htmlW B v [] s sb scap w1 h1 h2 (by omega) (by simp) hcap hcm h3 h4 h5
  generalize hT : heL (bl s) = T at *
  have hcomp : ∀ (w1 : World) (g1 o1 cap1 : Nat), BufS w1 b B (.slice (some ⟨g1, o1, none⟩) m cap1) l → Stp b (.slice (some ⟨g, o, none⟩) m cap) w (.slice (some ⟨g1, o1, none⟩) m cap1) w1 → Bs w1 B (.slice (some ⟨g1, o1 + m, none⟩) 0 (cap1 - m)) [] →
      Calls Tryz.prog 36 #[.slice (some ⟨g1, o1 + m, none⟩) 0 (cap1 - m), .slice (some ⟨sb, 0, none⟩) s.size scap] w1 fun e w2 => ∃ pa n pc, e = .returned (.slice pa n pc) ∧
        Calls Tryz.prog 35 #[.pointer (some ⟨b, 0, none⟩), .slice pa n pc] w2 fun e w' => e = .returned (.tuple #[.int .i64 n, .nilIface]) ∧ ∃ g3 o3 cap3, BufS w' b B (.slice (some ⟨g3, o3, none⟩) (m + n) cap3) (l ++ T) ∧ Stp b (.slice (some ⟨g, o, none⟩) m cap) w (.slice (some ⟨g3, o3, none⟩) (m + n) cap3) w' := by
    intro w1 g1 o1 cap1 hb1 hP hbs
    obtain ⟨hS1, hown, hsl⟩ := src_stp (B := B) (l := l) hP hS hsb hsg hbl
    have hB1 := Nat.le_trans hB hP.size
    refine (hcF _ w1 hbs hB1 hS1 (hown _ _) hsl).mono ?_
    rintro e w2 ⟨v', rfl, hbT, hap⟩
    rw [List.nil_append] at hbT
    obtain ⟨pa, n, pc, rfl, hw⟩ := html_write hb1 hP hB1 (by omega) hbT hap
    exact ⟨pa, n, pc, rfl, hw⟩
  clear hS hlen h hT hcF
  go_enter Tryz.func18, Tryz.ntmps18
  go_wp2_with (first
    | (go_at_call 34; refine hgr.mono ?_; rintro e w1 ⟨rfl, g1, o1, cap1, hc1, hb1, hP⟩)
    | (go_at_call 37; refine (avail_any b B g1 o1 m cap1 l w1 hb1).mono ?_; rintro e w2 ⟨v2, rfl, hbs, hv2, nq, rfl⟩; obtain rfl := avail_form hv2 (by omega); have hcc := hcomp (w1.drewN nq) g1 o1 cap1 ⟨hb1.hB, hb1.cell, hb1.bs.drewN nq⟩ (hP.trans (Stp.drew b _ w1 nq)) (hbs.drewN nq))
    | (go_at_call 36; refine hcc.mono ?_; rintro e w3 ⟨pa, n, pc, rfl, hwr⟩)
    | (go_at_call 35; refine hwr.mono ?_; rintro e w4 ⟨rfl, k1⟩))
  all_goals go_end0
  obtain ⟨g3, o3, cap3, k2, k3⟩ := k1
  exact ⟨rfl, g3, o3, _, cap3, k2, k3⟩
set_option maxRecDepth 100000 in
set_option maxHeartbeats 4000000 in
theorem oldEscape_any (a s : ByteArray) (w : World) (ha : a.size ≤ 100000000000) (hs : s.size ≤ 10000000000) (hs0 : 0 < s.size ∨ a.size = 0) :
    Calls Tryz.prog 7 #[.string a, .string s] w fun e w' => e = .returned (.string (txt (bl a ++ heL (bl s)))) ∧ Below w.heap.size w w' := by
  have hnb := newBuf_any a (by unfold maxLen; omega) w
  have hcc : ∀ (w1 : World) (cap : Nat), BufS w1 (w.heap.size + 1) w.heap.size (.slice (some ⟨w.heap.size, 0, none⟩) a.size cap) (bl a) → Below w.heap.size w w1 → ∃ c2 w2, (convert 9 54 (.string s)).run Tryz.prog w1 = .ok (.slice (some ⟨w1.heap.size, 0, none⟩) s.size c2) w2 ∧
      Calls Tryz.prog 18 #[.pointer (some ⟨w.heap.size + 1, 0, none⟩), .slice (some ⟨w1.heap.size, 0, none⟩) s.size c2] w2 fun e w3 => e = .returned (.tuple #[]) ∧ Below w.heap.size w w3 ∧ ∃ g o m cap, BufS w3 (w.heap.size + 1) w.heap.size (.slice (some ⟨g, o, none⟩) m cap) (bl a ++ heL (bl s)) := by
    intro w1 cap hb1 hbel
    obtain ⟨c2, w2, hc2, C2⟩ := cnvB s (by unfold maxLen; omega) w1
    have hb2 := bufS_below2 hb1 C2.below
    have hg1 : w.heap.size < w1.heap.size := by obtain ⟨_, _, _, _, _, _, hg, _⟩ := bs_room hb1.bs; exact lt_of_block hg
    have hbb := hb1.lt
    have hbel2 := bwO2 hbel C2.below
    refine ⟨c2, w2, hc2, (html_any (w.heap.size + 1) w.heap.size w.heap.size 0 a.size cap (bl a) s w1.heap.size c2 w2 hb2 (Nat.le_trans hbel.size C2.below.size) hs0 hs (by omega) C2.cap_ge C2.cap_le C2.bytes (by omega) (by omega) (by have := C2.size; omega)).mono ?_⟩
    rintro e w3 ⟨rfl, g3, o3, n, cap3, k1, k2⟩
    refine ⟨rfl, Below.trans hbel2 ⟨k2.os, k2.tape, k2.output, k2.size, fun k hk => k2.block k (Nat.lt_of_lt_of_le hk hbel2.size) (by omega) ?_⟩, g3, o3, _, cap3, k1⟩
    intro e
    have : w.heap.size = k := by simpa [Value.ownBlock] using e
    omega
  generalize bl a ++ heL (bl s) = T at hcc ⊢
  obtain ⟨m, hm⟩ : ∃ m, a.size = m := ⟨_, rfl⟩
  rw [hm] at hcc hnb
  clear ha hs hs0 hm
  go_enter Tryz.func7, Tryz.ntmps7
  go_upto_region 3 with (first
    | (go_at_call 17; refine hnb.mono ?_; rintro e w1 ⟨cap, rfl, hb1, hbel⟩; obtain ⟨c2, w2, hc2, hC⟩ := hcc w1 cap hb1 hbel)
    | (go_at_call 18; refine hC.mono ?_; rintro e w3 ⟨rfl, hbw, g, o, m3, cap3, hb3⟩))
  have hst := bufStr_any (w.heap.size + 1) w.heap.size g o m3 cap3 T w3 hb3
  have hbq : ∀ nq, Below w.heap.size w (w3.drewN nq) := fun nq => ⟨hbw.os, hbw.tape, hbw.output, hbw.size, hbw.block⟩
  clear hb3 hbw hcc hnb hC
  go_wp2_with (go_at_call 19; refine hst.mono ?_; rintro e w4 ⟨rfl, nq, rfl⟩)
  all_goals go_ret
  exact ⟨rfl, hbq _⟩
end
section
/- (Qe) FnOldSafe: the law. -/
open Go.RowKit

theorem heS_by2 : ∀ (l : List Int) (n : Nat), By8 l → By8 (heS n l)
  | [], n, _ => by simp [heS]; exact By8.nil
  | a :: t, n + 1, h => by rw [heS]; exact heS_by2 t n (fun x hx => h x (.tail _ hx))
  | a :: t, 0, h => by
    have ha := h a (.head _)
    have ht : By8 t := fun x hx => h x (.tail _ hx)
    have k1 := hxD_by (n := a / 16)
    have k2 := hxD_by (n := a % 16) (by omega) (by omega)
    have k3 := hxD_by (n := t.getD 1 0 % 16) (by omega) (by omega)
    rw [heS]
    split
    · rename_i hc
      have k1 := k1 (by omega) (by omega)
      refine By8.app (fun x hx => ?_) (heS_by2 t 0 ht)
      simp only [List.mem_cons, List.not_mem_nil, or_false] at hx
      rcases hx with rfl | rfl | rfl | rfl | rfl | rfl <;> omega
    · split
      · refine By8.app (fun x hx => ?_) (heS_by2 t 2 ht)
        simp only [List.mem_cons, List.not_mem_nil, or_false] at hx
        rcases hx with rfl | rfl | rfl | rfl | rfl | rfl <;> omega
      · intro x hx
        rcases List.mem_cons.1 hx with rfl | hx
        · exact ha
        · exact heS_by2 t 0 ht x hx
/-- Parse by strict rules: the fault, and the tree where there is none. -/
theorem parse_strict (s : ByteArray) (w : World) (hs : s.size ≤ 2147483647) :
    Calls Tryz.prog 5 #[.string s, .agg #[.bool false, .bool false]] w fun e w' => ∃ (k1 : Int) (t1 : ByteArray) (na : Option Addr) (nl nc : Nat) (ka : Option Addr) (kl kc : Nat) (f a : Int) (o : Bool),
      e = .returned (.tuple #[.agg #[.int .u8 k1, .string t1, .slice na nl nc, .slice ka kl kc], .agg #[.int .i64 f, .int .i64 a, .bool o]]) ∧ Below w.heap.size w w' ∧
      Hid (f = 0 → ∃ nd σ1, CnN s false false .val ⟨0, 0, false⟩ σ1 [] [nd] ∧ ¬ (St.sp s σ1).at_ < s.size ∧ (St.sp s σ1).fault = 0 ∧ NdM w' (fun g => w.heap.size ≤ g ∧ g < w'.heap.size) nd [.int .u8 k1, .string t1, .slice na nl nc, .slice ka kl kc]) ∧
      Hid (∃ r σ, RdN s false false .val ⟨0, 0, false⟩ r σ ∧ f = (FinS s r σ).fault ∧ (r = true → ∃ nd, CnN s false false .val ⟨0, 0, false⟩ σ [] [nd] ∧ NdM w' (fun g => w.heap.size ≤ g ∧ g < w'.heap.size) nd [.int .u8 k1, .string t1, .slice na nl nc, .slice ka kl kc])) := by
  refine (parse_cn NqS s false false w hs (nqs_quoted s (by omega)) (fun _ B => again_ex _ B s false)).mono ?_
  rintro e w' ⟨⟨k1, t1, na, nl, nc, ka, kl, kc, σF, rfl, r, σ1, h1, h2, h3⟩, hb⟩
  refine ⟨k1, t1, na, nl, nc, ka, kl, kc, _, _, _, rfl, hb, Lib.hid fun h0 => ?_, Lib.hid ⟨r, σ1, h1, by rw [h2]; rfl, h3⟩⟩
  have hz := fin_zero h1 (by rw [h2] at h0; exact h0)
  obtain ⟨rfl, hz1, hz2⟩ := hz
  obtain ⟨nd, c1, c2⟩ := h3 rfl
  exact ⟨nd, σ1, c1, hz1, hz2, c2⟩
theorem bwQ {w a b : World} (h : Below w.heap.size w a) (k : Below a.heap.size a b) : Below w.heap.size w b := Below.trans h (Below.mono k h.size)
theorem parse_like {t : ByteArray} {nd' : Nd} {f : Int} {w' : World} {P : Nat → Prop} {vs : List Value} (h : ∀ r τ nd2, RdN t false false .val ⟨0, 0, false⟩ r τ → (r = true → CnN t false false .val ⟨0, 0, false⟩ τ [] [nd2]) → (FinS t r τ).fault = 0 ∧ r = true ∧ nd2 = nd')
    (k : ∃ r σ, RdN t false false .val ⟨0, 0, false⟩ r σ ∧ f = (FinS t r σ).fault ∧ (r = true → ∃ nd, CnN t false false .val ⟨0, 0, false⟩ σ [] [nd] ∧ NdM w' P nd vs)) : f = 0 ∧ NdM w' P nd' vs := by
  obtain ⟨r, σ, h1, hf, h3⟩ := k
  cases r
  · have := (h false σ nd' h1 (fun e => by cases e)).2.1
    cases this
  · obtain ⟨nd2, c1, c2⟩ := h3 rfl
    obtain ⟨z, -, rfl⟩ := h true σ nd2 h1 (fun _ => c1)
    exact ⟨hf.trans z, c2⟩
set_option maxRecDepth 100000 in
set_option maxHeartbeats 4000000 in
theorem walk_safe (a0 : ByteArray) (w0 : a0.size ≤ maxLen) (w : World) (hS : SnK 6000) :
    Calls Tryz.prog 3 #[.string a0] w fun e w' => e = .returned (.bool true) ∧ Below w.heap.size w w' := by
  have hs0 := w0
  unfold maxLen at hs0
  by_cases hz0 : 2147483647 < (a0.size : Int)
  · go_enter Tryz.func3, Tryz.ntmps3
    go_wp2_with fail
    all_goals go_ret
    exact ⟨rfl, Below.refl _ _⟩
  obtain ⟨r, hr⟩ : ∃ r, Hid (decide (a0.size ≤ 1000) = r) := ⟨_, Lib.hid rfl⟩
  have hp := parse_strict a0 w (by omega)
  cases r
  · clear hs0
    go_enter Tryz.func3, Tryz.ntmps3
    go_upto_region 4 with (go_at_call 5; refine hp.mono ?_; rintro e w1 ⟨k1, t1, na, nl, nc, ka, kl, kc, f, a, o, rfl, hb1, H1, H2⟩)
    have bA := bwY2 (bwY w1 (.cells #[.int .u8 k1, .string t1, .slice na nl nc, .slice ka kl kc] 25)) (bwY _ (.cells #[.int .i64 f, .int .i64 a, .bool o] 27))
    have nA : NodeB ((w1.alloc (.cells #[.int .u8 k1, .string t1, .slice na nl nc, .slice ka kl kc] 25)).alloc (.cells #[.int .i64 f, .int .i64 a, .bool o] 27)) w1.heap.size k1 t1 (.slice na nl nc) (.slice ka kl kc) := NodeB.other (w := w1.alloc (.cells #[.int .u8 k1, .string t1, .slice na nl nc, .slice ka kl kc] 25)) ⟨_, heap_alloc_new w1 _⟩ (Below.heap_alloc _ _ _ (by simp))
    have oA : OutB ((w1.alloc (.cells #[.int .u8 k1, .string t1, .slice na nl nc, .slice ka kl kc] 25)).alloc (.cells #[.int .i64 f, .int .i64 a, .bool o] 27)) (w1.heap.size + 1) f a o := ⟨_, by have := heap_alloc_new (w1.alloc (.cells #[.int .u8 k1, .string t1, .slice na nl nc, .slice ka kl kc] 25)) (.cells #[.int .i64 f, .int .i64 a, .bool o] 27); simpa using this⟩
    revert bA nA oA
    generalize (w1.alloc (.cells #[.int .u8 k1, .string t1, .slice na nl nc, .slice ka kl kc] 25)).alloc (.cells #[.int .i64 f, .int .i64 a, .bool o] 27) = wA
    intro bA nA oA
    have bA' := bwY wA (.cells #[.string a0] 9)
    have nA' := nA.bel bA'
    have oA' := oA.other (bA'.block _ oA.lt)
    obtain ⟨u0, u1, u2, -, -, -⟩ := oA'.cells
    go_wp2_with (go_at_call 6; refine (f8one a0 _ _ false hr (strs1 _ _ _) w0).mono ?_; rintro e w3 ⟨rfl, hw3⟩; obtain rfl := hw3.symm)
    all_goals go_ret
    exact ⟨rfl, bwQ hb1 (bwQ bA bA')⟩
  have hl : a0.size ≤ 1000 := by simpa using hr.out
  go_enter Tryz.func3, Tryz.ntmps3
  go_upto_region 4 with (go_at_call 5; refine hp.mono ?_; rintro e w1 ⟨k1, t1, na, nl, nc, ka, kl, kc, f, a, o, rfl, hb1, H1, H2⟩)
  have bA := bwY2 (bwY w1 (.cells #[.int .u8 k1, .string t1, .slice na nl nc, .slice ka kl kc] 25)) (bwY _ (.cells #[.int .i64 f, .int .i64 a, .bool o] 27))
  have nA : NodeB ((w1.alloc (.cells #[.int .u8 k1, .string t1, .slice na nl nc, .slice ka kl kc] 25)).alloc (.cells #[.int .i64 f, .int .i64 a, .bool o] 27)) w1.heap.size k1 t1 (.slice na nl nc) (.slice ka kl kc) := NodeB.other (w := w1.alloc (.cells #[.int .u8 k1, .string t1, .slice na nl nc, .slice ka kl kc] 25)) ⟨_, heap_alloc_new w1 _⟩ (Below.heap_alloc _ _ _ (by simp))
  have oA : OutB ((w1.alloc (.cells #[.int .u8 k1, .string t1, .slice na nl nc, .slice ka kl kc] 25)).alloc (.cells #[.int .i64 f, .int .i64 a, .bool o] 27)) (w1.heap.size + 1) f a o := ⟨_, by have := heap_alloc_new (w1.alloc (.cells #[.int .u8 k1, .string t1, .slice na nl nc, .slice ka kl kc] 25)) (.cells #[.int .i64 f, .int .i64 a, .bool o] 27); simpa using this⟩
  revert bA nA oA
  generalize (w1.alloc (.cells #[.int .u8 k1, .string t1, .slice na nl nc, .slice ka kl kc] 25)).alloc (.cells #[.int .i64 f, .int .i64 a, .bool o] 27) = wA
  intro bA nA oA
  have bA' := bwY wA (.cells #[.string a0] 9)
  have nA' := nA.bel bA'
  have oA' := oA.other (bA'.block _ oA.lt)
  obtain ⟨u0, u1, u2, -, -, -⟩ := oA'.cells
  by_cases hf0 : f = 0
  case neg =>
    have df : (f != 0) = true := by simpa using hf0
    clear hf0 hs0 hl
    go_wp2_with (go_at_call 6; refine (f8one a0 _ _ true hr (strs1 _ _ _) w0).mono ?_; rintro e w3 ⟨rfl, hw3⟩; obtain rfl := hw3.symm)
    all_goals go_ret
    exact ⟨rfl, bwQ hb1 (bwQ bA bA')⟩
  obtain ⟨nd, σ1, c1, hz1, hz2, hM1⟩ := H1.out hf0
  subst hf0
  obtain ⟨X, hX⟩ : ∃ X, txt (bl (ByteArray.mk #[]) ++ heL (bl a0)) = X := ⟨_, rfl⟩
  have hbX : bl X = heL (bl a0) := by
    rw [← hX, show bl (ByteArray.mk #[]) = [] from rfl, List.nil_append]
    exact bl_txt (heS_by2 _ 0 (bl_by8 a0))
  have hXz : X.size ≤ 6000 := by
    have h1 := heL_len (bl a0) 0
    rw [bl_len] at h1
    rw [← bl_len, hbX]
    unfold heL
    omega
  obtain ⟨⟨nd', hLk, hdet⟩, hval⟩ := along (M := 6000) (by omega) hXz hbX c1 hz1 hz2
  have hesc := fun w' => oldEscape_any (ByteArray.mk #[]) a0 w' (by decide) (by omega) (.inr rfl)
  rw [hX] at hesc
  have hps := fun w' => parse_strict X w' (by omega)
  have hsf := fun w' => safe8_any X (by omega) (safe_esc hbX) w'
  have hov := fun w' => oldValid_any X (by omega) w'
  rw [hval] at hov
  have HM1 := Lib.hid hM1
  have HDT := Lib.hid hdet
  have HLK := Lib.hid hLk
  have HPS := Lib.hid hps
  have HSF := Lib.hid hsf
  have HOV := Lib.hid hov
  have HES := Lib.hid hesc
  clear hs0 hl H1 H2 hp hX hbX hXz hval hM1 hdet hLk hps hsf hov hesc c1 hz1 hz2
  go_upto_region 8 with (first
    | (go_at_call 6; refine (f8one a0 _ _ true hr (strs1 _ _ _) w0).mono ?_; rintro e w3 ⟨rfl, hw3⟩; obtain rfl := hw3.symm)
    | (go_at_call 7; refine (HES.out _).mono ?_; rintro e w4 ⟨rfl, hb4⟩)
    | (go_at_call 5; refine (HPS.out _).mono ?_; rintro e w5 ⟨k2, t2, na2, nl2, nc2, ka2, kl2, kc2, f2, a2, o2, rfl, hb5, -, H5⟩))
  obtain ⟨rfl, hM5⟩ := parse_like HDT.out H5.out
  have bX := bwQ bA (bwQ bA' (bwQ hb4 hb5))
  have c5 := bwY2 (bwY w5 (.cells #[.int .u8 k2, .string t2, .slice na2 nl2 nc2, .slice ka2 kl2 kc2] 25)) (bwY _ (.cells #[.int .i64 0, .int .i64 a2, .bool o2] 27))
  have nB : NodeB ((w5.alloc (.cells #[.int .u8 k2, .string t2, .slice na2 nl2 nc2, .slice ka2 kl2 kc2] 25)).alloc (.cells #[.int .i64 0, .int .i64 a2, .bool o2] 27)) w5.heap.size k2 t2 (.slice na2 nl2 nc2) (.slice ka2 kl2 kc2) := NodeB.other (w := w5.alloc (.cells #[.int .u8 k2, .string t2, .slice na2 nl2 nc2, .slice ka2 kl2 kc2] 25)) ⟨_, heap_alloc_new w5 _⟩ (Below.heap_alloc _ _ _ (by simp))
  have oB : OutB ((w5.alloc (.cells #[.int .u8 k2, .string t2, .slice na2 nl2 nc2, .slice ka2 kl2 kc2] 25)).alloc (.cells #[.int .i64 0, .int .i64 a2, .bool o2] 27)) (w5.heap.size + 1) 0 a2 o2 := ⟨_, by have := heap_alloc_new (w5.alloc (.cells #[.int .u8 k2, .string t2, .slice na2 nl2 nc2, .slice ka2 kl2 kc2] 25)) (.cells #[.int .i64 0, .int .i64 a2, .bool o2] 27); simpa using this⟩
  have nA5 : NodeB ((w5.alloc (.cells #[.int .u8 k2, .string t2, .slice na2 nl2 nc2, .slice ka2 kl2 kc2] 25)).alloc (.cells #[.int .i64 0, .int .i64 a2, .bool o2] 27)) w1.heap.size k1 t1 (.slice na nl nc) (.slice ka kl kc) := ((nA'.bel hb4).bel hb5).bel c5
  clear u0 u1 u2 oA oA' nA nA' H5
  revert c5 nB oB nA5
  generalize (w5.alloc (.cells #[.int .u8 k2, .string t2, .slice na2 nl2 nc2, .slice ka2 kl2 kc2] 25)).alloc (.cells #[.int .i64 0, .int .i64 a2, .bool o2] 27) = wB
  intro c5 nB oB nA5
  have bB : Below w1.heap.size w1 wB := bwQ bX c5
  have HAL : Hid (∀ wx, Below wB.heap.size wB wx → Calls Tryz.prog 9 #[.agg #[.int .u8 k1, .string t1, .slice na nl nc, .slice ka kl kc], .agg #[.int .u8 k2, .string t2, .slice na2 nl2 nc2, .slice ka2 kl2 kc2]] wx fun e w' => e = .returned (.bool true) ∧ Below wx.heap.size wx w') := Lib.hid fun wx hx =>
    have k1x := bwQ bB hx
    have k5x := bwQ c5 hx
    alike_all (M := 6000) (by decide) hS (dpN nd) nd nd' (fun g => w.heap.size ≤ g ∧ g < w1.heap.size) (fun g => w4.heap.size ≤ g ∧ g < w5.heap.size) _ _ _ _ _ _ _ _ _ _ _ _ _ _ _ _ wx (Nat.le_refl _)
      (NdM.keep (w := w1) (fun g hg => ⟨hg, k1x.block g hg.2⟩) _ _ HM1.out) (NdM.keep (w := w5) (fun g hg => ⟨hg, k5x.block g hg.2⟩) _ _ hM5) (fun g hg => Nat.lt_of_lt_of_le hg.2 k1x.size) (fun g hg => Nat.lt_of_lt_of_le hg.2 k5x.size) HLK.out
  have HC : Hid (∀ wx, Below wB.heap.size wB wx → NodeB wx w1.heap.size k1 t1 (.slice na nl nc) (.slice ka kl kc) ∧ NodeB wx w5.heap.size k2 t2 (.slice na2 nl2 nc2) (.slice ka2 kl2 kc2) ∧ OutB wx (w5.heap.size + 1) 0 a2 o2) := Lib.hid fun wx hx => ⟨nA5.bel hx, nB.bel hx, oB.other (hx.block _ oB.lt)⟩
  clear nA5 nB oB hM5 bX c5 HM1 HLK HDT hb4 hb5 bA bA'
  go_wp2_with (first
    | (go_at_call 8; refine (HSF.out _).mono ?_; rintro e w6 ⟨rfl, hb6⟩; obtain ⟨m1, m2, m3⟩ := HC.out w6 hb6; obtain ⟨c0, c1, c2, c3, -, -, -, -⟩ := m1.cells; obtain ⟨e0, e1, e2, e3, -, -, -, -⟩ := m2.cells; obtain ⟨u0, u1, u2, -, -, -⟩ := m3.cells)
    | (go_at_call 9; refine (HAL.out w6 hb6).mono ?_; rintro e w7 ⟨rfl, hb7⟩)
    | (go_at_call 10; refine (HOV.out _).mono ?_; rintro e w8 ⟨rfl, hb8⟩))
  all_goals go_ret
  exact ⟨rfl, bwQ hb1 (bwQ bB (bwQ hb6 (bwQ hb7 hb8)))⟩
end
section
/- (LSf) FnOldSafe: the law, whole. -/
open Go.RowKit

theorem walk_FnOldSafe (a0 : ByteArray) (w0 : a0.size ≤ maxLen) (w : World) :
    Calls Tryz.prog 3 #[.string a0] w fun e w' => e = .returned (.bool true) ∧ Below w.heap.size w w' :=
  walk_safe a0 w0 w fun t w h => same_any t w (by omega)
end
end Go.Proofs.YtjbffgjclnjkoaaGreatDoor
