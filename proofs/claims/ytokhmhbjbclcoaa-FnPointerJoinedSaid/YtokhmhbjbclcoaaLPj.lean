/- Two pointers, one behind the other: the plain mathematics, and the walk of the law. -/
import Derived.Test.YtokhmhbjbclcoaaPk
import Derived.Test.YtokhmhbjbclcoaaUq
import Derived.Test.YtokhmhbjbclcoaaLFnPointerValid
namespace Go.Proofs.Ytokhmhbjbclcoaa
set_option linter.unusedVariables false
set_option linter.unusedSimpArgs false
open Go.RowKit

theorem uw_one (s : ByteArray) (k : Nat) (h : k < s.size) : bAt s k < 128 ↔ uw s k = 1 := by
  unfold uw
  rw [if_pos h]
  have := uLen_cases (bAt s k)
  constructor
  · intro h1; rw [if_pos h1]
  · intro h1
    by_cases h2 : bAt s k < 128
    · exact h2
    · rw [if_neg h2] at h1
      repeat' split at h1
      all_goals omega
def Same (s t : ByteArray) (n n2 d : Nat) : Prop := ∀ i, i < d → bAt t (n2 + i) = bAt s (n + i)
theorem Same.mono {s t : ByteArray} {n n2 d e : Nat} (h : Same s t n n2 d) (he : e ≤ d) : Same s t n n2 e := fun i hi => h i (by omega)
theorem contN_same {s t : ByteArray} : ∀ (m i j : Nat), (∀ a, a < m → bAt t (j + a) = bAt s (i + a)) → contN t j m = contN s i m
  | 0, _, _, _ => rfl
  | m + 1, i, j, h => by
    unfold contN
    have h0 := h 0 (by omega)
    rw [Nat.add_zero, Nat.add_zero] at h0
    rw [h0, contN_same m (i + 1) (j + 1) (fun a ha => by have := h (a + 1) (by omega); rwa [show j + (a + 1) = j + 1 + a by omega, show i + (a + 1) = i + 1 + a by omega] at this)]
theorem uw_same_at {s t : ByteArray} {n n2 : Nat} (hu : uw s n ≠ 0) (h : Same s t n n2 (uw s n)) (hfit : n2 + uw s n ≤ t.size) : uw t n2 = uw s n := by
  have hf := uw_fit s n hu
  have h0 : bAt t n2 = bAt s n := by have := h 0 (by omega); simpa using this
  have hn : n < s.size := by omega
  have hn2 : n2 < t.size := by omega
  by_cases h128 : bAt s n < 128
  · rw [(uw_one s n hn).1 h128, (uw_one t n2 hn2).1 (by rw [h0]; exact h128)]
  · have hw : uw s n = uLen (bAt s n) ∧ uwOk s n (uLen (bAt s n)) (uLo (bAt s n)) (uHi (bAt s n)) = true ∧ uLen (bAt s n) ≠ 0 := by
      unfold uw at hu ⊢
      rw [if_pos hn, if_neg h128] at hu ⊢
      by_cases hz : uLen (bAt s n) = 0
      · rw [if_pos hz] at hu; exact absurd rfl hu
      · rw [if_neg hz] at hu ⊢
        by_cases ho : uwOk s n (uLen (bAt s n)) (uLo (bAt s n)) (uHi (bAt s n)) = true
        · rw [if_pos ho]; exact ⟨rfl, ho, hz⟩
        · rw [if_neg ho] at hu; exact absurd rfl hu
    obtain ⟨w1, w2, w3⟩ := hw
    rw [w1] at h hfit
    have hl2 : 2 ≤ uLen (bAt s n) := by have := uLen_cases (bAt s n); omega
    have ho2 : uwOk t n2 (uLen (bAt s n)) (uLo (bAt s n)) (uHi (bAt s n)) = true := by
      unfold uwOk at w2 ⊢
      have h1 := h 1 (by omega)
      have h2 := contN_same (s := s) (t := t) (uLen (bAt s n) - 2) (n + 2) (n2 + 2) (fun a ha => by have := h (2 + a) (by omega); rwa [← Nat.add_assoc, ← Nat.add_assoc] at this)
      rw [h1, h2]
      simp only [Bool.and_eq_true, decide_eq_true_eq] at w2 ⊢
      exact ⟨⟨⟨hfit, w2.1.1.2⟩, w2.1.2⟩, w2.2⟩
    unfold uw
    rw [if_pos hn2, h0, if_neg h128, if_neg w3, if_pos ho2]
    rw [if_pos hn, if_neg h128, if_neg w3, if_pos w2]
theorem text_mk {t : ByteArray} {j : Nat} (hu : uw t j ≠ 0) (h : textF t (t.size - (j + uw t j)) (j + uw t j) = true) : textF t (t.size - j) j = true := by
  have hf := uw_fit t j hu
  rw [show t.size - j = (t.size - j - 1) + 1 by omega, textF, if_pos (by omega), if_neg hu]
  rw [← h]
  exact textF_fuel t _ _ _ (by omega) (by omega)
theorem text_within {s t : ByteArray} {o : Nat} (ho : o + s.size ≤ t.size) (hb : ∀ i, i < s.size → bAt t (o + i) = bAt s i) (hr : textF t (t.size - (o + s.size)) (o + s.size) = true) :
    ∀ (g k : Nat), s.size - k ≤ g → k ≤ s.size → textF s (s.size - k) k = true → textF t (t.size - (o + k)) (o + k) = true
  | 0, k, hg, hk, _ => by
    have : k = s.size := by omega
    subst this; exact hr
  | g + 1, k, hg, hk, h => by
    by_cases e : k < s.size
    · obtain ⟨hu, hf, h2⟩ := text_at' h e
      have hs : uw t (o + k) = uw s k := uw_same_at hu (fun i hi => by rw [Nat.add_assoc]; exact hb (k + i) (by omega)) (by omega)
      have := text_within ho hb hr g (k + uw s k) (by omega) hf h2
      refine text_mk (by omega) ?_
      rw [hs, Nat.add_assoc]
      exact this
    · have : k = s.size := by omega
      subst this; exact hr
theorem tilde_at (p : ByteArray) : ∀ (n i j : Nat), tildeOk p n i = true → i ≤ j → j < i + n → bAt p j = 126 → j + 1 < p.size ∧ (bAt p (j + 1) = 48 ∨ bAt p (j + 1) = 49)
  | 0, i, j, _, h1, h2, _ => by omega
  | n + 1, i, j, h, h1, h2, h3 => by
    rw [tildeOk] at h
    split at h
    · cases h
    · rename_i hn
      by_cases e : j = i
      · subst e
        exact Classical.byContradiction fun hc => hn ⟨h3, hc⟩
      · exact tilde_at p n (i + 1) j h (by omega) (by omega) h3
theorem tilde_mk (p : ByteArray) : ∀ (n i : Nat), (∀ j, i ≤ j → j < i + n → bAt p j = 126 → j + 1 < p.size ∧ (bAt p (j + 1) = 48 ∨ bAt p (j + 1) = 49)) → tildeOk p n i = true
  | 0, _, _ => rfl
  | n + 1, i, h => by
    rw [tildeOk, if_neg (fun hc => hc.2 (h i (Nat.le_refl _) (by omega) hc.1))]
    exact tilde_mk p n (i + 1) (fun j h1 h2 => h j (by omega) (by omega))
/-- Two pointers one behind the other are a pointer. -/
theorem pv_app {p q : ByteArray} (hp : pvB p = true) (hq : pvB q = true) : pvB (p ++ q) = true ∧ (p.size = 0 ∨ bAt p 0 = 47) ∧ (q.size = 0 ∨ bAt q 0 = 47) := by
  unfold pvB at hp hq
  simp only [Bool.and_eq_true, Bool.or_eq_true, decide_eq_true_eq] at hp hq
  obtain ⟨⟨p1, p2⟩, p3⟩ := hp
  obtain ⟨⟨q1, q2⟩, q3⟩ := hq
  have hz : (p ++ q).size = p.size + q.size := ByteArray.size_append
  refine ⟨?_, p2, q2⟩
  unfold pvB
  simp only [Bool.and_eq_true, Bool.or_eq_true, decide_eq_true_eq]
  refine ⟨⟨?_, ?_⟩, ?_⟩
  · have h1 : textF (p ++ q) ((p ++ q).size - (p.size + q.size)) (p.size + q.size) = true := by
      rw [show (p ++ q).size - (p.size + q.size) = 0 by omega, textF]
      simp [hz]
    have h2 := text_within (s := q) (t := p ++ q) (o := p.size) (by omega) (fun i _ => bAt_app_r i) h1 q.size 0 (by omega) (by omega) q1
    have h3 := text_within (s := p) (t := p ++ q) (o := 0) (by omega) (fun i hi => by rw [Nat.zero_add]; exact bAt_app_l hi) (by rw [Nat.zero_add]; exact h2) p.size 0 (by omega) (by omega) p1
    exact h3
  · by_cases h : p.size = 0
    · rcases q2 with h2 | h2
      · exact .inl (by omega)
      · refine .inr ?_
        have := bAt_app_r (p := p) (q := q) 0
        rw [h] at this
        rw [this]; exact h2
    · refine .inr ?_
      rw [bAt_app_l (by omega)]
      rcases p2 with h2 | h2
      · exact absurd h2 h
      · exact h2
  · refine tilde_mk _ _ _ fun j h1 h2 h3 => ?_
    by_cases hj : j < p.size
    · rw [bAt_app_l hj] at h3
      obtain ⟨a, b⟩ := tilde_at p p.size 0 j p3 (Nat.zero_le _) (by omega) h3
      rw [bAt_app_l a]
      exact ⟨by omega, b⟩
    · obtain ⟨i, rfl⟩ : ∃ i, j = p.size + i := ⟨j - p.size, by omega⟩
      rw [bAt_app_r] at h3
      obtain ⟨a, b⟩ := tilde_at q q.size 0 i q3 (Nat.zero_le _) (by omega) h3
      rw [Nat.add_assoc, bAt_app_r]
      exact ⟨by omega, b⟩
theorem con_app {p q : ByteArray} (hq : q.size = 0 ∨ bAt q 0 = 47) : conB p (p ++ q) = true := by
  have hz : (p ++ q).size = p.size + q.size := ByteArray.size_append
  unfold conB preB
  have e : (p ++ q).extract 0 p.size = p := by
    apply bl_inj
    rw [bl_sub _ _ _ (by omega) (Nat.zero_le _), sub_app_l (Nat.le_refl _), sub_all]
  rw [e]
  have := bAt_app_r (p := p) (q := q) 0
  rw [Nat.add_zero] at this
  rw [this]
  simp only [Bool.and_eq_true, Bool.or_eq_true, decide_eq_true_eq]
  refine ⟨⟨by omega, by simp⟩, ?_⟩
  rcases hq with h | h
  · exact .inl (by omega)
  · exact .inr h
theorem tks_cell {w : World} {B g cap : Nat} {T : List (List Int)} (h : Tks w B (.slice (some ⟨g, 0, none⟩) T.length cap) T) (j : Nat) (hj : j < T.length) : w.cell? ⟨g, j, none⟩ = some (.string (txt T[j])) := by
  have := World.ownsRow.cellAt h j (by omega)
  rw [this]
  unfold tv
  rw [List.getElem?_map, List.getElem?_eq_getElem hj]
  rfl
theorem tks_below {w w' : World} {B : Nat} {v : Value} {T : List (List Int)} (h : Tks w B v T) (hb : Below w.heap.size w w') : Tks w' B v T := by
  refine World.ownsRow.kept h (row := none) ⟨hb.os, hb.tape, hb.output, hb.size, fun k hk _ => hb.block k hk⟩ ?_
  rcases h.2 with ⟨rfl, _⟩ | ⟨g, cap, cur, rfl, _⟩
  · exact .inl rfl
  · exact .inr (by simp [Value.ownBlock])
theorem tks_mono {w : World} {B C : Nat} {v : Value} {T : List (List Int)} (h : Tks w B v T) (hC : C ≤ B) : Tks w C v T := by
  refine ⟨h.1, ?_⟩
  rcases h.2 with h2 | ⟨g, cap, cur, e, hB, r⟩
  · exact .inl h2
  · exact .inr ⟨g, cap, cur, e, by omega, r⟩
theorem tks_news {w : World} {B g cap : Nat} {T : List (List Int)} (h : Tks w B (.slice (some ⟨g, 0, none⟩) T.length cap) T) : ∀ j u, (tv T)[j]? = some u → w.cell? ((⟨g, 0, none⟩ : Addr).add j) = some u := by
  intro j u hu
  have hj : j < T.length := by have := (List.getElem?_eq_some_iff.1 hu).1; rw [tv_len] at this; exact this
  have e : (⟨g, 0, none⟩ : Addr).add j = ⟨g, j, none⟩ := by unfold Addr.add; split <;> simp_all
  rw [e, tks_cell h j hj]
  unfold tv at hu
  rw [List.getElem?_map, List.getElem?_eq_getElem hj] at hu
  exact hu
theorem tv_one {T : List (List Int)} : ∀ u ∈ tv T, u.oneCell' = true := by
  intro u hu
  obtain ⟨t, _, rfl⟩ := List.mem_map.1 hu
  rfl
theorem own_some3 {w : World} {B n : Nat} {v : Value} {xs : List Value} (h : w.ownsRow B 9 1 v n xs) (hne : v ≠ .slice none 0 0) : ∃ g c, v = .slice (some ⟨g, 0, none⟩) n c := by
  rcases h.2 with ⟨rfl, _⟩ | ⟨g, cap, cur, rfl, _⟩
  · exact absurd rfl hne
  · exact ⟨g, cap, rfl⟩
theorem own_of {w : World} {B g c n : Nat} {T : List (List Int)} (hn : T.length = n) (h : Tks w B (.slice (some ⟨g, 0, none⟩) T.length c) T) : w.ownsRow B 9 1 (.slice (some ⟨g, 0, none⟩) n c) n (tv T) := by
  subst hn; exact h
theorem tks_join {w : World} {B g c n0 n1 : Nat} {T0 T1 : List (List Int)} (h0 : T0.length = n0) (h1 : T1.length = n1) (h : w.ownsRow B 9 1 (.slice (some ⟨g, 0, none⟩) (n0 + n1) c) (n0 + n1) (tv T0 ++ tv T1)) : Hid (Tks w B (.slice (some ⟨g, 0, none⟩) (T0 ++ T1).length c) (T0 ++ T1)) := by
  subst h0
  subst h1
  refine Lib.hid ?_
  unfold Tks
  rw [List.length_append, show tv (T0 ++ T1) = tv T0 ++ tv T1 by simp [tv]]
  exact h
set_option maxRecDepth 100000 in
set_option maxHeartbeats 1000000 in
theorem same_any (T : List (List Int)) (B B' g g' c c' n : Nat) (w : World) (h1 : Tks w B (.slice (some ⟨g, 0, none⟩) T.length c) T) (h2 : Tks w B' (.slice (some ⟨g', 0, none⟩) T.length c') T) (hn : n = T.length) (n' : Nat) (hn' : n' = T.length) (hl : T.length ≤ 1000000000) :
    Calls Try.prog 7 #[.slice (some ⟨g, 0, none⟩) n c, .slice (some ⟨g', 0, none⟩) n' c'] w fun e w' => e = .returned (.bool true) ∧ w' = w := by
  obtain rfl : n = n' := by omega
  have HC : Hid (∀ j, j < n → ∃ S : ByteArray, w.cell? ⟨g, j, none⟩ = some (.string S) ∧ w.cell? ⟨g', j, none⟩ = some (.string S)) := Lib.hid (fun j hj => ⟨txt (T[j]'(by omega)), tks_cell h1 j (by omega), tks_cell h2 j (by omega)⟩)
  have hnl : (n : Int) ≤ 1000000000 := by omega
  clear h1 h2 hn hn' hl
  go_enter Try.func7, Try.ntmps7
  go_wp2_with fail
  go_loopg [14] n (fun gg i wr => ∃ j : Nat, i = .int .i64 j ∧ j ≤ n ∧ n - j ≤ gg ∧ wr = w)
  case atStart => exact ⟨0, rfl, Nat.zero_le _, by omega, rfl⟩
  case round =>
    obtain ⟨j, rfl, hj, hgg, rfl⟩ := hrel
    by_cases hlt : j < n
    · obtain ⟨S, c1, c2⟩ := HC.out j hlt
      have hjI : (j : Int) < (n : Int) := by omega
      have hSS : (S.toList == S.toList) = true := beq_self_eq_true _
      have hSN : (S.toList != S.toList) = false := by simp
      go_wp2_with fail
      go_roundg (gk - 1)
      case measure => omega
      case rel => exact ⟨j + 1, by go_num, by omega, by omega, rfl⟩
    · have hjI : (n : Int) ≤ (j : Int) := by omega
      go_wp2_with fail
      all_goals go_ret
      exact ⟨rfl, rfl⟩

set_option maxRecDepth 100000 in
set_option maxHeartbeats 4000000 in
theorem walk_FnPointerJoined (p q : ByteArray) (hp : p.size ≤ maxLen) (hq : q.size ≤ maxLen) (w : World) :
    Calls Try.prog 3 #[.string p, .string q] w fun e w' => e = .returned (.bool true) ∧ Below w.heap.size w w' := by
  obtain ⟨j0, ji, jz0, jz1, jz2⟩ := info_parts Try.infoStr
  by_cases hz : 2147483647 < (p.size : Int)
  · go_enter Try.func3, Try.ntmps3
    go_wp2_with fail
    all_goals go_ret
    exact ⟨rfl, Below.refl _ _⟩
  have z0 : (p.size : Int) ≤ 2147483647 := by omega
  clear hz
  by_cases hz : 2147483647 < (q.size : Int)
  · go_enter Try.func3, Try.ntmps3
    go_wp2_with fail
    all_goals go_ret
    exact ⟨rfl, Below.refl _ _⟩
  have z1 : (q.size : Int) ≤ 2147483647 := by omega
  clear hz
  obtain ⟨r, hr⟩ : ∃ r, Hid (ptrsB [p, q] = r) := ⟨_, Lib.hid rfl⟩
  have h10 : ∀ w' : World, Calls Try.prog 4 #[.slice (some ⟨w'.heap.size, 0, none⟩) 2 2] (w'.alloc (.cells #[.string p, .string q] 9)) fun e w'' => e = .returned (.bool r) ∧ w'' = w'.alloc (.cells #[.string p, .string q] 9) := fun w' => ptrs2 p q _ _ r hr (strs2 _ _ _ _) hp hq
  have hb0 : Below w.heap.size w (w.alloc (.cells #[.string p, .string q] 9)) := (Below.refl _ _).alloc (Nat.le_refl _) _
  cases r
  · go_enter Try.func3, Try.ntmps3
    go_wp2_with (go_at_call 4; refine (h10 _).mono ?_; rintro e wc ⟨rfl, rfl⟩)
    all_goals go_ret
    exact ⟨rfl, hb0⟩
  have hpv : (p.size ≤ 4000 ∧ pvB p = true) ∧ (q.size ≤ 4000 ∧ pvB q = true) := by
    have := hr.out
    simpa [ptrsB] using this
  obtain ⟨⟨s0, v0⟩, s1, v1⟩ := hpv
  obtain ⟨v2, e0, e1⟩ := pv_app v0 v1
  have hzA : (p ++ q).size = p.size + q.size := ByteArray.size_append
  have t0 := fun w' => ptok_any p w' (by omega) e0
  have t1 := fun w' => ptok_any q w' (by omega) e1
  have e2 : (p ++ q).size = 0 ∨ bAt (p ++ q) 0 = 47 := by
    have := v2
    unfold pvB at this
    simp only [Bool.and_eq_true, Bool.or_eq_true, decide_eq_true_eq] at this
    exact this.1.2
  have t2 := fun w' => ptok_any (p ++ q) w' (by omega) e2
  have hiv := fun w' => isValid_any (p ++ q) w' (by unfold maxLen; omega)
  rw [v2] at hiv
  have hcon := fun w' => con_is p (p ++ q) w' true (Lib.hid (con_app e1)) hp (by unfold maxLen; omega)
  have hl0 : (tkl p).length ≤ 4000 := by have := tkP_len p p.size 0 (Nat.zero_le _); unfold tkl; omega
  have hl1 : (tkl q).length ≤ 4000 := by have := tkP_len q q.size 0 (Nat.zero_le _); unfold tkl; omega
  have hta := tkl_app (p := p) e1
  rw [hta] at t2
  generalize tkl p = T0 at t0 t2 hl0
  generalize tkl q = T1 at t1 t2 hl1
  obtain ⟨n0, hn0⟩ : ∃ n, T0.length = n := ⟨_, rfl⟩
  obtain ⟨n1, hn1⟩ : ∃ n, T1.length = n := ⟨_, rfl⟩
  obtain ⟨n2, hn2⟩ : ∃ n, (T0 ++ T1).length = n := ⟨_, rfl⟩
  have u0 : ∀ w' : World, Calls Try.prog 5 #[.string p] w' fun e w'' => ∃ g cap, e = .returned (.slice (some ⟨g, 0, none⟩) n0 cap) ∧ Hid (Tks w'' w'.heap.size (.slice (some ⟨g, 0, none⟩) T0.length cap) T0) ∧ Below w'.heap.size w' w'' := fun w' => (t0 w').mono fun e w'' ⟨g, cap, h, k, b⟩ => ⟨g, cap, by rw [h, hn0], Lib.hid k, b⟩
  have u1 : ∀ w' : World, Calls Try.prog 5 #[.string q] w' fun e w'' => ∃ g cap, e = .returned (.slice (some ⟨g, 0, none⟩) n1 cap) ∧ Hid (Tks w'' w'.heap.size (.slice (some ⟨g, 0, none⟩) T1.length cap) T1) ∧ Below w'.heap.size w' w'' := fun w' => (t1 w').mono fun e w'' ⟨g, cap, h, k, b⟩ => ⟨g, cap, by rw [h, hn1], Lib.hid k, b⟩
  have u2 : ∀ w' : World, Calls Try.prog 5 #[.string (p ++ q)] w' fun e w'' => ∃ g cap, e = .returned (.slice (some ⟨g, 0, none⟩) n2 cap) ∧ Hid (Tks w'' w'.heap.size (.slice (some ⟨g, 0, none⟩) (T0 ++ T1).length cap) (T0 ++ T1)) ∧ Below w'.heap.size w' w'' := fun w' => (t2 w').mono fun e w'' ⟨g, cap, h, k, b⟩ => ⟨g, cap, by rw [h, hn2], Lib.hid k, b⟩
  have H0 := Lib.hid hn0
  have H1 := Lib.hid hn1
  have H2 := Lib.hid (show n2 = n0 + n1 by rw [← hn2, List.length_append, hn0, hn1])
  have m0 : n0 ≤ 4000 := by omega
  have m1 : n1 ≤ 4000 := by omega
  clear t0 t1 t2 hn0 hn1 hn2
  have hz2 : (p.size : Int) + (q.size : Int) ≤ 8000 := by omega
  have s0I : (p.size : Int) ≤ 4000 := by omega
  have hsum : (p.size : Int) + (q.size : Int) ≤ 9223372036854775807 := by omega
  have s1I : (q.size : Int) ≤ 4000 := by omega
  clear v0 v1 v2 e0 e1 e2 hta hr hzA z0 z1
  have bw : ∀ {u v : World}, Below w.heap.size w u → Below u.heap.size u v → Below w.heap.size w v := fun h k => h.trans (k.mono h.size)
  go_enter Try.func3, Try.ntmps3
  go_upto_region 5 with (go_at_call 4; refine (h10 _).mono ?_; rintro e wc ⟨rfl, rfl⟩)
  go_upto_region 6 with (first
    | (go_at_call 5; refine (u0 _).mono ?_; clear u0; rintro e w1 ⟨g0, c0, rfl, k0, b1⟩; have bb1 := bw hb0 b1)
    | (go_at_call 5; refine (u1 _).mono ?_; clear u1; rintro e w2 ⟨g1, c1, rfl, k1, b2⟩; have bb2 := bw bb1 b2; have K0 := own_of H0.out (tks_mono (tks_below k0.out b2) hb0.size); have K1 := tks_news k1.out; have hB2 := bb2.size)
    | (at_builtin; refine wpList_append_own _ rfl (.tmp 20) (.tmp 22) 23 (by rfl) w.heap.size 9 j0 (.string ⟨#[]⟩) 1 16 Try.underlying23 ji jz0 jz1 jz2 rfl (by decide) _ n0 (tv T0) rfl K0 ⟨g1, 0, none⟩ n1 c1 (tv T1) rfl (by rw [tv_len, H1.out]; omega) K1 tv_one (by unfold maxLen; omega) (by omega) hB2 ?_; intro v3 w3 k3 gr3 hnil3; obtain ⟨g3, c3, rfl⟩ := own_some3 k3 (fun h => (by have := (hnil3.1 h).1; cases this)); have bb3 := own_below (Nat.le_refl _) bb2 K0 gr3; have K3 := tks_join H0.out H1.out k3)
    | fail)
  clear h10 hb0 K0 K1 k0 k1 b1 b2 bb1 bb2 gr3 hnil3 k3 hB2 s0 s1 hl0 hl1 hp hq hz2
  go_wp2_with (first
    | (go_at_call 6; refine (hiv _).mono ?_; clear hiv; rintro e w4 ⟨rfl, b4⟩; have bb4 := bw bb3 b4; have K4 := Lib.hid (tks_below K3.out b4))
    | (go_at_call 5; refine (u2 _).mono ?_; clear u2; rintro e w5 ⟨g5, c5, rfl, k5, b5⟩; have bb5 := bw bb4 b5; have hsame := same_any (T0 ++ T1) _ _ g5 g3 c5 c3 n2 w5 k5.out (tks_below K4.out b5) (by rw [H2.out, List.length_append, H0.out, H1.out]) (n0 + n1) (by rw [List.length_append, H0.out, H1.out]) (by rw [List.length_append, H0.out, H1.out]; omega))
    | (go_at_call 7; refine hsame.mono ?_; rintro e w6 ⟨rfl, h6⟩; obtain rfl := h6.symm)
    | (go_at_call 8; refine (hcon _).mono ?_; rintro e w7 ⟨rfl, h7⟩; obtain rfl := h7.symm))
  all_goals go_ret
  exact ⟨rfl, bb5⟩
end Go.Proofs.Ytokhmhbjbclcoaa
