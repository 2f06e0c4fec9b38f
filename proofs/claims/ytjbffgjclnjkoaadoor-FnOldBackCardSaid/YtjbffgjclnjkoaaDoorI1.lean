/- Joined texts: Nl, Ip, Id, In. -/
import Derived.Test.YtjbffgjclnjkoaaDoorAc
import Derived.Test.YtjbffgjclnjkoaaDoorB1
namespace Go.Proofs.YtjbffgjclnjkoaaDoor
set_option linter.unusedVariables false
set_option linter.unusedSimpArgs false
section
/- (Nl) appendNewline: the end of a line, and the indents behind it. -/
open Go.RowKit Go.Shelf

/-- What stands ahead of each line. -/
def nlI (ind : List Int) (d : Int) : List Int := 10 :: (List.replicate d.toNat ind).flatten
theorem nlI_len (ind : List Int) (d : Int) : (nlI ind d).length = 1 + d.toNat * ind.length := by
  unfold nlI
  simp
  omega
theorem rep_snoc (ind : List Int) (k : Nat) : (List.replicate (k + 1) ind).flatten = (List.replicate k ind).flatten ++ ind := by
  rw [List.replicate_succ', List.flatten_append]; simp
theorem rep_len (ind : List Int) (k : Nat) : (List.replicate k ind).flatten.length = k * ind.length := by simp
set_option maxRecDepth 100000 in
set_option maxHeartbeats 4000000 in
theorem nl_any (B : Nat) (v : Value) (l : List Int) (s : ByteArray) (d : Int) (w : World) (hv : Bs w B v l) (hB : B ≤ w.heap.size) (hd : d ≤ 100000) (hi8 : s.size ≤ 10000) (hl : l.length ≤ 100000000000000) :
    Calls Tryd.prog 33 #[v, .string ⟨#[]⟩, .string s, .int .i64 d] w (Gives B v w (l ++ nlI (bl s) d)) := by
  obtain ⟨i0, hi, hz0, hz1, hz2⟩ := info_parts Tryd.infoU8
  have hb8 : (bl s).length ≤ 10000 := by rw [bl_len]; exact hi8
  have hE : bl (⟨#[]⟩ : ByteArray) = [] := rfl
  obtain ⟨D, hD⟩ : ∃ D, d.toNat = D := ⟨_, rfl⟩
  have hD2 : D ≤ 100000 := by omega
  have hT : nlI (bl s) d = 10 :: (List.replicate D (bl s)).flatten := by unfold nlI; rw [hD]
  rw [hT]
  clear hT
  have hln : ∀ k, k ≤ D → (l ++ 10 :: (List.replicate k (bl s)).flatten).length + (bl s).length ≤ 140737488355328 := fun k hk => by
    rw [List.length_append, List.length_cons, rep_len]
    have : k * (bl s).length ≤ 100000 * 10000 := Nat.mul_le_mul (by omega) hb8
    omega
  have hl1 : l.length + 1 ≤ 140737488355328 := by omega
  have hl2 : (l ++ [10]).length + 0 ≤ 140737488355328 := by rw [List.length_append]; simp; omega
  clear hd hi8 hl hb8
  go_enter Tryd.func33, Tryd.ntmps33
  go_wp2_with (first
    | (at_builtin; refine wpList_append_bs _ rfl (.tmp 10) (.tmp 11) 41 41 (by rfl) B i0 Tryd.underlying41 hi hz0 hz1 hz2 _ _ rfl (Bs.alloc hv _) _ [10] rfl (by intro x hx; simp at hx; omega) (src_lit Tryd.underlying41 _ [10] 1 rfl _ _ hz1 _ rfl) (by exact hl1) (by first | assumption | omega | (simp; omega)) ?_; intro v1 w1 hb1 ha1; have hB1 : B ≤ w1.heap.size := (by have := ha1.size; simp at this; omega))
    | (at_builtin; refine wpList_append_bs _ rfl (.tmp 13) (.tmp 14) 41 9 (by rfl) B i0 Tryd.underlying41 hi hz0 hz1 hz2 _ _ rfl hb1 _ (bl ⟨#[]⟩) rfl (bl_by8 _) (src_str Tryd.underlying9 ⟨#[]⟩ _ _ hz1) (by rw [hE]; exact hl2) (by first | assumption | omega | (simp; omega)) ?_; intro v2 w2 hb2 ha2))
  rw [hE, List.append_nil] at hb2
  have hap2 := ((Ap.alloc v w _).trans ha1).trans ha2
  go_loopg [0, 9] D (fun g dv i wr => ∃ (k : Nat) (v' : Value), dv = v' ∧ i = .int .i64 k ∧ k ≤ D ∧ D - k ≤ g ∧ Bs wr B v' (l ++ 10 :: (List.replicate k (bl s)).flatten) ∧ Ap v w v' wr)
  case atStart => exact ⟨0, v2, rfl, rfl, Nat.zero_le _, by omega, hb2, hap2⟩
  case round =>
    clear hb2 hap2 ha1 ha2 hb1 hl1 hl2
    obtain ⟨k, v', rfl, rfl, hk, hg, hb, ha⟩ := hrel
    by_cases hlt : k < D
    · have hkI : (k : Int) < d := by omega
      have hln1 := hln k hk
      have hBr : B ≤ wr.heap.size := Nat.le_trans hB ha.size
      go_wp2_with (first | (at_builtin; refine wpList_append_bs _ rfl (.tmp 21) (.tmp 22) 41 9 (by rfl) B i0 Tryd.underlying41 hi hz0 hz1 hz2 _ _ rfl hb _ (bl s) rfl (bl_by8 _) (src_str Tryd.underlying9 s _ _ hz1) (by exact hln1) (by first | assumption | omega | (simp; omega)) ?_; intro v3 w3 hb3 ha3))
      have hb4 : Bs w3 B v3 (l ++ 10 :: (List.replicate (k + 1) (bl s)).flatten) := by rw [rep_snoc, ← List.cons_append, ← List.append_assoc]; exact hb3
      go_roundg (gk - 1)
      case measure => omega
      case rel => exact ⟨k + 1, v3, rfl, by go_num, by omega, by omega, hb4, ha.trans ha3⟩
    · obtain rfl : k = D := by omega
      have hkI : decide ((k : Int) < d) = false := by simp; omega
      go_wp2_with fail
      all_goals go_ret
      exact ⟨_, rfl, hb, ha⟩
end
section
/- (Ip) Indent: bounds, and what holds at the head of each round. -/
open Go.RowKit Go.Shelf

theorem outI_len {nl : Int → List Int} {M : Nat} (v c : Int) (need : Bool) (d : Int) (hM : ∀ x, x ≤ d + 1 → (nl x).length ≤ M) : (outI nl v c need d).1.length ≤ 2 * M + 2 ∧ (outI nl v c need d).2.2 ≤ d + 1 ∧ d - 1 ≤ (outI nl v c need d).2.2 := by
  have h1 := hM (d + 1) (Int.le_refl _)
  have h2 := hM d (by omega)
  have h3 := hM (d - 1) (by omega)
  have h4 := hM (d + 1 - 1) (by omega)
  unfold outI
  dsimp only
  generalize (need && v != 5 && v != 8) = b
  cases b
  · simp only [Bool.false_eq_true, if_false]
    repeat' split
    all_goals simp only [List.length_append, List.length_cons, List.length_nil]
    all_goals omega
  · simp only [if_true]
    repeat' split
    all_goals simp only [List.length_append, List.length_cons, List.length_nil]
    all_goals first | omega | contradiction
theorem ind_len {nl : Int → List Int} {M : Nat} (N : Int) (hM : ∀ x, x ≤ N → (nl x).length ≤ M) : ∀ (l : List Int) (σ : Sc) (need : Bool) (d : Int), d + l.length ≤ N → (indQ nl σ need d l).length ≤ l.length * (2 * M + 2)
  | [], _, _, _, _ => by simp [indQ]
  | c :: l, σ, need, d, h => by
    have hl : ((c :: l).length : Int) = l.length + 1 := by simp
    have hmul : (c :: l).length * (2 * M + 2) = l.length * (2 * M + 2) + (2 * M + 2) := by rw [List.length_cons, Nat.add_mul, Nat.one_mul]
    by_cases h9 : (stepQ σ c).1 = 9
    · rw [ind_nine h9]
      have := ind_len N hM l (stepQ σ c).2 need d (by omega)
      omega
    · rw [ind_else h9, List.length_append]
      obtain ⟨o1, o2, -⟩ := outI_len (stepQ σ c).1 c need d (fun x hx => hM x (by omega))
      have := ind_len N hM l (stepQ σ c).2 (outI nl (stepQ σ c).1 c need d).2.1 (outI nl (stepQ σ c).1 c need d).2.2 (by omega)
      omega
/-- At the head of each round. -/
structure IRel (B : Nat) (v : Value) (w : World) (s : ByteArray) (nl : Int → List Int) (l0 : List Int) (V : Bool) (T : List Int) (g k : Nat) (σ : Sc) (need : Bool) (d : Int) (sv v' : Value) (l' : List Int) (wr : World) : Prop where
  ks : k ≤ s.size
  bs : Bs wr B v' (l0 ++ l')
  ap : Ap v w v' wr
  len : (l'.length : Int) ≤ (k : Int) * 2000000002
  dl : -(k : Int) ≤ d
  dh : d ≤ k
  fuel : s.size - k ≤ g
  sc : IsS wr w.heap.size w.heap.size σ sv
  inv : Inv σ
  dep : DepQ 9000 σ ((bl s).drop k)
  val : Aside (validQ σ ((bl s).drop k) = V)
  out : Aside (V = true → l' ++ indQ nl σ need d ((bl s).drop k) = T)
/-- Behind a step: white space. -/
theorem IRel.space {B v w s nl l0 V T g k σ need d sv v' l' wr} (q : IRel B v w s nl l0 V T g k σ need d sv v' l' wr) (hk : k < s.size) {σ2 : Sc} (hy : stepQ σ (bAt s k) = (9, σ2)) {sv2 : Value} {w2 : World} (hS : IsS w2 w.heap.size w.heap.size σ2 sv2) (hP : Stp w.heap.size sv wr sv2 w2) :
    g - 1 < g ∧ IRel B v w s nl l0 V T (g - 1) (k + 1) σ2 need d sv2 v' l' w2 := by
  have hf := q.fuel
  have ho := (ok_step q.inv (bAt s k)).inv
  have hd := q.dep
  rw [bdrop hk] at hd
  have hval : validQ σ ((bl s).drop k) = V := q.val
  rw [bdrop hk, validQ_cons, hy, if_neg (by show ¬ (9 : Int) = 11; decide)] at hval
  have hout : V = true → l' ++ indQ nl σ need d ((bl s).drop k) = T := q.out
  have hd2 := hd.2
  rw [hy] at ho hd2
  refine ⟨by omega, ⟨by omega, bs_stp q.bs q.sc hP, ap_stp q.ap q.sc (Nat.le_refl _) hP, by have := q.len; omega, by have := q.dl; omega, by have := q.dh; omega, by omega, hS, ho, hd2, hval, fun hV => ?_⟩⟩
  have := hout hV
  rw [bdrop hk, ind_nine (by rw [hy]), hy] at this
  exact this
/-- Behind a step: what is put. -/
theorem IRel.put {B v w s nl l0 V T g k σ need d sv v' l' wr} (q : IRel B v w s nl l0 V T g k σ need d sv v' l' wr) (hk : k < s.size) (hs : s.size ≤ 9000) (hM : ∀ x, x ≤ 9001 → (nl x).length ≤ 1000000000) {y : Int} {σ2 : Sc} (hy : stepQ σ (bAt s k) = (y, σ2)) (h9 : y ≠ 9) (h11 : y ≠ 11) {sv2 v2 : Value} {w2 w3 : World} (hS : IsS w2 w.heap.size w.heap.size σ2 sv2) (hP : Stp w.heap.size sv wr sv2 w2)
    {O : List Int} {n2 : Bool} {d2 : Int} (hO : outI nl y (bAt s k) need d = (O, n2, d2)) (hb : Bs w3 B v2 (l0 ++ (l' ++ O))) (ha : Ap v' w2 v2 w3) : g - 1 < g ∧ IRel B v w s nl l0 V T (g - 1) (k + 1) σ2 n2 d2 sv2 v2 (l' ++ O) w3 := by
  have hf := q.fuel
  have hdl := q.dl
  have hdh := q.dh
  have hln := q.len
  have ho := (ok_step q.inv (bAt s k)).inv
  have hd := q.dep
  rw [bdrop hk] at hd
  have hval : validQ σ ((bl s).drop k) = V := q.val
  rw [bdrop hk, validQ_cons, hy, if_neg (by show ¬ y = 11; exact h11)] at hval
  have hout : V = true → l' ++ indQ nl σ need d ((bl s).drop k) = T := q.out
  have hd2 := hd.2
  rw [hy] at ho hd2
  have hb2 := bs_stp q.bs q.sc hP
  obtain ⟨o1, o2, o3⟩ := outI_len (nl := nl) (M := 1000000000) y (bAt s k) need d (fun x hx => hM x (by omega))
  rw [hO] at o1 o2 o3
  dsimp only at o1 o2 o3
  refine ⟨by omega, ⟨by omega, hb, (ap_stp q.ap q.sc (Nat.le_refl _) hP).trans ha, by rw [List.length_append]; omega, by omega, by omega, by omega, isS_ap hS hb2 ha, ho, hd2, hval, fun hV => ?_⟩⟩
  have := hout hV
  rw [bdrop hk, ind_else (by rw [hy]; exact h9), hy, hO] at this
  rw [← this, List.append_assoc]
end
section
/- (Id) appendIndent: the walk. Printed by genid.py. -/
open Go.RowKit Go.Shelf

/-- What is put ahead of a byte behind an opening bracket. -/
def preI (nl : Int → List Int) (v : Int) (need : Bool) (d : Int) : List Int × Bool × Int := if (need && v != 5 && v != 8) = true then (nl (d + 1), false, d + 1) else ([], need, d)
theorem out_pre {nl : Int → List Int} {v c : Int} {need : Bool} {d : Int} {P : List Int} {n1 : Bool} {d1 : Int} (h : preI nl v need d = (P, n1, d1)) : outI nl v c need d =
    if v = 0 then (P ++ [c], n1, d1) else if c = 123 ∨ c = 91 then (P ++ [c], true, d1) else if c = 44 then (P ++ [c] ++ nl d1, n1, d1) else if c = 58 then (P ++ [c, 32], n1, d1)
    else if c = 125 ∨ c = 93 then (if n1 then (P ++ [c], false, d1) else (P ++ nl (d1 - 1) ++ [c], n1, d1 - 1)) else (P ++ [c], n1, d1) := by
  unfold preI at h
  unfold outI
  dsimp only
  revert h
  generalize (need && v != 5 && v != 8) = b
  intro h
  cases b
  · simp only [Bool.false_eq_true, if_false] at h ⊢
    injection h with h1 h2
    injection h2 with h2 h3
    subst h1 h2 h3
    rfl
  · simp only [if_true] at h ⊢
    injection h with h1 h2
    injection h2 with h2 h3
    subst h1 h2 h3
    rfl
theorem pre_form {nl : Int → List Int} {v : Int} {need : Bool} {d : Int} {P : List Int} {n1 : Bool} {d1 : Int} (h : preI nl v need d = (P, n1, d1)) (hM : (nl (d + 1)).length ≤ 1000000000) : P.length ≤ 1000000000 ∧ d ≤ d1 ∧ d1 ≤ d + 1 := by
  unfold preI at h
  split at h
  · injection h with h1 h2
    injection h2 with h2 h3
    subst h1 h3
    exact ⟨hM, by omega, by omega⟩
  · injection h with h1 h2
    injection h2 with h2 h3
    subst h1 h3
    exact ⟨by simp, by omega, by omega⟩
set_option maxRecDepth 100000 in
set_option maxHeartbeats 8000000 in
theorem indF (B : Nat) (v : Value) (l : List Int) (s ind : ByteArray) (b cap : Nat) (w : World) (hv : Bs w B v l) (hB : B ≤ w.heap.size) (hs : s.size ≤ 9000) (hi8 : ind.size ≤ 10000) (hl : l.length ≤ 100000000000) (hcap : s.size ≤ cap) (hcm : cap ≤ maxLen)
    (hS : Lib.Bytes w b 0 s) (hbn : v.ownBlock ≠ some b) (hbl : b < w.heap.size) :
    Calls Tryd.prog 23 #[v, .slice (some ⟨b, 0, none⟩) s.size cap, .string ⟨#[]⟩, .string ind] w (CompR B v w l (indQ (nlI (bl ind)) sc0 false 0 (bl s)) (validQ sc0 (bl s))) := by
  obtain ⟨i0, hi, hz0, hz1, hz2⟩ := info_parts Tryd.infoU8
  obtain ⟨T, hT⟩ : ∃ T, indQ (nlI (bl ind)) sc0 false 0 (bl s) = T := ⟨_, rfl⟩
  obtain ⟨V, hV⟩ : ∃ V, validQ sc0 (bl s) = V := ⟨_, rfl⟩
  have hd : DepQ 9000 sc0 (bl s) := dep_len 9000 (bl s) sc0 inv0 (by rw [bl_len]; show 0 + s.size ≤ 9000; omega)
  have hM : ∀ x, x ≤ 9001 → (nlI (bl ind) x).length ≤ 1000000000 := fun x hx => by
    rw [nlI_len, bl_len]
    have : x.toNat * ind.size ≤ 9001 * 10000 := Nat.mul_le_mul (by omega) hi8
    omega
  have hN := fun (v1 : Value) (l1 : List Int) (d1 : Int) (w1 : World) h1 h2 h3 h4 => nl_any B v1 l1 ind d1 w1 h1 h2 h3 hi8 h4
  have hn := new_any w
  have hcapI : (cap : Int) ≤ 9223372036854775807 := by unfold maxLen at hcm; omega
  have hscI : (s.size : Int) ≤ (cap : Int) := by omega
  generalize nlI (bl ind) = nl at hT hM hN ⊢
  have h0 : ∀ w1, IsS w1 w.heap.size w.heap.size sc0 (.slice none 0 0) → Below w.heap.size w w1 → IRel B v w s nl l V T s.size 0 sc0 false 0 (.slice none 0 0) v [] w1 := fun w1 h1 h2 =>
    ⟨Nat.zero_le _, by rw [List.append_nil]; exact hv.below h2, Ap.of_below v h2, by simp, by omega, by omega, by omega, h1, inv0, hd, hV, fun _ => hT⟩
  rw [hT, hV]
  obtain ⟨ao0, cap0, rfl, _, _⟩ := hv.form
  obtain ⟨n0, hn0⟩ : ∃ n0, l.length = n0 := ⟨_, rfl⟩
  have HN := Lib.hid hn0
  rw [hn0] at h0 hbn hl ⊢
  clear hcm hT hV hn0 hv hi8
  have HL := Lib.hid hN
  clear hN
  go_enter_defers Tryd.func23, Tryd.ntmps23
  go_wp2_with (first | (go_at_call 28; refine hn.mono ?_; rintro e w1 ⟨rfl, hS0, _, hb0⟩))
  have h1 := h0 w1 hS0 hb0
  clear h0 hS0 hb0 hn
  have hbw : b < w.heap.size := hbl
  obtain ⟨b1, hb1⟩ : ∃ b1, w.heap.size = b1 := ⟨_, rfl⟩
  rw [hb1] at hB hbl hbw ⊢
  have hB1 : w.heap.size = b1 := hb1
  go_loopg [0, 12, 13, 23] s.size (fun g d nd dp n wr => ∃ (k : Nat) (σ : Sc) (need : Bool) (dd : Int) (sv v' : Value) (l' : List Int), d = v' ∧ nd = .bool need ∧ dp = .int .i64 dd ∧ n = .int .i64 k ∧ IRel B (.slice ao0 n0 cap0) w s nl l V T g k σ need dd sv v' l' wr)
  case atStart => exact ⟨0, sc0, false, 0, _, _, [], rfl, rfl, rfl, rfl, h1⟩
  case round =>
    clear h1 hb1
    have HB1 := Lib.hid hB1
    clear hB1
    obtain ⟨k, σ, need, dd, sv, v', l', rfl, rfl, rfl, rfl, q⟩ := hrel
    obtain ⟨qks, qbs, qap, qlen, qdl, qdh, qf, qsc, qi, qd, qv, qo⟩ := id q
    rw [HB1.out] at qsc
    have hSr := bytes_block hS (qap.block (by rw [HB1.out]; exact hbl) hbn)
    have hsz := qap.size
    rw [HB1.out] at hsz
    have hBr : B ≤ wr.heap.size := Nat.le_trans hB hsz
    have hbnr := qap.ne (by rw [HB1.out]; exact hbl) hbn
    by_cases hk : k < s.size
    case neg =>
      obtain rfl : k = s.size := by omega
      have hdr : (bl s).drop s.size = [] := List.drop_of_length_le (by rw [bl_len]; exact Nat.le_refl _)
      have qv' : validQ σ ((bl s).drop s.size) = V := qv
      have qo' : V = true → l' ++ indQ nl σ need dd ((bl s).drop s.size) = T := qo
      rw [hdr] at qv' qo'
      have qv2 : ((eofQ σ).1 != 11) = V := qv'
      have he := eof_any b1 b1 σ sv wr qsc hsz (by have := qd.here; omega) qi.bs
      have hbad := @eof_bad σ
      obtain ⟨y, hy⟩ : ∃ y, (eofQ σ).1 = y := ⟨_, rfl⟩
      obtain ⟨σ2, hσ⟩ : ∃ σ2, (eofQ σ).2 = σ2 := ⟨_, rfl⟩
      rw [hy, hσ] at he hbad
      rw [hy] at qv2
      by_cases h11 : y = 11
      · subst h11
        have hb2 := hbad rfl
        obtain rfl : V = false := by rw [← qv2]; rfl
        clear hbad hy hσ qv qo qv' qo' qv2 hdr qd q
        rcases qbs.cutn with ⟨rfl, rfl, rfl⟩ | ⟨gb, ob, cp, rfl, hc1, hc2, hcut⟩
        · obtain rfl : n0 = 0 := by rw [← HN.out]; rfl
          go_upto_region 39 with (first
            | (go_at_call 30; refine he.mono ?_; rintro e w3 ⟨v3, rfl, hS3, hP3⟩; obtain ⟨e3, n3, he3, _, _, _, c33, _, _⟩ := hS3.cells; obtain ⟨pe, es, en, rfl, hpe, hce⟩ := he3.2 hb2))
          have q33 : ∀ nq, (w3.drewN nq).cell? ⟨b1, 3, none⟩ = some (.iface 62 (.pointer (some ⟨pe, 0, none⟩))) := fun _ => c33
          clear c33
          go_quiet (fail)
          go_wp2_with fail
          have hS3q : IsS (w3.drewN nq) b1 b1 σ2 v3 := ⟨hS3.hB, hS3.cell, hS3.row⟩
          refine leaves_cons (f := 29) (args := #[.pointer (some ⟨b1, 0, none⟩)]) (by simp) (by simp [go_sem]) ?_
          refine (free_k b1 b1 _ _ _ _ hS3q).mono ?_
          rintro e u' w5 ⟨rfl, rfl, hF⟩
          have HB2 := HB1.out
          subst HB2
          exact ⟨_, results_tmp2 rfl _ _ _, CompR.bad0 qap qsc hS3q ((hP3.trans (Stp.drew _ _ _ nq))) hF hpe hce⟩
        · rw [HN.out] at hc1 hcut
          have hn0I : (0 : Int) ≤ (n0 : Int) := by omega
          have hncI : (n0 : Int) ≤ (cp : Int) := by omega
          have hcpI : (cp : Int) ≤ 9223372036854775807 := by unfold maxLen at hc2; omega
          rw [HN.out] at qap qbs hbnr
          obtain ⟨m, hm⟩ : ∃ m, n0 + l'.length = m := ⟨_, rfl⟩
          rw [hm] at hc1 qap qbs hbnr
          rw [HN.out, hm]
          clear hm hc2
          go_upto_region 39 with (first
            | (go_at_call 30; refine he.mono ?_; rintro e w3 ⟨v3, rfl, hS3, hP3⟩; obtain ⟨e3, n3, he3, _, _, _, c33, _, _⟩ := hS3.cells; obtain ⟨pe, es, en, rfl, hpe, hce⟩ := he3.2 hb2))
          have q33 : ∀ nq, (w3.drewN nq).cell? ⟨b1, 3, none⟩ = some (.iface 62 (.pointer (some ⟨pe, 0, none⟩))) := fun _ => c33
          clear c33
          go_quiet (fail)
          go_wp2_with fail
          have hS3q : IsS (w3.drewN nq) b1 b1 σ2 v3 := ⟨hS3.hB, hS3.cell, hS3.row⟩
          refine leaves_cons (f := 29) (args := #[.pointer (some ⟨b1, 0, none⟩)]) (by simp) (by simp [go_sem]) ?_
          refine (free_k b1 b1 _ _ _ _ hS3q).mono ?_
          rintro e u' w5 ⟨rfl, rfl, hF⟩
          have HN2 := HN.out
          subst HN2
          have HB2 := HB1.out
          subst HB2
          exact ⟨_, results_tmp2 rfl _ _ _, CompR.bad qap rfl hcut qsc hS3q ((hP3.trans (Stp.drew _ _ _ nq))) hF hpe hce⟩
      · have h11' : (y == 11) = false := by simpa using h11
        obtain rfl : V = true := by rw [← qv2]; simp [h11]
        have hT2 : Hid (l' = T) := Lib.hid (by have := qo' rfl; simpa [indQ] using this)
        clear hbad hy hσ qv qo qv' qo' qv2 hdr qd h11 q
        go_wp2_with (first
          | (go_at_call 30; refine he.mono ?_; rintro e w3 ⟨v3, rfl, hS3, hP3⟩))
        have hbs3 := bs_stp qbs qsc hP3
        have hap4 := ap_stp qap qsc (Nat.le_of_eq HB1.out) hP3
        refine leaves_cons (f := 29) (args := #[.pointer (some ⟨b1, 0, none⟩)]) (by simp) (by simp [go_sem]) ?_
        refine (free_k b1 b1 _ _ _ _ hS3).mono ?_
        rintro e u' w5 ⟨rfl, rfl, hF⟩
        exact ⟨_, results_tmp2 rfl _ _ _, CompR.good hap4 (by rw [← hT2.out]; exact hbs3) hS3 hF HB1.out⟩
    obtain ⟨X, hX⟩ : ∃ X, bAt s k = X := ⟨_, rfl⟩
    have hX0 := bAt_nonneg s k
    have hX1 := bAt_le s k
    have c1 := cellC hSr hk X hX
    rw [hX] at hX0 hX1
    have hkI : (k : Int) < (s.size : Int) := by omega
    obtain ⟨e1, n1, _, _, _, _, _, c4, f0⟩ := qsc.cells
    have f4 := f0 4
    clear f0
    have hNN : ∀ m : Int, IsS (wr.setCell ⟨b1, 4, none⟩ (.int .i64 m)) b1 b1 σ sv ∧ Stp b1 sv wr sv (wr.setCell ⟨b1, 4, none⟩ (.int .i64 m)) := fun m => ⟨qsc.setN m, Stp.set _ _ _ _ _⟩
    have hok := ok_step qi X
    have hd2 : DepQ 9000 σ ((bl s).drop k) := qd
    rw [bdrop hk, hX] at hd2
    have hd3 := hd2.2.here
    have hd4 := hd2.here
    obtain ⟨r, hr⟩ : ∃ r, stepQ σ X = r := ⟨_, rfl⟩
    have hst0 := fun w2 h1 h2 => step_any b1 b1 σ sv X w2 h1 h2 (by omega) qi.bs
    rw [hr] at hst0 hok hd3
    have hrX : stepQ σ (bAt s k) = r := by rw [hX]; exact hr
    obtain ⟨y, σ2⟩ := r
    obtain ⟨o1, o2, o3⟩ := hok
    dsimp only at hst0 o1 o2 o3 hd3
    have HX := Lib.hid hX
    clear qv qo qd hd2 hr hX o3
    go_upto_region 10 with fail
    obtain ⟨qsc2, hP1⟩ := hNN (wrap64 (n1 + 1))
    clear hNN f4 c4 c1
    generalize wr.setCell ⟨b1, 4, none⟩ (.int .i64 (wrap64 (n1 + 1))) = wb at qsc2 hP1 ⊢
    have hszb : b1 ≤ wb.heap.size := Nat.le_trans hsz hP1.size
    have hst := hst0 wb qsc2 hszb
    obtain ⟨e2, n2, _, c20, _, _, _, _, f20⟩ := qsc2.cells
    unfold fv at c20
    clear f20 hst0
    have qbs2 := bs_stp qbs qsc hP1
    by_cases h11 : y = 11
    · subst h11
      have hb2 := o2 rfl
      have hv0 : validQ σ ((bl s).drop k) = V := q.val
      rw [bdrop hk, validQ_cons, hrX, if_pos rfl] at hv0
      subst hv0
      have heq : eofQ σ2 = (11, σ2) := by unfold eofQ; rw [hb2]; rfl
      have heb : ∀ (w2 : World) (v2 : Value), IsS w2 b1 b1 σ2 v2 → b1 ≤ w2.heap.size → Calls Tryd.prog 30 #[.pointer (some ⟨b1, 0, none⟩)] w2 fun e w' => ∃ v', e = .returned (.int .i64 11) ∧ IsS w' b1 b1 σ2 v' ∧ Stp b1 v2 w2 v' w' := fun w2 v2 h1 h2 => by
        have := eof_any b1 b1 σ2 v2 w2 h1 h2 (by omega) o1.bs
        rwa [heq] at this
      have HEB := Lib.hid heb
      clear q heq o2 hrX heb HX
      go_wp2_with (first | (refine hst.mono ?_; rintro e w2 ⟨v2, rfl, hS2, hP2⟩; refine Hid.out ?_))
      refine Lib.hid ?_
      have he := HEB.out _ _ hS2 (Nat.le_trans hszb hP2.size)
      have hP := hP1.trans hP2
      clear hst HEB c20
      rcases qbs.cutn with ⟨rfl, rfl, rfl⟩ | ⟨gb, ob, cp, rfl, hc1, hc2, hcut⟩
      · obtain rfl : n0 = 0 := by rw [← HN.out]; rfl
        go_upto_region 39 with (first
          | (go_at_call 30; refine he.mono ?_; rintro e w3 ⟨v3, rfl, hS3, hP3⟩; obtain ⟨e3, n3, he3, _, _, _, c33, _, _⟩ := hS3.cells; obtain ⟨pe, es, en, rfl, hpe, hce⟩ := he3.2 hb2))
        have q33 : ∀ nq, (w3.drewN nq).cell? ⟨b1, 3, none⟩ = some (.iface 62 (.pointer (some ⟨pe, 0, none⟩))) := fun _ => c33
        clear c33
        go_quiet (fail)
        go_wp2_with fail
        have hS3q : IsS (w3.drewN nq) b1 b1 σ2 v3 := ⟨hS3.hB, hS3.cell, hS3.row⟩
        refine leaves_cons (f := 29) (args := #[.pointer (some ⟨b1, 0, none⟩)]) (by simp) (by simp [go_sem]) ?_
        refine (free_k b1 b1 _ _ _ _ hS3q).mono ?_
        rintro e u' w5 ⟨rfl, rfl, hF⟩
        have HB2 := HB1.out
        subst HB2
        exact ⟨_, results_tmp2 rfl _ _ _, CompR.bad0 qap qsc hS3q (hP.trans (hP3.trans (Stp.drew _ _ _ nq))) hF hpe hce⟩
      · rw [HN.out] at hc1 hcut
        have hn0I : (0 : Int) ≤ (n0 : Int) := by omega
        have hncI : (n0 : Int) ≤ (cp : Int) := by omega
        have hcpI : (cp : Int) ≤ 9223372036854775807 := by unfold maxLen at hc2; omega
        rw [HN.out] at qap qbs hbnr
        obtain ⟨m, hm⟩ : ∃ m, n0 + l'.length = m := ⟨_, rfl⟩
        rw [hm] at hc1 qap qbs hbnr
        rw [HN.out, hm]
        clear hm hc2
        go_upto_region 39 with (first
          | (go_at_call 30; refine he.mono ?_; rintro e w3 ⟨v3, rfl, hS3, hP3⟩; obtain ⟨e3, n3, he3, _, _, _, c33, _, _⟩ := hS3.cells; obtain ⟨pe, es, en, rfl, hpe, hce⟩ := he3.2 hb2))
        have q33 : ∀ nq, (w3.drewN nq).cell? ⟨b1, 3, none⟩ = some (.iface 62 (.pointer (some ⟨pe, 0, none⟩))) := fun _ => c33
        clear c33
        go_quiet (fail)
        go_wp2_with fail
        have hS3q : IsS (w3.drewN nq) b1 b1 σ2 v3 := ⟨hS3.hB, hS3.cell, hS3.row⟩
        refine leaves_cons (f := 29) (args := #[.pointer (some ⟨b1, 0, none⟩)]) (by simp) (by simp [go_sem]) ?_
        refine (free_k b1 b1 _ _ _ _ hS3q).mono ?_
        rintro e u' w5 ⟨rfl, rfl, hF⟩
        have HN2 := HN.out
        subst HN2
        have HB2 := HB1.out
        subst HB2
        exact ⟨_, results_tmp2 rfl _ _ _, CompR.bad qap rfl hcut qsc hS3q (hP.trans (hP3.trans (Stp.drew _ _ _ nq))) hF hpe hce⟩
    have h11d : (y == 11) = false := by simpa using h11
    by_cases h9 : y = 9
    · subst h9
      go_wp2_with (first | (refine hst.mono ?_; rintro e w2 ⟨v2, rfl, hS2, hP2⟩))
      have hP := hP1.trans hP2
      rw [← HB1.out] at hS2 hP
      have Q := q.space hk hrX hS2 hP
      go_roundg (gk - 1)
      case measure => exact Q.1
      case rel => exact ⟨k + 1, σ2, need, dd, _, _, l', rfl, rfl, rfl, by go_num, Q.2⟩
    have h9d : (y == 9) = false := by simpa using h9
    go_wp2_with (first | (refine hst.mono ?_; rintro e w2 ⟨v2, rfl, hS2, hP2⟩; refine Hid.out ?_))
    refine Lib.hid ?_
    have hP := hP1.trans hP2
    have hbs2 := bs_stp qbs2 qsc2 hP2
    have hB2 : B ≤ w2.heap.size := Nat.le_trans hBr hP.size
    clear hst c20 hP1 hP2 qsc2 qbs2 hszb hbnr hSr qbs qap qsc
    rw [← HB1.out] at hS2 hP
    have hlen1 : (l ++ l').length ≤ 50000000000000 := by rw [List.length_append, HN.out]; omega
    have Hq := Lib.hid q
    have Hh9 := Lib.hid h9
    have Hh11 := Lib.hid h11
    have hdl : -9000 ≤ dd := by omega
    have hdh : dd ≤ 9000 := by omega
    clear q h9 h11 qlen qf qi qdl qdh o1 o2 hd3 hd4
    go_upto_region 13 with fail
    go_cut [53] from 24 to 111 (fun v wx => v = .bool (need && y != 5 && y != 8) ∧ wx = w2)
    case first =>
      cases need
      · go_wp2_with fail
        go_meet
        exact ⟨rfl, rfl⟩
      · by_cases h5 : y = 5
        · subst h5
          go_wp2_with fail
          go_meet
          exact ⟨rfl, rfl⟩
        have d5 : (y == 5) = false := by simpa using h5
        have e5 : (y != 5) = true := by simpa using h5
        clear h5
        by_cases h8 : y = 8
        · subst h8
          go_wp2_with fail
          go_meet
          exact ⟨rfl, rfl⟩
        have d8 : (y == 8) = false := by simpa using h8
        have e8 : (y != 8) = true := by simpa using h8
        clear h8
        go_wp2_with fail
        go_meet
        exact ⟨by rw [e5, e8]; rfl, rfl⟩
    case rest =>
    obtain ⟨rfl, hw2⟩ := hcut
    obtain rfl := hw2.symm
    obtain ⟨bb, hbb⟩ : ∃ bb, (need && y != 5 && y != 8) = bb := ⟨_, rfl⟩
    have Hbb := Lib.hid hbb
    rw [hbb]
    clear hbb
    go_upto_if 53 with fail
    go_cut [0, 12, 13] from 24 to 111 (fun d nd dp wx => ∃ (v3 : Value) (n1 : Bool) (d1 : Int) (PR : List Int), d = v3 ∧ nd = .bool n1 ∧ dp = .int .i64 d1 ∧ preI nl y need dd = (PR, n1, d1) ∧ Bs wx B v3 (l ++ (l' ++ PR)) ∧ Ap u0 w2 v3 wx)
    case first =>
      cases bb
      · go_wp2_with fail
        go_meet
        exact ⟨_, need, dd, [], rfl, rfl, rfl, by unfold preI; rw [Hbb.out]; rfl, by rw [List.append_nil]; exact hbs2, Ap.refl _ _⟩
      · have hcl := HL.out u0 (l ++ l') (dd + 1) w2 hbs2 hB2 (by omega) (by omega)
        go_wp2_with (first | (go_at_call 33; refine hcl.mono ?_; rintro e w3 ⟨v3, rfl, hb3, ha3⟩))
        go_meet
        exact ⟨v3, false, dd + 1, _, rfl, rfl, rfl, by unfold preI; rw [Hbb.out]; rfl, by rw [← List.append_assoc]; exact hb3, ha3⟩
    case rest =>
    obtain ⟨v3, n1, d1, PR, rfl, rfl, rfl, hPR, hb3, ha3⟩ := hcut
    have hsz3 := ha3.size
    have hB3 : B ≤ wc.heap.size := Nat.le_trans hB2 hsz3
    have hpf := pre_form hPR (hM _ (by omega))
    obtain ⟨hp1, hp2, hp3⟩ := hpf
    have hln : (l ++ (l' ++ PR)).length + 2 ≤ 90000000000000 := by rw [← List.append_assoc, List.length_append]; omega
    have hln1 : (l ++ (l' ++ PR)).length + 1 ≤ 140737488355328 := by omega
    have hln2 : (l ++ (l' ++ PR)).length + 2 ≤ 140737488355328 := by omega
    have hd1l : -9000 ≤ d1 := by omega
    have hd1h : d1 ≤ 9001 := by omega
    have hO0 := out_pre (c := X) hPR
    have HO := Lib.hid hO0
    clear hO0 hPR hdl hdh hp1 hp2 hp3 hsz3
    by_cases hy0 : y = 0
    · subst hy0
      have HOO := Lib.hid (HO.out.trans (if_pos rfl))
      go_wp2_with (first | (at_builtin; refine wpList_append_bs _ rfl (.tmp 63) (.tmp 65) 41 41 (by rfl) B i0 Tryd.underlying41 hi hz0 hz1 hz2 _ _ rfl (Bs.alloc hb3 _) _ [X] rfl (by intro x hx; simp at hx; omega) (src_lit Tryd.underlying41 _ [X] 1 rfl _ _ hz1 _ rfl) (by exact hln1) (by first | assumption | omega | (simp; omega)) ?_; intro v4 w4 hb4 ha4))
      have Q := Hq.out.put hk hs hM hrX Hh9.out Hh11.out hS2 hP ((congrArg (fun c => outI nl _ c need dd) HX.out).trans HOO.out) (by simp only [List.append_assoc] at hb4 ⊢; exact hb4) (ha3.trans ((Ap.alloc _ _ _).trans ha4))
      go_roundg (gk - 1)
      case measure => exact Q.1
      case rel => exact ⟨k + 1, σ2, _, _, _, _, _, rfl, rfl, rfl, by go_num, Q.2⟩
    have hy0d : (y == 0) = false := by simpa using hy0
    have HO1 := Lib.hid (HO.out.trans (if_neg hy0))
    clear HO hy0
    by_cases h123 : X = 123
    · subst h123
      have HOO := Lib.hid (HO1.out.trans (if_pos (.inl rfl)))
      go_wp2_with (first | (at_builtin; refine wpList_append_bs _ rfl (.tmp 75) (.tmp 77) 41 41 (by rfl) B i0 Tryd.underlying41 hi hz0 hz1 hz2 _ _ rfl (Bs.alloc hb3 _) _ [123] rfl (by intro x hx; simp at hx; omega) (src_lit Tryd.underlying41 _ [123] 1 rfl _ _ hz1 _ rfl) (by exact hln1) (by first | assumption | omega | (simp; omega)) ?_; intro v4 w4 hb4 ha4))
      have Q := Hq.out.put hk hs hM hrX Hh9.out Hh11.out hS2 hP ((congrArg (fun c => outI nl _ c need dd) HX.out).trans HOO.out) (by simp only [List.append_assoc] at hb4 ⊢; exact hb4) (ha3.trans ((Ap.alloc _ _ _).trans ha4))
      go_roundg (gk - 1)
      case measure => exact Q.1
      case rel => exact ⟨k + 1, σ2, _, _, _, _, _, rfl, rfl, rfl, by go_num, Q.2⟩
    by_cases h91 : X = 91
    · subst h91
      have HOO := Lib.hid (HO1.out.trans (if_pos (.inr rfl)))
      go_wp2_with (first | (at_builtin; refine wpList_append_bs _ rfl (.tmp 75) (.tmp 77) 41 41 (by rfl) B i0 Tryd.underlying41 hi hz0 hz1 hz2 _ _ rfl (Bs.alloc hb3 _) _ [91] rfl (by intro x hx; simp at hx; omega) (src_lit Tryd.underlying41 _ [91] 1 rfl _ _ hz1 _ rfl) (by exact hln1) (by first | assumption | omega | (simp; omega)) ?_; intro v4 w4 hb4 ha4))
      have Q := Hq.out.put hk hs hM hrX Hh9.out Hh11.out hS2 hP ((congrArg (fun c => outI nl _ c need dd) HX.out).trans HOO.out) (by simp only [List.append_assoc] at hb4 ⊢; exact hb4) (ha3.trans ((Ap.alloc _ _ _).trans ha4))
      go_roundg (gk - 1)
      case measure => exact Q.1
      case rel => exact ⟨k + 1, σ2, _, _, _, _, _, rfl, rfl, rfl, by go_num, Q.2⟩
    have d123 : (X == 123) = false := by simpa using h123
    have d91 : (X == 91) = false := by simpa using h91
    have HO2 := Lib.hid (HO1.out.trans (if_neg (by simp [h123, h91])))
    clear HO1 h123 h91
    by_cases h44 : X = 44
    · subst h44
      have HOO := Lib.hid (HO2.out.trans (if_pos rfl))
      have HC := Lib.hid (fun (v4 : Value) (w4 : World) (hb : Bs w4 B v4 (l ++ (l' ++ PR) ++ [44])) (hB4 : B ≤ w4.heap.size) => HL.out v4 _ d1 w4 hb hB4 (by omega) (by simp only [List.length_append, List.length_cons, List.length_nil] at hln ⊢; omega))
      go_wp2_with (first | (at_builtin; refine wpList_append_bs _ rfl (.tmp 81) (.tmp 83) 41 41 (by rfl) B i0 Tryd.underlying41 hi hz0 hz1 hz2 _ _ rfl (Bs.alloc hb3 _) _ [44] rfl (by intro x hx; simp at hx; omega) (src_lit Tryd.underlying41 _ [44] 1 rfl _ _ hz1 _ rfl) (by exact hln1) (by first | assumption | omega | (simp; omega)) ?_; intro v4 w4 hb4 ha4; have hB4 : B ≤ w4.heap.size := (by have := ha4.size; simp at this; omega)) | (go_at_call 33; refine (HC.out _ _ hb4 hB4).mono ?_; rintro e w5 ⟨v5, rfl, hb5, ha5⟩))
      have Q := Hq.out.put hk hs hM hrX Hh9.out Hh11.out hS2 hP ((congrArg (fun c => outI nl _ c need dd) HX.out).trans HOO.out) (by simp only [List.append_assoc] at hb5 ⊢; exact hb5) (ha3.trans (((Ap.alloc _ _ _).trans ha4).trans ha5))
      go_roundg (gk - 1)
      case measure => exact Q.1
      case rel => exact ⟨k + 1, σ2, _, _, _, _, _, rfl, rfl, rfl, by go_num, Q.2⟩
    have d44 : (X == 44) = false := by simpa using h44
    have HO3 := Lib.hid (HO2.out.trans (if_neg h44))
    clear HO2 h44
    by_cases h58 : X = 58
    · subst h58
      have HOO := Lib.hid (HO3.out.trans (if_pos rfl))
      go_wp2_with (first | (at_builtin; refine wpList_append_bs _ rfl (.tmp 92) (.tmp 94) 41 41 (by rfl) B i0 Tryd.underlying41 hi hz0 hz1 hz2 _ _ rfl (Bs.alloc hb3 _) _ [58, 32] rfl (by intro x hx; simp at hx; omega) (src_lit Tryd.underlying41 _ [58, 32] 2 rfl _ _ hz1 _ rfl) (by exact hln2) (by first | assumption | omega | (simp; omega)) ?_; intro v4 w4 hb4 ha4))
      have Q := Hq.out.put hk hs hM hrX Hh9.out Hh11.out hS2 hP ((congrArg (fun c => outI nl _ c need dd) HX.out).trans HOO.out) (by simp only [List.append_assoc] at hb4 ⊢; exact hb4) (ha3.trans ((Ap.alloc _ _ _).trans ha4))
      go_roundg (gk - 1)
      case measure => exact Q.1
      case rel => exact ⟨k + 1, σ2, _, _, _, _, _, rfl, rfl, rfl, by go_num, Q.2⟩
    have d58 : (X == 58) = false := by simpa using h58
    have HO4 := Lib.hid (HO3.out.trans (if_neg h58))
    clear HO3 h58
    by_cases h125 : X = 125
    · subst h125
      have HO5 := Lib.hid (HO4.out.trans (if_pos (.inl rfl)))
      clear HO4
      cases n1
      · have HOO := Lib.hid (HO5.out.trans (if_neg (by decide)))
        have hcl := HL.out _ (l ++ (l' ++ PR)) (d1 - 1) wc hb3 hB3 (by omega) (by omega)
        have hnl : (nl (d1 - 1)).length ≤ 1000000000 := hM _ (by omega)
        have hln4 : ((l ++ (l' ++ PR)) ++ nl (d1 - 1)).length + 1 ≤ 140737488355328 := by rw [List.length_append]; omega
        clear hnl
        go_wp2_with (first | (go_at_call 33; refine hcl.mono ?_; rintro e w5 ⟨v5, rfl, hb5, ha5⟩; have hB5 : B ≤ w5.heap.size := Nat.le_trans hB3 ha5.size) | (at_builtin; refine wpList_append_bs _ rfl (.tmp 107) (.tmp 109) 41 41 (by rfl) B i0 Tryd.underlying41 hi hz0 hz1 hz2 _ _ rfl (Bs.alloc hb5 _) _ [125] rfl (by intro x hx; simp at hx; omega) (src_lit Tryd.underlying41 _ [125] 1 rfl _ _ hz1 _ rfl) (by exact hln4) (by first | assumption | omega | (simp; omega)) ?_; intro v4 w4 hb4 ha4))
        have Q := Hq.out.put hk hs hM hrX Hh9.out Hh11.out hS2 hP ((congrArg (fun c => outI nl _ c need dd) HX.out).trans HOO.out) (by simp only [List.append_assoc] at hb4 ⊢; exact hb4) (ha3.trans (ha5.trans ((Ap.alloc _ _ _).trans ha4)))
        go_roundg (gk - 1)
        case measure => exact Q.1
        case rel => exact ⟨k + 1, σ2, _, _, _, _, _, rfl, rfl, rfl, by go_num, Q.2⟩
      · have HOO := Lib.hid (HO5.out.trans (if_pos rfl))
        go_wp2_with (first | (at_builtin; refine wpList_append_bs _ rfl (.tmp 107) (.tmp 109) 41 41 (by rfl) B i0 Tryd.underlying41 hi hz0 hz1 hz2 _ _ rfl (Bs.alloc hb3 _) _ [125] rfl (by intro x hx; simp at hx; omega) (src_lit Tryd.underlying41 _ [125] 1 rfl _ _ hz1 _ rfl) (by exact hln1) (by first | assumption | omega | (simp; omega)) ?_; intro v4 w4 hb4 ha4))
        have Q := Hq.out.put hk hs hM hrX Hh9.out Hh11.out hS2 hP ((congrArg (fun c => outI nl _ c need dd) HX.out).trans HOO.out) (by simp only [List.append_assoc] at hb4 ⊢; exact hb4) (ha3.trans ((Ap.alloc _ _ _).trans ha4))
        go_roundg (gk - 1)
        case measure => exact Q.1
        case rel => exact ⟨k + 1, σ2, _, _, _, _, _, rfl, rfl, rfl, by go_num, Q.2⟩
    by_cases h93 : X = 93
    · subst h93
      have HO5 := Lib.hid (HO4.out.trans (if_pos (.inr rfl)))
      clear HO4
      cases n1
      · have HOO := Lib.hid (HO5.out.trans (if_neg (by decide)))
        have hcl := HL.out _ (l ++ (l' ++ PR)) (d1 - 1) wc hb3 hB3 (by omega) (by omega)
        have hnl : (nl (d1 - 1)).length ≤ 1000000000 := hM _ (by omega)
        have hln4 : ((l ++ (l' ++ PR)) ++ nl (d1 - 1)).length + 1 ≤ 140737488355328 := by rw [List.length_append]; omega
        clear hnl
        go_wp2_with (first | (go_at_call 33; refine hcl.mono ?_; rintro e w5 ⟨v5, rfl, hb5, ha5⟩; have hB5 : B ≤ w5.heap.size := Nat.le_trans hB3 ha5.size) | (at_builtin; refine wpList_append_bs _ rfl (.tmp 107) (.tmp 109) 41 41 (by rfl) B i0 Tryd.underlying41 hi hz0 hz1 hz2 _ _ rfl (Bs.alloc hb5 _) _ [93] rfl (by intro x hx; simp at hx; omega) (src_lit Tryd.underlying41 _ [93] 1 rfl _ _ hz1 _ rfl) (by exact hln4) (by first | assumption | omega | (simp; omega)) ?_; intro v4 w4 hb4 ha4))
        have Q := Hq.out.put hk hs hM hrX Hh9.out Hh11.out hS2 hP ((congrArg (fun c => outI nl _ c need dd) HX.out).trans HOO.out) (by simp only [List.append_assoc] at hb4 ⊢; exact hb4) (ha3.trans (ha5.trans ((Ap.alloc _ _ _).trans ha4)))
        go_roundg (gk - 1)
        case measure => exact Q.1
        case rel => exact ⟨k + 1, σ2, _, _, _, _, _, rfl, rfl, rfl, by go_num, Q.2⟩
      · have HOO := Lib.hid (HO5.out.trans (if_pos rfl))
        go_wp2_with (first | (at_builtin; refine wpList_append_bs _ rfl (.tmp 107) (.tmp 109) 41 41 (by rfl) B i0 Tryd.underlying41 hi hz0 hz1 hz2 _ _ rfl (Bs.alloc hb3 _) _ [93] rfl (by intro x hx; simp at hx; omega) (src_lit Tryd.underlying41 _ [93] 1 rfl _ _ hz1 _ rfl) (by exact hln1) (by first | assumption | omega | (simp; omega)) ?_; intro v4 w4 hb4 ha4))
        have Q := Hq.out.put hk hs hM hrX Hh9.out Hh11.out hS2 hP ((congrArg (fun c => outI nl _ c need dd) HX.out).trans HOO.out) (by simp only [List.append_assoc] at hb4 ⊢; exact hb4) (ha3.trans ((Ap.alloc _ _ _).trans ha4))
        go_roundg (gk - 1)
        case measure => exact Q.1
        case rel => exact ⟨k + 1, σ2, _, _, _, _, _, rfl, rfl, rfl, by go_num, Q.2⟩
    have d125 : (X == 125) = false := by simpa using h125
    have d93 : (X == 93) = false := by simpa using h93
    have HOO := Lib.hid (HO4.out.trans (if_neg (by simp [h125, h93])))
    clear HO4 h125 h93
    go_wp2_with (first | (at_builtin; refine wpList_append_bs _ rfl (.tmp 68) (.tmp 70) 41 41 (by rfl) B i0 Tryd.underlying41 hi hz0 hz1 hz2 _ _ rfl (Bs.alloc hb3 _) _ [X] rfl (by intro x hx; simp at hx; omega) (src_lit Tryd.underlying41 _ [X] 1 rfl _ _ hz1 _ rfl) (by exact hln1) (by first | assumption | omega | (simp; omega)) ?_; intro v4 w4 hb4 ha4))
    have Q := Hq.out.put hk hs hM hrX Hh9.out Hh11.out hS2 hP ((congrArg (fun c => outI nl _ c need dd) HX.out).trans HOO.out) (by simp only [List.append_assoc] at hb4 ⊢; exact hb4) (ha3.trans ((Ap.alloc _ _ _).trans ha4))
    go_roundg (gk - 1)
    case measure => exact Q.1
    case rel => exact ⟨k + 1, σ2, _, _, _, _, _, rfl, rfl, rfl, by go_num, Q.2⟩
end
section
/- (In) jsonscan.Indent: what it leaves in the buffer. -/
open Go.RowKit Go.Shelf

theorem nlI_le {ind : ByteArray} (hi8 : ind.size ≤ 10000) (x : Int) (hx : x ≤ 9001) : (nlI (bl ind) x).length ≤ 100000000 := by
  rw [nlI_len, bl_len]
  have : x.toNat * ind.size ≤ 9001 * 10000 := Nat.mul_le_mul (by omega) hi8
  omega
theorem indI_le {s ind : ByteArray} (hs : s.size ≤ 9000) (hi8 : ind.size ≤ 10000) : (indQ (nlI (bl ind)) sc0 false 0 (bl s)).length ≤ 2000000000000 := by
  have h := ind_len (nl := nlI (bl ind)) (M := 100000000) 9001 (fun x hx => nlI_le hi8 x hx) (bl s) sc0 false 0 (by rw [bl_len]; omega)
  have : (bl s).length * (2 * 100000000 + 2) ≤ 9000 * (2 * 100000000 + 2) := Nat.mul_le_mul (by rw [bl_len]; exact hs) (Nat.le_refl _)
  omega
set_option maxRecDepth 100000 in
set_option maxHeartbeats 4000000 in
theorem indent_any (b B g o m cap : Nat) (l : List Int) (s ind : ByteArray) (sb scap : Nat) (w : World) (h : BufS w b B (.slice (some ⟨g, o, none⟩) m cap) l) (hB : B ≤ w.heap.size) (hs0 : 0 < s.size ∨ m = 0) (hs : s.size ≤ 9000) (hi8 : ind.size ≤ 10000) (hm : m ≤ 1000000000000) (hcap : s.size ≤ scap) (hcm : scap ≤ maxLen)
    (hS : Lib.Bytes w sb 0 s) (hsb : sb ≠ b) (hsg : sb ≠ g) (hbl : sb < w.heap.size) :
    Calls Tryd.prog 16 #[.pointer (some ⟨b, 0, none⟩), .slice (some ⟨sb, 0, none⟩) s.size scap, .string ⟨#[]⟩, .string ind] w fun e w' => ∃ u, e = .returned u ∧ CompO b B m l (indQ (nlI (bl ind)) sc0 false 0 (bl s)) (validQ sc0 (bl s)) (.slice (some ⟨g, o, none⟩) m cap) w u w' := by
  have hgr := growPub_any b B g o m cap (2 * s.size) l w h hB (by omega)
  rw [show ((2 * s.size : Nat) : Int) = 2 * (s.size : Int) by omega] at hgr
  have hcF := fun v w1 h1 h2 h3 h4 h5 => indF B v [] s ind sb scap w1 h1 h2 hs hi8 (by simp) hcap hcm h3 h4 h5
  have hlen := indI_le hs hi8
  generalize hT : indQ (nlI (bl ind)) sc0 false 0 (bl s) = T at *
  generalize hV : validQ sc0 (bl s) = V at *
  have hcomp : ∀ (w1 : World) (g1 o1 cap1 : Nat), BufS w1 b B (.slice (some ⟨g1, o1, none⟩) m cap1) l → Stp b (.slice (some ⟨g, o, none⟩) m cap) w (.slice (some ⟨g1, o1, none⟩) m cap1) w1 → Bs w1 B (.slice (some ⟨g1, o1 + m, none⟩) 0 (cap1 - m)) [] →
      Calls Tryd.prog 23 #[.slice (some ⟨g1, o1 + m, none⟩) 0 (cap1 - m), .slice (some ⟨sb, 0, none⟩) s.size scap, .string ⟨#[]⟩, .string ind] w1 fun e w2 => ∃ pa n pc u, e = .returned (.tuple #[.slice pa n pc, u]) ∧
        Calls Tryd.prog 21 #[.pointer (some ⟨b, 0, none⟩), .slice pa n pc] w2 fun e w' => e = .returned (.tuple #[.int .i64 n, .nilIface]) ∧ CompO b B m l T V (.slice (some ⟨g, o, none⟩) m cap) w u w' := by
    intro w1 g1 o1 cap1 hb1 hP hbs
    obtain ⟨hS1, hown, hsl⟩ := src_stp (B := B) (l := l) hP hS hsb hsg hbl
    have hB1 := Nat.le_trans hB hP.size
    exact (hcF _ w1 hbs hB1 hS1 (hown _ _) hsl).mono fun e w2 hR => comp_write hb1 hP hB1 (by omega) hR
  have z1 : 2 * (s.size : Int) ≤ 18000 := by omega
  have z2 : (0 : Int) ≤ 2 * (s.size : Int) := by omega
  clear hS h hT hV hcF hlen
  go_enter Tryd.func16, Tryd.ntmps16
  go_wp2_with (first
    | (go_at_call 18; refine hgr.mono ?_; rintro e w1 ⟨rfl, g1, o1, cap1, hc1, hb1, hP⟩)
    | (go_at_call 19; refine (avail_any b B g1 o1 m cap1 l w1 hb1).mono ?_; rintro e w2 ⟨v2, rfl, hbs, hv2, nq, rfl⟩; obtain rfl := avail_form hv2 (by omega); have hcc := hcomp (w1.drewN nq) g1 o1 cap1 ⟨hb1.hB, hb1.cell, hb1.bs.drewN nq⟩ (hP.trans (Stp.drew b _ w1 nq)) (hbs.drewN nq))
    | (go_at_call 23; refine hcc.mono ?_; rintro e w3 ⟨pa, n, pc, u, rfl, hwr⟩)
    | (go_at_call 21; refine hwr.mono ?_; rintro e w4 ⟨rfl, k1⟩))
  all_goals go_ret
  exact ⟨_, rfl, k1⟩
end
end Go.Proofs.YtjbffgjclnjkoaaDoor
