/- Quoting by the reference, with all marks: the small functions. -/
import Derived.Test.YtbnnjjilkpdanaaDoorBx
import Derived.Test.YtbnnjjilkpdanaaDoorCb
import Derived.Test.YtbnnjjilkpdanaaDoorQt
namespace Go.Proofs.YtbnnjjilkpdanaaDoor
open Go.RowKit
set_option linter.unusedVariables false

theorem bs_lit (w : World) (l : List Int) (h8 : By8 l) (cs : Array Value) (hcs : cs = (bv l).toArray) (n : Nat) (hn : n = l.length) (hm : n ≤ maxLen) :
    Bs (w.alloc (.cells cs 5)) w.heap.size (.slice (some ⟨w.heap.size, 0, none⟩) n n) l := by
  subst hcs hn
  refine ⟨h8, _, _, rfl, Nat.le_refl _, hm, .inr ⟨w.heap.size, _, (0, 0), rfl, Nat.le_refl _, heap_alloc_new w _, by simp [bv_len], .inl rfl, ?_⟩⟩
  rw [List.toList_toArray, List.take_of_length_le (by rw [bv_len]; exact Nat.le_refl _)]
theorem lit_str (w : World) (l : List Int) (h8 : By8 l) (cs : Array Value) (hcs : cs = (bv l).toArray) (n : Nat) (hn : n = l.length) (hm : n ≤ maxLen) :
    (convert 46 9 (.slice (some ⟨w.heap.size, 0, none⟩) n n)).run Tryd.prog (w.alloc (.cells cs 5)) = .ok (.string (txt l)) (w.alloc (.cells cs 5)) :=
  bs_str (bs_lit w l h8 cs hcs n hn hm)

theorem digit_any (n : Int) (w : World) (h0 : 0 ≤ n) (h1 : n < 16) : Calls Tryd.prog 101 #[.int .i64 n] w fun e w' => e = .returned (.int .u8 (hxD n)) ∧ w' = w := by
  have hx := fun w => hexIdx .i64 n h0 h1 w
  go_enter Tryd.func101, Tryd.ntmps101
  go_wp2
  go_ret
  exact ⟨rfl, rfl⟩
theorem mask4i (x : Int) (h0 : 0 ≤ x) (h1 : x < 9223372036854775808) : bits .and .i64 x 15 = x % 16 := bits_mask .i64 63 (by decide) (fun n a b => by rw [IntKind.wrap_i64]; omega) 4 (by decide) x h0 h1
set_option maxRecDepth 100000 in
theorem unitText_any (x : Int) (w : World) (h0 : 0 ≤ x) (h1 : x < 65536) : Calls Tryd.prog 74 #[.int .i64 x] w fun e w' => e = .returned (.string (txt (unitT x))) ∧ Below w.heap.size w w' := by
  have m2 := mask4i (x / 256) (by omega) (by omega)
  have m3 := mask4i (x / 16) (by omega) (by omega)
  have m4 := mask4i x (by omega) (by omega)
  have e1 : x / 4096 % 16 = x / 4096 := by omega
  have hT : unitT x = [92, 117, hxD (x / 4096), hxD (x / 256 % 16), hxD (x / 16 % 16), hxD (x % 16)] := by unfold unitT; rw [e1]
  have h8 := unitT_by x
  rw [hT] at h8 ⊢
  have hc := fun w => lit_str w [92, 117, hxD (x / 4096), hxD (x / 256 % 16), hxD (x / 16 % 16), hxD (x % 16)] h8 #[.int .u8 92, .int .u8 117, .int .u8 (hxD (x / 4096)), .int .u8 (hxD (x / 256 % 16)), .int .u8 (hxD (x / 16 % 16)), .int .u8 (hxD (x % 16))] rfl 6 rfl (by unfold maxLen; omega)
  clear hT e1 h8
  go_enter Tryd.func74, Tryd.ntmps74
  go_wp2_with (go_at_call 101; refine (digit_any _ _ (by omega) (by omega)).mono ?_; rintro e w' ⟨rfl, rfl⟩)
  go_ret
  exact ⟨rfl, (Below.refl _ _).alloc (Nat.le_refl _) _⟩

/-- A plain character as it stands in a string, with all marks. -/
def qS1 (X : Int) : List Int := if X = 60 ∨ X = 62 ∨ X = 38 then unitT X else if X < 32 ∨ X = 34 ∨ X = 92 then escA X else [X]
theorem eq_lit (P : ByteArray) (l : List UInt8) (b : Bool) (h : decide (bl P = l.map fun x => (x.toNat : Int)) = b) : (P.toList == l) = b := by
  rw [← h, Bool.eq_iff_iff, ByteArray.toList_eq]
  simp only [beq_iff_eq, decide_eq_true_eq]
  unfold bl
  constructor
  · intro h; rw [h]
  · intro h
    have hinj : ∀ (a b : List UInt8), a.map (fun x => (x.toNat : Int)) = b.map (fun x => (x.toNat : Int)) → a = b := by
      intro a
      induction a with
      | nil => intro b hb; cases b; rfl; cases hb
      | cons x a ih =>
        intro b hb
        cases b with
        | nil => cases hb
        | cons y b =>
          simp only [List.map_cons, List.cons.injEq] at hb
          rw [ih b hb.2, UInt8.toNat_inj.1 (by omega : x.toNat = y.toNat)]
    exact hinj _ _ h

theorem marked1 (P : ByteArray) (X : Int) (hP : bl P = [X]) (w : World) (h0 : 0 ≤ X) (h1 : X < 128) :
    Calls Tryd.prog 73 #[.string P, .agg #[.bool true, .bool true]] w fun e w' => e = .returned (.string (txt (if X = 60 ∨ X = 62 ∨ X = 38 then unitT X else []))) ∧ Below w.heap.size w w' := by
  have hz : P.size = 1 := by rw [← bl_len, hP]; rfl
  have hp0 : 0 < P.size := by omega
  have hx0 : (P[0].toNat : Int) = X := by
    rw [← bAt_lt hp0, bAt_bl hP 0 (by simp)]; rfl
  have t60 : (P.toList == [60]) = decide (X = 60) := eq_lit P _ _ (by rw [hP]; simp)
  have t62 : (P.toList == [62]) = decide (X = 62) := eq_lit P _ _ (by rw [hP]; simp)
  have t38 : (P.toList == [38]) = decide (X = 38) := eq_lit P _ _ (by rw [hP]; simp)
  have t8 : (P.toList == [226, 128, 168]) = false := eq_lit P _ _ (by rw [hP]; simp)
  have t9 : (P.toList == [226, 128, 169]) = false := eq_lit P _ _ (by rw [hP]; simp)
  have HZ := Lib.hid hz
  have hz2 : (0 : Int) < P.size := by omega
  clear hz hP
  have hb : ∀ {w'}, Below (w.alloc (.cells #[.bool true, .bool true] 49)).heap.size (w.alloc (.cells #[.bool true, .bool true] 49)) w' → Below w.heap.size w w' := fun h => ((Below.refl _ _).alloc (Nat.le_refl _) _).trans (h.mono (by simp))
  by_cases hs : X = 60 ∨ X = 62 ∨ X = 38
  · rw [if_pos hs]
    rcases hs with rfl | rfl | rfl
    all_goals
      go_enter Tryd.func73, Tryd.ntmps73
      go_wp2_with (go_at_call 74; refine (unitText_any _ _ (by omega) (by omega)).mono ?_; rintro e w' ⟨rfl, hb1⟩; have hb2 := hb hb1)
      go_ret
      exact ⟨rfl, hb2⟩
  · rw [if_neg hs]
    have n1 : ¬ X = 60 := by omega
    have n2 : ¬ X = 62 := by omega
    have n3 : ¬ X = 38 := by omega
    clear hs
    go_enter Tryd.func73, Tryd.ntmps73
    go_wp2_with fail
    go_ret
    exact ⟨rfl, (Below.refl _ _).alloc (Nat.le_refl _) _⟩

theorem str_ret {a b : ByteArray} (h : a = b) : Ending.returned (.string a) = .returned (.string b) := by rw [h]
theorem txt_nil : txt [] = ⟨#[]⟩ := rfl
theorem qS1_by {X : Int} (h0 : 0 ≤ X) (h1 : X < 128) : By8 (qS1 X) := by
  unfold qS1
  repeat' split
  · exact unitT_by X
  · exact escA_by h0 (by omega)
  · intro x hx; simp at hx; omega
set_option maxHeartbeats 1000000 in
theorem quoted1 (P : ByteArray) (X : Int) (hP : bl P = [X]) (w : World) (h0 : 0 ≤ X) (h1 : X < 128) :
    Calls Tryd.prog 51 #[.string P, .agg #[.bool true, .bool true]] w fun e w' => e = .returned (.string (txt (qS1 X))) ∧ Below w.heap.size w w' := by
  have hz : P.size = 1 := by rw [← bl_len, hP]; rfl
  have hp0 : 0 < P.size := by omega
  have hx0 : (P[0].toNat : Int) = X := by rw [← bAt_lt hp0, bAt_bl hP 0 (by simp)]; rfl
  have hPt : P = txt [X] := by rw [← txt_bl P, hP]
  have hb : ∀ {w'}, Below (w.alloc (.cells #[.bool true, .bool true] 49)).heap.size (w.alloc (.cells #[.bool true, .bool true] 49)) w' → Below w.heap.size w w' := fun h => ((Below.refl _ _).alloc (Nat.le_refl _) _).trans (h.mono (by simp))
  have hm := marked1 P X hP (w.alloc (.cells #[.bool true, .bool true] 49)) h0 h1
  by_cases hs : X = 60 ∨ X = 62 ∨ X = 38
  · have E : qS1 X = unitT X := by unfold qS1; rw [if_pos hs]
    rw [if_pos hs] at hm
    rw [E]
    have hne : (txt (unitT X)).toList.isEmpty = false := by rw [txt_toList]; rfl
    have hne2 : ((txt (unitT X)).toList == []) = false := by rw [txt_toList]; rfl
    clear hPt hs E
    go_enter Tryd.func51, Tryd.ntmps51
    go_wp2_with (go_at_call 73; refine hm.mono ?_; rintro e w' ⟨rfl, hb1⟩; have hb2 := hb hb1)
    go_ret
    exact ⟨rfl, hb2⟩
  · rw [if_neg hs, txt_nil] at hm
    have HS := Lib.hid hs
    have HZ := Lib.hid hz
    have HP := Lib.hid hPt
    have hz2 : (0 : Int) < P.size := by omega
    have hlt : (1 : Int) + P.size ≤ 100 := by omega
    clear hz hPt hP hs
    go_enter Tryd.func51, Tryd.ntmps51
    go_wp2_with (first
      | (go_at_call 73; refine hm.mono ?_; rintro e w' ⟨rfl, hb1⟩; have hb2 := hb hb1)
      | (go_at_call 74; refine (unitText_any _ _ h0 (by omega)).mono ?_; rintro e w3 ⟨rfl, hb3⟩; have hb4 := Below.trans hb2 (Below.mono hb3 hb2.size)))
    all_goals go_ret
    all_goals simp only [beq_iff_eq, beq_eq_false_iff_ne, ne_eq] at *
    all_goals refine ⟨str_ret (bl_inj ?_), by first | exact hb4 | exact hb2⟩
    all_goals rw [bl_txt (qS1_by h0 h1)]
    all_goals have HS' := HS.out
    all_goals have HP' : bl P = [X] := by rw [HP.out, bl_txt (by intro x hx; simp at hx; omega)]
    all_goals clear HS HP hx0
    all_goals unfold qS1 escA
    all_goals (repeat' split)
    all_goals first | (exfalso; omega) | exact HP' | rfl | (rw [bl_append, HP']; rfl) | (rw [bl_txt (unitT_by X)])

/-- A character of more than one byte, with all marks. -/
def qSm (L : List Int) : List Int := if L = [226, 128, 168] then unitT 8232 else if L = [226, 128, 169] then unitT 8233 else L
theorem markedB (P : ByteArray) (L : List Int) (hP : bl P = L) (w : World) (h2 : 2 ≤ P.size) (h128 : 128 ≤ bAt P 0) :
    Calls Tryd.prog 73 #[.string P, .agg #[.bool true, .bool true]] w fun e w' => e = .returned (.string (txt (if L = [226, 128, 168] then unitT 8232 else if L = [226, 128, 169] then unitT 8233 else []))) ∧ Below w.heap.size w w' := by
  have hz : L.length = P.size := by rw [← hP, bl_len]
  have n1 : ∀ x : Int, L ≠ [x] := fun x h => by rw [h] at hz; simp at hz; omega
  have t60 : (P.toList == [60]) = false := eq_lit P _ _ (by rw [hP]; simpa using n1 60)
  have t62 : (P.toList == [62]) = false := eq_lit P _ _ (by rw [hP]; simpa using n1 62)
  have t38 : (P.toList == [38]) = false := eq_lit P _ _ (by rw [hP]; simpa using n1 38)
  have hb : ∀ {w'}, Below (w.alloc (.cells #[.bool true, .bool true] 49)).heap.size (w.alloc (.cells #[.bool true, .bool true] 49)) w' → Below w.heap.size w w' := fun h => ((Below.refl _ _).alloc (Nat.le_refl _) _).trans (h.mono (by simp))
  by_cases h8 : L = [226, 128, 168]
  · rw [if_pos h8]
    have t8 : (P.toList == [226, 128, 168]) = true := eq_lit P _ _ (by rw [hP, h8]; rfl)
    clear n1 hz hP h8
    go_enter Tryd.func73, Tryd.ntmps73
    go_wp2_with (go_at_call 74; refine (unitText_any _ _ (by omega) (by omega)).mono ?_; rintro e w' ⟨rfl, hb1⟩; have hb2 := hb hb1)
    go_ret
    exact ⟨rfl, hb2⟩
  · rw [if_neg h8]
    have t8 : (P.toList == [226, 128, 168]) = false := eq_lit P _ _ (by rw [hP]; simpa using h8)
    by_cases h9 : L = [226, 128, 169]
    · rw [if_pos h9]
      have t9 : (P.toList == [226, 128, 169]) = true := eq_lit P _ _ (by rw [hP, h9]; rfl)
      clear n1 hz hP h8 h9
      go_enter Tryd.func73, Tryd.ntmps73
      go_wp2_with (go_at_call 74; refine (unitText_any _ _ (by omega) (by omega)).mono ?_; rintro e w' ⟨rfl, hb1⟩; have hb2 := hb hb1)
      go_ret
      exact ⟨rfl, hb2⟩
    · rw [if_neg h9]
      have t9 : (P.toList == [226, 128, 169]) = false := eq_lit P _ _ (by rw [hP]; simpa using h9)
      clear n1 hz hP h8 h9
      go_enter Tryd.func73, Tryd.ntmps73
      go_wp2_with fail
      go_ret
      exact ⟨rfl, (Below.refl _ _).alloc (Nat.le_refl _) _⟩
theorem quotedB (P : ByteArray) (L : List Int) (hP : bl P = L) (w : World) (h2 : 2 ≤ P.size) (h128 : 128 ≤ bAt P 0) :
    Calls Tryd.prog 51 #[.string P, .agg #[.bool true, .bool true]] w fun e w' => e = .returned (.string (txt (qSm L))) ∧ Below w.heap.size w w' := by
  have hp0 : 0 < P.size := by omega
  have hx0 : 128 ≤ (P[0].toNat : Int) := by rw [← bAt_lt hp0]; exact h128
  have hPt : P = txt L := by rw [← txt_bl P, hP]
  have hb : ∀ {w'}, Below (w.alloc (.cells #[.bool true, .bool true] 49)).heap.size (w.alloc (.cells #[.bool true, .bool true] 49)) w' → Below w.heap.size w w' := fun h => ((Below.refl _ _).alloc (Nat.le_refl _) _).trans (h.mono (by simp))
  have hm := markedB P L hP (w.alloc (.cells #[.bool true, .bool true] 49)) h2 h128
  by_cases h8 : L = [226, 128, 168] ∨ L = [226, 128, 169]
  · have E : (if L = [226, 128, 168] then unitT 8232 else if L = [226, 128, 169] then unitT 8233 else []) = qSm L := by
      unfold qSm
      rcases h8 with h | h
      · rw [if_pos h, if_pos h]
      · subst h; rfl
    rw [E] at hm
    have hl6 : (qSm L).length = 6 := by rcases h8 with h | h <;> subst h <;> rfl
    have hne : (txt (qSm L)).toList.isEmpty = false := by
      rw [txt_toList]
      cases hq : qSm L with
      | nil => rw [hq] at hl6; cases hl6
      | cons a b => rfl
    have hne2 : ((txt (qSm L)).toList == []) = false := by
      rw [txt_toList]
      cases hq : qSm L with
      | nil => rw [hq] at hl6; cases hl6
      | cons a b => rfl
    clear hPt h8 E hP hl6
    go_enter Tryd.func51, Tryd.ntmps51
    go_wp2_with (go_at_call 73; refine hm.mono ?_; rintro e w' ⟨rfl, hb1⟩; have hb2 := hb hb1)
    go_ret
    exact ⟨rfl, hb2⟩
  · have g1 : ¬ L = [226, 128, 168] := fun h => h8 (.inl h)
    have g2 : ¬ L = [226, 128, 169] := fun h => h8 (.inr h)
    have E : qSm L = L := by unfold qSm; rw [if_neg g1, if_neg g2]
    rw [if_neg g1, if_neg g2, txt_nil] at hm
    rw [E, ← hPt]
    have b34 : ((P[0].toNat : Int) == 34) = false := by simp; omega
    have b92 : ((P[0].toNat : Int) == 92) = false := by simp; omega
    clear hPt h8 E hP g1 g2
    go_enter Tryd.func51, Tryd.ntmps51
    go_wp2_with (go_at_call 73; refine hm.mono ?_; rintro e w' ⟨rfl, hb1⟩; have hb2 := hb hb1)
    go_ret
    exact ⟨rfl, hb2⟩
end Go.Proofs.YtbnnjjilkpdanaaDoor
