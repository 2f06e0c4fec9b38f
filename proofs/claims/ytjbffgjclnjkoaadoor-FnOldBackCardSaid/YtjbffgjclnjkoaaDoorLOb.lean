/- Joined texts: Td, LOb. -/
import Derived.Test.YtjbffgjclnjkoaaDoorG1
import Derived.Test.YtjbffgjclnjkoaaDoorJt
import Derived.Below
import Derived.Test.YtjbffgjclnjkoaaDoorOc
import Derived.Test.YtjbffgjclnjkoaaDoorT1
import Derived.Test.YtjbffgjclnjkoaaDoorSt
namespace Go.Proofs.YtjbffgjclnjkoaaDoor
set_option linter.unusedVariables false
set_option linter.unusedSimpArgs false
section
/- (Td) spec.Taken by the rules of encoding/json: whether the scanner takes the text. -/
open Go.RowKit

theorem oldRulesT_any (w : World) : Calls Tryd.prog 9 #[] w fun e w' => e = .returned (.agg #[.bool true, .bool true]) ∧ Below w.heap.size w w' := by
  go_enter Tryd.func9, Tryd.ntmps9
  go_wp2
  have h := heap_alloc_new w (.cells #[.bool true, .bool true] 30)
  have c0 : (w.alloc (.cells #[.bool true, .bool true] 30)).cell? ⟨w.heap.size, 0, none⟩ = some (.bool true) := by simp only [World.cell?, h]; rfl
  have c1 : (w.alloc (.cells #[.bool true, .bool true] 30)).cell? ⟨w.heap.size, 1, none⟩ = some (.bool true) := by simp only [World.cell?, h]; rfl
  clear h
  refine bodyPost_ret (v := .agg #[.bool true, .bool true]) (by simp [results, Tryd.results9, go_sem, c0, c1]; try rfl) rfl ?_
  exact ⟨rfl, (Below.refl _ _).alloc (Nat.le_refl _) _⟩
theorem taken_old (s : ByteArray) (hs : s.size ≤ 2147483647) (w : World) : Calls Tryd.prog 8 #[.string s, .agg #[.bool true, .bool true]] w fun e w' => (∃ o, e = .returned (.tuple #[.bool (validQ sc0 (bl s)), .bool o])) ∧ Below w.heap.size w w' :=
  (taken_ex (fun _ => True) s true true w hs (fun _ _ _ => trivial) (fun h => by cases h)).mono fun e w'' ⟨⟨t', o, σG, h1, h2, h3⟩, h4⟩ => by
    refine ⟨⟨o, ?_⟩, h4⟩
    have hv := parse_valid h2.2
    have : t' = validQ sc0 (bl s) := by
      rw [h3]
      cases h : validQ sc0 (bl s)
      · rw [h] at hv; simpa using hv
      · rw [h] at hv; simpa using hv
    rw [h1, this]
end
section
/- (LOb) Laid out over lines and made compact again: the walk of the law. -/
open Go.RowKit Go.Shelf

theorem nlI_w {ind : List Int} (h : ∀ x ∈ ind, isW x = true) (d : Int) : ∀ x ∈ nlI ind d, isW x = true := by
  intro x hx
  unfold nlI at hx
  rcases List.mem_cons.1 hx with rfl | hx
  · rfl
  · obtain ⟨l, h1, h2⟩ := List.mem_flatten.1 hx
    rw [List.eq_of_mem_replicate h1] at h2
    exact h x h2
theorem nlI_by {ind : List Int} (h : By8 ind) (d : Int) : By8 (nlI ind d) := by
  intro x hx
  unfold nlI at hx
  rcases List.mem_cons.1 hx with rfl | hx
  · omega
  · obtain ⟨l, h1, h2⟩ := List.mem_flatten.1 hx
    rw [List.eq_of_mem_replicate h1] at h2
    exact h x h2
theorem out_by {nl : Int → List Int} (hn : ∀ d, By8 (nl d)) {c : Int} (hc : 0 ≤ c ∧ c < 256) (v : Int) (need : Bool) (d : Int) : By8 (outI nl v c need d).1 := by
  have h1 : By8 [c] := by intro x hx; rcases List.mem_cons.1 hx with rfl | hx; exact hc; cases hx
  have h2 : By8 [c, 32] := by intro x hx; rcases List.mem_cons.1 hx with rfl | hx; exact hc; rcases List.mem_cons.1 hx with rfl | hx; omega; cases hx
  unfold outI
  dsimp only
  generalize (need && v != 5 && v != 8) = b
  cases b
  · simp only [Bool.false_eq_true, if_false]
    repeat' split
    all_goals first | exact By8.nil.app h1 | exact (By8.nil.app h1).app (hn _) | exact By8.nil.app h2 | exact (By8.nil.app (hn _)).app h1
  · simp only [if_true]
    repeat' split
    all_goals first | exact (hn _).app h1 | exact ((hn _).app h1).app (hn _) | exact (hn _).app h2 | exact ((hn _).app (hn _)).app h1
theorem ind_by {nl : Int → List Int} (hn : ∀ d, By8 (nl d)) : ∀ (l : List Int) (σ : Sc) (need : Bool) (d : Int), By8 l → By8 (indQ nl σ need d l)
  | [], _, _, _, _ => By8.nil
  | c :: l, σ, need, d, h => by
    have hl : By8 l := fun x hx => h x (.tail _ hx)
    by_cases h9 : (stepQ σ c).1 = 9
    · rw [ind_nine h9]; exact ind_by hn l _ _ _ hl
    · rw [ind_else h9]; exact (out_by hn (h c (.head _)) _ _ _).app (ind_by hn l _ _ _ hl)
theorem cmpO_by {l : List Int} (h : By8 l) : ∀ (σ : Sc), By8 (cmpQ σ l) := by
  induction l with
  | nil => intro σ; simp [cmpQ, K]; exact By8.nil
  | cons c l ih =>
    intro σ
    have hl : By8 l := fun x hx => h x (.tail _ hx)
    by_cases h9 : (stepQ σ c).1 < 9
    · rw [cmp_lt h9]
      intro x hx
      rcases List.mem_cons.1 hx with rfl | hx
      · exact h x (.head _)
      · exact ih hl _ x hx
    · rw [cmp_ge (by omega)]; exact ih hl _
theorem bwB {w a b : World} (h : Below w.heap.size w a) (k : Below a.heap.size a b) : Below w.heap.size w b := Below.trans h (Below.mono k h.size)
/-- What the two calls of each kind give, if the text is a value. -/
structure BackG (a0 a1 X Y Z : ByteArray) : Prop where
  c1 : ∀ w' : World, Calls Tryd.prog 6 #[.string ⟨#[]⟩, .string a0] w' fun e w'' => (∃ n, e = .returned (.tuple #[.string X, .bool true, .int .i64 n])) ∧ Below w'.heap.size w' w''
  i1 : ∀ w' : World, Calls Tryd.prog 7 #[.string ⟨#[]⟩, .string a0, .string ⟨#[]⟩, .string a1] w' fun e w'' => (∃ n, e = .returned (.tuple #[.string Y, .bool true, .int .i64 n])) ∧ Below w'.heap.size w' w''
  c2 : ∀ w' : World, Calls Tryd.prog 6 #[.string ⟨#[]⟩, .string Y] w' fun e w'' => (∃ n, e = .returned (.tuple #[.string X, .bool true, .int .i64 n])) ∧ Below w'.heap.size w' w''
  i2 : ∀ w' : World, Calls Tryd.prog 7 #[.string ⟨#[]⟩, .string X, .string ⟨#[]⟩, .string a1] w' fun e w'' => (∃ n, e = .returned (.tuple #[.string Z, .bool true, .int .i64 n])) ∧ Below w'.heap.size w' w''
  tr : ∀ w' : World, Calls Tryd.prog 10 #[.string a0] w' fun e w'' => ∃ E : ByteArray, e = .returned (.string E) ∧ Hid (Z ++ E = Y) ∧ E.size ≤ 1000 ∧ Below w'.heap.size w' w''
  ne : 0 < X.size
  zl : Z.size ≤ 100000000000
theorem back_g (a0 a1 : ByteArray) (h0 : a0.size ≤ 1000) (h1 : a1.size ≤ 16) (hW : (bl a1).all isW = true) (hV : validQ sc0 (bl a0) = true) : ∃ X Y Z, BackG a0 a1 X Y Z := by
  have hVQ := vq_of _ sc0 rfl hV
  have hind : ∀ x ∈ bl a1, isW x = true := fun x hx => List.all_eq_true.1 hW x hx
  have hd : DepQ 9000 sc0 (bl a0) := dep_len 9000 (bl a0) sc0 inv0 (by rw [bl_len]; show 0 + a0.size ≤ 9000; omega)
  have hby : ∀ d, By8 (nlI (bl a1) d) := nlI_by (bl_by8 a1)
  obtain ⟨p1, p2, p3, p4, p5, p6⟩ := back_all (nlI (bl a1)) (nlI_w hind) 9000 hV hd
  have hE : bl (⟨#[]⟩ : ByteArray) = [] := rfl
  have e0 : (⟨#[]⟩ : ByteArray).size ≤ 100000000000 := by decide
  have e1 : (⟨#[]⟩ : ByteArray).size = 0 := rfl
  have hM : ∀ x : Int, x ≤ 1001 → (nlI (bl a1) x).length ≤ 20000 := fun x hx => by
    rw [nlI_len, bl_len]
    have : x.toNat * a1.size ≤ 1001 * 16 := Nat.mul_le_mul (by omega) h1
    omega
  have lY : (indQ (nlI (bl a1)) sc0 false 0 (bl a0)).length ≤ 100000000 := by
    have h := ind_len (nl := nlI (bl a1)) (M := 20000) 1001 hM (bl a0) sc0 false 0 (by rw [bl_len]; omega)
    have : (bl a0).length * (2 * 20000 + 2) ≤ 1000 * (2 * 20000 + 2) := Nat.mul_le_mul (by rw [bl_len]; exact h0) (Nat.le_refl _)
    omega
  have lX := cmpO_len (bl a0) sc0
  rw [bl_len] at lX
  have lZ : (indQ (nlI (bl a1)) sc0 false 0 (cmpQ sc0 (bl a0))).length ≤ 100000000 := by
    rw [← p5, List.length_append] at lY; omega
  obtain ⟨X, hX⟩ : ∃ X, txt (cmpQ sc0 (bl a0)) = X := ⟨_, rfl⟩
  have hbX : bl X = cmpQ sc0 (bl a0) := by rw [← hX, bl_txt (cmpO_by (bl_by8 a0) sc0)]
  obtain ⟨Y, hY⟩ : ∃ Y, txt (indQ (nlI (bl a1)) sc0 false 0 (bl a0)) = Y := ⟨_, rfl⟩
  have hbY : bl Y = indQ (nlI (bl a1)) sc0 false 0 (bl a0) := by rw [← hY, bl_txt (ind_by hby _ _ _ _ (bl_by8 a0))]
  obtain ⟨Z, hZ⟩ : ∃ Z, txt (indQ (nlI (bl a1)) sc0 false 0 (cmpQ sc0 (bl a0))) = Z := ⟨_, rfl⟩
  have sX : X.size ≤ 1000 := by rw [← bl_len, hbX]; omega
  have sY : Y.size ≤ 100000000 := by rw [← bl_len, hbY]; exact lY
  refine ⟨X, Y, Z, ⟨fun w' => ?_, fun w' => ?_, fun w' => ?_, fun w' => ?_, fun w' => ?_, ?_, ?_⟩⟩
  · have := oldCompact_ok ⟨#[]⟩ a0 w' e0 (by omega) hd (.inr e1) hV
    rw [hE, List.nil_append, hX] at this
    exact this
  · have := oldIndent_ok ⟨#[]⟩ a0 a1 w' e0 (by omega) (by omega) (by omega) (.inr e1) hV
    rw [hE, List.nil_append, hY] at this
    exact this
  · have := oldCompact_ok ⟨#[]⟩ Y w' e0 (by omega) (by rw [hbY]; exact p3) (.inr e1) (by rw [hbY]; exact p2)
    rw [hE, List.nil_append, hbY, p4, hX] at this
    exact this
  · have := oldIndent_ok ⟨#[]⟩ X a1 w' e0 (by omega) (by omega) (by omega) (.inr e1) (by rw [hbX]; exact p1)
    rw [hE, List.nil_append, hbX, hZ] at this
    exact this
  · refine (trail_any a0 (by omega) w').mono ?_
    rintro e w'' ⟨k, hk, rfl, t1, t2, t3⟩
    refine ⟨_, rfl, ?_, ?_, t3⟩
    · exact Lib.hid (by rw [← hZ, txt_ext hk (trail_eq hVQ hk t1 t2), p5, hY])
    · rw [← bl_len, bl_ext hk, List.length_drop, bl_len]; omega
  · rw [← bl_len, hbX]; exact List.length_pos_iff.2 p6
  · rw [← hZ, txt_size]; omega
set_option maxRecDepth 100000 in
set_option maxHeartbeats 4000000 in
theorem walk_FnOldBack (a0 : ByteArray) (w0 : a0.size ≤ maxLen) (a1 : ByteArray) (w1 : a1.size ≤ maxLen) (w : World) :
    Calls Tryd.prog 3 #[.string a0, .string a1] w fun e w' => e = .returned (.bool true) ∧ Below w.heap.size w w' := by
  have hs0 := w0
  have hs1 := w1
  unfold maxLen at hs0 hs1
  by_cases hz0 : 2147483647 < (a0.size : Int)
  · go_enter Tryd.func3, Tryd.ntmps3
    go_wp2_with fail
    all_goals go_ret
    exact ⟨rfl, Below.refl _ _⟩
  by_cases hz1 : 2147483647 < (a1.size : Int)
  · go_enter Tryd.func3, Tryd.ntmps3
    go_wp2_with fail
    all_goals go_ret
    exact ⟨rfl, Below.refl _ _⟩
  obtain ⟨r, hr⟩ : ∃ r, Hid (decide (a0.size ≤ 1000) = r) := ⟨_, Lib.hid rfl⟩
  cases r
  · clear hs0 hs1
    go_enter Tryd.func3, Tryd.ntmps3
    go_wp2_with (go_at_call 4; refine (f8one a0 _ _ false hr (strs1 _ _ _) w0).mono ?_; rintro e w3 ⟨rfl, hw3⟩; obtain rfl := hw3.symm)
    all_goals go_ret
    exact ⟨rfl, (Below.refl _ _).alloc (Nat.le_refl _) _⟩
  have hl0 : a0.size ≤ 1000 := by simpa using hr.out
  by_cases h16 : 16 < (a1.size : Int)
  · clear hs0 hs1 hl0
    go_enter Tryd.func3, Tryd.ntmps3
    go_wp2_with (go_at_call 4; refine (f8one a0 _ _ true hr (strs1 _ _ _) w0).mono ?_; rintro e w3 ⟨rfl, hw3⟩; obtain rfl := hw3.symm)
    all_goals go_ret
    exact ⟨rfl, (Below.refl _ _).alloc (Nat.le_refl _) _⟩
  have hl1 : a1.size ≤ 16 := by omega
  have hsp := fun w' => spaces8_any a1 (by omega) w'
  have hba : ∀ o, Below w.heap.size w (w.alloc o) := fun o => (Below.refl _ _).alloc (Nat.le_refl _) _
  obtain ⟨W, hW⟩ : ∃ W, (bl a1).all isW = W := ⟨_, rfl⟩
  rw [hW] at hsp
  cases W
  · clear hs0 hs1 hW hl0 hl1
    go_enter Tryd.func3, Tryd.ntmps3
    go_wp2_with (first
      | (go_at_call 4; refine (f8one a0 _ _ true hr (strs1 _ _ _) w0).mono ?_; rintro e w3 ⟨rfl, hw3⟩; obtain rfl := hw3.symm)
      | (go_at_call 5; refine (hsp _).mono ?_; rintro e w4 ⟨rfl, hb4⟩; have hb5 := bwB (hba _) hb4))
    all_goals go_ret
    exact ⟨rfl, hb5⟩
  obtain ⟨V, hV⟩ : ∃ V, validQ sc0 (bl a0) = V := ⟨_, rfl⟩
  cases V
  · have hd : DepQ 9000 sc0 (bl a0) := dep_len 9000 (bl a0) sc0 inv0 (by rw [bl_len]; show 0 + a0.size ≤ 9000; omega)
    have e0 : (⟨#[]⟩ : ByteArray).size ≤ 100000000000 := by decide
    have hc := fun w' => oldCompact_bad ⟨#[]⟩ a0 w' e0 (by omega) hd (.inr rfl) hV
    have hi := fun w' => oldIndent_bad ⟨#[]⟩ a0 a1 w' e0 (by omega) (by omega) (by omega) (.inr rfl) hV
    have ht := fun w' => taken_old a0 (by omega) w'
    rw [hV] at ht
    generalize txt (bl (⟨#[]⟩ : ByteArray)) = S0 at hc hi
    clear hs0 hs1 hW hl0 hl1 hd hV e0
    go_enter Tryd.func3, Tryd.ntmps3
    go_wp2_with (first
      | (go_at_call 4; refine (f8one a0 _ _ true hr (strs1 _ _ _) w0).mono ?_; rintro e w3 ⟨rfl, hw3⟩; obtain rfl := hw3.symm)
      | (go_at_call 5; refine (hsp _).mono ?_; rintro e w4 ⟨rfl, hb4⟩; have hb5 := bwB (hba _) hb4)
      | (go_at_call 6; refine (hc _).mono ?_; rintro e w6 ⟨⟨n6, rfl⟩, hb6⟩; have hb7 := bwB hb5 hb6)
      | (go_at_call 7; refine (hi _).mono ?_; rintro e w8 ⟨⟨n8, rfl⟩, hb8⟩; have hb9 := bwB hb7 hb8)
      | (go_at_call 9; refine (oldRulesT_any _).mono ?_; rintro e w10 ⟨rfl, hb10⟩; have hb11 := bwB hb9 hb10)
      | (go_at_call 8; refine (ht _).mono ?_; rintro e w12 ⟨⟨o, rfl⟩, hb12⟩; have hb13 := bwB hb11 hb12))
    all_goals go_ret
    exact ⟨rfl, hb13⟩
  · obtain ⟨X, Y, Z, G⟩ := back_g a0 a1 hl0 hl1 hW hV
    obtain ⟨hc1, hi1, hc2, hi2, htr, hne, hzl⟩ := G
    have hneI : (0 : Int) < (X.size : Int) := by omega
    have hneD : decide (0 < X.size) = true := decide_eq_true hne
    clear hs0 hs1 hW hl1 hV hne
    go_enter Tryd.func3, Tryd.ntmps3
    go_wp2_with (first
      | (go_at_call 4; refine (f8one a0 _ _ true hr (strs1 _ _ _) w0).mono ?_; rintro e w3 ⟨rfl, hw3⟩; obtain rfl := hw3.symm)
      | (go_at_call 5; refine (hsp _).mono ?_; rintro e w4 ⟨rfl, hb4⟩; have hb5 := bwB (hba _) hb4)
      | (go_at_call 6; refine (hc1 _).mono ?_; clear hc1; rintro e w6 ⟨⟨n6, rfl⟩, hb6⟩; have hb7 := bwB hb5 hb6)
      | (go_at_call 7; refine (hi1 _).mono ?_; clear hi1; rintro e w8 ⟨⟨n8, rfl⟩, hb8⟩; have hb9 := bwB hb7 hb8)
      | (go_at_call 6; refine (hc2 _).mono ?_; clear hc2; rintro e w10 ⟨⟨n10, rfl⟩, hb10⟩; have hb11 := bwB hb9 hb10)
      | (go_at_call 7; refine (hi2 _).mono ?_; clear hi2; rintro e w12 ⟨⟨n12, rfl⟩, hb12⟩; have hb13 := bwB hb11 hb12)
      | (go_at_call 10; refine (htr _).mono ?_; clear htr; rintro e w14 ⟨E, rfl, hE, hEs, hb14⟩; have hEl : (Z ++ E).toList = Y.toList := (by rw [hE.out]); have hb15 := bwB hb13 hb14))
    all_goals go_ret
    first | exact ⟨congrArg (fun b => Ending.returned (.bool b)) hneD, hb15⟩ | exact ⟨rfl, hb15⟩
end
end Go.Proofs.YtjbffgjclnjkoaaDoor
