/- The inner part of a quoted text: the plain law, and the walk of the law FnQuoteInner. -/
import Derived.Test.YtbnnjjilkpdanaaDoorQs
import Derived.Test.YtbnnjjilkpdanaaDoorSt
import Derived.Laws.Strings
namespace Go.Proofs.YtbnnjjilkpdanaaDoor
open Go.RowKit
set_option linter.unusedVariables false

/-- The number of backslashes behind a text, if it has no control character and no bare quotation mark. -/
def chk : List Int → Nat → Option Nat
  | [], n => some n
  | x :: r, n => if x < 32 ∨ (x = 34 ∧ n % 2 = 0) then none else chk r (if x = 92 then n + 1 else 0)
theorem chk_app : ∀ (a b : List Int) (n : Nat), chk (a ++ b) n = (chk a n).bind (chk b)
  | [], b, n => rfl
  | x :: a, b, n => by
    rw [List.cons_append]
    unfold chk
    split
    · rfl
    · exact chk_app a b _
theorem hxD_32 (n : Int) (h0 : 0 ≤ n) (h1 : n < 16) : 48 ≤ hxD n ∧ hxD n ≠ 92 := by unfold hxD; split <;> omega
theorem chk_other {x : Int} (r : List Int) (n : Nat) (h1 : 32 ≤ x) (h2 : x ≠ 34) (h3 : x ≠ 92) : chk (x :: r) n = chk r 0 := by
  rw [chk, if_neg (by omega), if_neg h3]
theorem chk_92 (r : List Int) (n : Nat) : chk (92 :: r) n = chk r (n + 1) := by
  rw [chk, if_neg (by omega), if_pos rfl]
theorem chk_any : ∀ (l : List Int), (∀ x ∈ l, 128 ≤ x) → ∀ n, n % 2 = 0 → ∃ m, m % 2 = 0 ∧ chk l n = some m
  | [], _, n, hn => ⟨n, hn, rfl⟩
  | x :: r, h, n, hn => by
    have hx := h x (by simp)
    rw [chk_other r n (by omega) (by omega) (by omega)]
    exact chk_any r (fun y hy => h y (by simp [hy])) 0 rfl
theorem chk_chunk (s : ByteArray) (k n : Nat) (hk : k < s.size) (hn : n % 2 = 0) : ∃ m, m % 2 = 0 ∧ chk (qC s k) n = some m := by
  have h0 := bAt_nonneg s k
  unfold qC
  split
  · rename_i hX
    generalize bAt s k = X at *
    split
    · rename_i hs
      unfold escA
      split
      · rename_i h
        rw [chk_92]
        rcases h with rfl | rfl
        · refine ⟨0, rfl, ?_⟩
          rw [chk, if_neg (by omega)]; rfl
        · exact ⟨n + 2, by omega, by rw [chk_92]; rfl⟩
      · split
        · exact ⟨0, rfl, by rw [chk_92]; rfl⟩
        · split
          · exact ⟨0, rfl, by rw [chk_92]; rfl⟩
          · split
            · exact ⟨0, rfl, by rw [chk_92]; rfl⟩
            · split
              · exact ⟨0, rfl, by rw [chk_92]; rfl⟩
              · split
                · exact ⟨0, rfl, by rw [chk_92]; rfl⟩
                · refine ⟨0, rfl, ?_⟩
                  have a1 := hxD_32 (X / 4096 % 16) (by omega) (by omega)
                  have a2 := hxD_32 (X / 256 % 16) (by omega) (by omega)
                  have a3 := hxD_32 (X / 16 % 16) (by omega) (by omega)
                  have a4 := hxD_32 (X % 16) (by omega) (by omega)
                  unfold unitT
                  rw [chk_92, chk_other _ _ (by omega) (by omega) (by omega), chk_other _ _ (by omega) (by omega) a1.2, chk_other _ _ (by omega) (by omega) a2.2, chk_other _ _ (by omega) (by omega) a3.2, chk_other _ _ (by omega) (by omega) a4.2]
                  rfl
    · rename_i hs
      exact ⟨0, rfl, by rw [chk_other _ _ (by omega) (by omega) (by omega)]; rfl⟩
  · rename_i hX
    split
    · exact ⟨0, rfl, by rw [chk_other _ _ (by omega) (by omega) (by omega), chk_other _ _ (by omega) (by omega) (by omega), chk_other _ _ (by omega) (by omega) (by omega)]; rfl⟩
    · rename_i hu
      refine chk_any _ ?_ n hn
      intro x hx
      obtain ⟨t, ht, rfl⟩ := List.mem_map.1 hx
      have ht' : t < stepN s k := by have := List.mem_range.1 ht; omega
      by_cases h : t = 0
      · subst h; rw [Nat.add_zero]; omega
      · have hi := uw_inner s k hu (k + t) (by omega) (by unfold stepN at ht'; rw [if_neg hu] at ht'; omega)
        have := bN_eq s (k + t)
        omega
theorem chk_qO (s : ByteArray) : ∀ (g k n : Nat), n % 2 = 0 → ∃ m, m % 2 = 0 ∧ chk (qO s g k) n = some m
  | 0, k, n, hn => ⟨n, hn, rfl⟩
  | g + 1, k, n, hn => by
    unfold qO
    split
    · rename_i hk
      obtain ⟨m1, hm1, h1⟩ := chk_chunk s k n hk hn
      obtain ⟨m2, hm2, h2⟩ := chk_qO s g (k + stepN s k) m1 hm1
      exact ⟨m2, hm2, by rw [chk_app, h1]; exact h2⟩
    · exact ⟨n, hn, rfl⟩

theorem bAt_bl {t : ByteArray} {L : List Int} (h : bl t = L) (k : Nat) (hk : k < L.length) : bAt t k = L[k] := by
  subst h
  have hk' := hk
  rw [bl_len] at hk'
  rw [bAt_lt hk']
  apply Option.some.inj
  rw [← List.getElem?_eq_getElem hk]
  unfold bl
  rw [List.getElem?_map, List.getElem?_eq_getElem (by simpa using hk')]
  rfl

/-- One byte of the inner part. -/
theorem qi_step {t : ByteArray} {M : List Int} {k n m : Nat} (ht : bl t = 34 :: (M ++ [34])) (hk1 : 1 ≤ k) (hk2 : k + 1 < t.size) (A : Aside (chk (M.drop (k - 1)) n = some m)) :
    32 ≤ bAt t k ∧ ¬ (bAt t k = 34 ∧ n % 2 = 0) ∧ (bAt t k = 92 → Aside (chk (M.drop (k + 1 - 1)) (n + 1) = some m)) ∧ (bAt t k ≠ 92 → Aside (chk (M.drop (k + 1 - 1)) 0 = some m)) := by
  have hz : t.size = M.length + 2 := by rw [← bl_len, ht]; simp
  obtain ⟨j, rfl⟩ : ∃ j, k = j + 1 := ⟨k - 1, by omega⟩
  have hj : j < M.length := by omega
  have hb : bAt t (j + 1) = M[j] := by
    rw [bAt_bl ht (j + 1) (by simp; omega)]
    simp [List.getElem_append_left hj]
  have A' : chk (M.drop j) n = some m := A
  rw [List.drop_eq_getElem_cons hj, ← hb, chk] at A'
  split at A'
  · cases A'
  · rename_i h
    refine ⟨by omega, by omega, fun h92 => ?_, fun h92 => ?_⟩
    · rw [if_pos h92] at A'; exact A'
    · rw [if_neg h92] at A'; exact A'

set_option maxRecDepth 100000 in
set_option maxHeartbeats 2000000 in
theorem walk_FnQuoteInner (a0 : ByteArray) (w0 : a0.size ≤ maxLen) (w : World) (hT : TabsB w.heap.size w) (hE : EscB w.heap.size w) (hI : InvB w.heap.size w) :
    Calls Tryd.prog 7 #[.string a0] w fun e w' => e = .returned (.bool true) ∧ Below w.heap.size w w' := by
  have hs := w0
  unfold maxLen at hs
  by_cases hz : 2147483647 < (a0.size : Int)
  · go_enter Tryd.func7, Tryd.ntmps7
    go_wp2_with fail
    all_goals go_ret
    exact ⟨rfl, Below.refl _ _⟩
  · obtain ⟨r, hr⟩ : ∃ r, Hid (decide (a0.size ≤ 1000) = r) := ⟨_, Lib.hid rfl⟩
    cases r
    · go_enter Tryd.func7, Tryd.ntmps7
      go_wp2_with fail
      refine (f8one a0 _ _ _ hr (strs1 _ _ _) w0).mono ?_
      rintro e w1 ⟨rfl, rfl⟩
      go_wp2_with fail
      all_goals go_ret
      exact ⟨rfl, (Below.refl _ _).alloc (Nat.le_refl _) _⟩
    · have hsz : a0.size ≤ 1000 := by simpa using hr.out
      have hba : Below w.heap.size w (w.alloc (.cells #[.string a0] 9)) := (Below.refl _ _).alloc (Nat.le_refl _) _
      have hl : (w.alloc (.cells #[.string a0] 9)).heap.size = w.heap.size + 1 := by simp
      have up : ∀ {B B' : Nat} {x : World}, TabsB B x → B ≤ B' → TabsB B' x := fun h k => ⟨h.1, by have := h.2; omega⟩
      have hq := implQuote ⟨#[]⟩ a0 (w.alloc (.cells #[.string a0] 9)) (by simp [ByteArray.size]) (by omega)
        (by have := hT.below hba; exact ⟨this.1, by have := this.2; omega⟩) (by have := hE.below hba; exact ⟨by have := this.1; omega, this.2⟩) (by have := hI.below hba; exact ⟨by have := this.1; omega, this.2⟩)
      obtain ⟨M, hM⟩ : ∃ M, M = qO a0 a0.size 0 := ⟨_, rfl⟩
      obtain ⟨m, hm, hc⟩ := chk_qO a0 a0.size 0 0 rfl
      rw [← hM] at hc
      have hQ : quoted ⟨#[]⟩ a0 = txt (34 :: (M ++ [34])) := by unfold quoted; rw [hM]; rfl
      have h8 : By8 (34 :: (M ++ [34])) := by
        have h1 : By8 [34] := by intro x hx; simp at hx; omega
        exact By8.app (l := [34]) h1 (By8.app (by rw [hM]; exact qO_by _ _ _) h1)
      obtain ⟨t, hT'⟩ : ∃ t, Hid (quoted ⟨#[]⟩ a0 = t) := ⟨_, Lib.hid rfl⟩
      have ht : bl t = 34 :: (M ++ [34]) := by rw [← hT'.out, hQ, bl_txt h8]
      rw [hT'.out] at hq
      have hz2 : t.size = M.length + 2 := by rw [← bl_len, ht]; simp
      have hML : M.length ≤ 6000 := by have := qO_len a0 a0.size 0; rw [← hM] at this; omega
      have hb0 : bAt t 0 = 34 := by rw [bAt_bl ht 0 (by simp)]; rfl
      have hbl : bAt t (t.size - 1) = 34 := by
        rw [bAt_bl ht (t.size - 1) (by simp; omega)]
        simp [hz2]
      have hp0 : 0 < t.size := by omega
      have h00 : (t[0].toNat : Int) = 34 := by rw [← bAt_lt hp0]; exact hb0
      have hts : 2 ≤ t.size ∧ t.size ≤ 6002 := by omega
      have hlp : t.size - 1 < t.size := by omega
      have hl34 : ((t[t.size - 1].toNat : Int) != 34) = false := by rw [bAt_lt hlp] at hbl; rw [hbl]; decide
      have hd2 : decide ((t.size : Int) < 2) = false := by simp; omega
      have HZ2 := Lib.hid hz2
      have HM := Lib.hid hM
      clear hb0 hz2 hM hQ hbl
      go_enter Tryd.func7, Tryd.ntmps7
      go_wp2_with fail
      refine (f8one a0 _ _ _ hr (strs1 _ _ _) w0).mono ?_
      rintro e w1 ⟨rfl, rfl⟩
      go_wp2_with fail
      refine hq.mono ?_
      rintro e w3 ⟨rfl, hb3⟩
      go_wp2_with fail
      have hA0 : Aside (chk (M.drop (1 - 1)) 0 = some m) := hc
      clear hr hq
      have hbw : Below w.heap.size w w3 := hba.trans (Below.mono hb3 (by omega))
      go_loopg [5, 6] t.size (fun g sl i wr => ∃ k n : Nat, i = .int .i64 k ∧ sl = .int .i64 n ∧ n ≤ k ∧ 1 ≤ k ∧ k + 1 ≤ t.size ∧ t.size - k ≤ g ∧ Below w.heap.size w wr ∧ Aside (chk (M.drop (k - 1)) n = some m))
      case atStart => exact ⟨1, 0, rfl, rfl, by omega, by omega, by omega, by omega, hbw, hA0⟩
      case round =>
        clear hA0 hbw hb3
        obtain ⟨k, n, rfl, rfl, hnk, hk1, hk2, hg, hbw, A⟩ := hrel
        by_cases hlt : k + 1 < t.size
        · obtain ⟨q1, q2, q3, q4⟩ := qi_step ht hk1 hlt A
          have hkt : k < t.size := by omega
          rw [bAt_lt hkt] at q1 q2 q3 q4
          have hlt2 : (k : Int) < (t.size : Int) - 1 := by omega
          have Q3 := Lib.hid q3
          have Q4 := Lib.hid q4
          have Q2 := Lib.hid q2
          clear q2 q3 q4 A
          go_wp2
          · exfalso
            have h1 : (t[k].toNat : Int) = 34 := by assumption
            have h2 : ((n : Int) % 2 == 0) = true := by assumption
            simp at h2
            exact Q2.out ⟨h1, by omega⟩
          · have h1 : (t[k].toNat : Int) = 34 := by assumption
            go_roundg (gk - 1)
            case measure => omega
            case rel => exact ⟨k + 1, 0, by go_num, rfl, by omega, by omega, by omega, by omega, hbw, Q4.out (by omega)⟩
          · have h1 : ((t[k].toNat : Int) == 92) = true := by assumption
            go_roundg (gk - 1)
            case measure => omega
            case rel => exact ⟨k + 1, n + 1, by go_num, by go_num, by omega, by omega, by omega, by omega, hbw, Q3.out (by simpa using h1)⟩
          · have h1 : ((t[k].toNat : Int) == 92) = false := by assumption
            go_roundg (gk - 1)
            case measure => omega
            case rel => exact ⟨k + 1, 0, by go_num, rfl, by omega, by omega, by omega, by omega, hbw, Q4.out (by simpa using h1)⟩
        · have hn0 : n % 2 = 0 := by
            have A' : chk (M.drop (k - 1)) n = some m := A
            rw [List.drop_eq_nil_of_le (by have := HZ2.out; omega)] at A'
            have : n = m := by simpa [chk] using A'
            omega
          have hlt2 : ¬ (k : Int) < (t.size : Int) - 1 := by omega
          have hn2 : ((n : Int) % 2 == 0) = true := by simp; omega
          clear A hn0
          go_wp2
          all_goals go_ret
          exact ⟨rfl, hbw⟩
end Go.Proofs.YtbnnjjilkpdanaaDoor
