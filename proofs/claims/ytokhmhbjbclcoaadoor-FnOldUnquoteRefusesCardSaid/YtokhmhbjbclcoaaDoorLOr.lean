/- The law of what unquoting by the elder package refuses: the walk. -/
import Derived.Test.YtokhmhbjbclcoaaDoorUo
import Derived.Test.YtokhmhbjbclcoaaDoorSt
import Derived.Test.YtokhmhbjbclcoaaDoorWt
namespace Go.Proofs.YtokhmhbjbclcoaaDoor
set_option linter.unusedVariables false
set_option linter.unusedSimpArgs false
open Go.RowKit

theorem oldRules_any (w : World) : Calls Tryd.prog 14 #[] w fun e w' => e = .returned (.agg #[.bool true, .bool true]) ∧ Below w.heap.size w w' := by
  go_enter Tryd.func14, Tryd.ntmps14
  go_wp2
  have h := heap_alloc_new w (.cells #[.bool true, .bool true] 32)
  have c0 : (w.alloc (.cells #[.bool true, .bool true] 32)).cell? ⟨w.heap.size, 0, none⟩ = some (.bool true) := by simp only [World.cell?, h]; rfl
  have c1 : (w.alloc (.cells #[.bool true, .bool true] 32)).cell? ⟨w.heap.size, 1, none⟩ = some (.bool true) := by simp only [World.cell?, h]; rfl
  clear h
  refine bodyPost_ret (v := .agg #[.bool true, .bool true]) (by simp [results, Tryd.results14, go_sem, c0, c1]; try rfl) rfl ?_
  exact ⟨rfl, (Below.refl _ _).alloc (Nat.le_refl _) _⟩
theorem inner_bytes (s : ByteArray) {w : World} {b : Nat} (h : Lib.Bytes w b 0 s) (h2 : 2 ≤ s.size) :
    ((s.extract 1 (s.size - 1)).size + 2 = s.size ∧ Lib.Bytes w b 1 (s.extract 1 (s.size - 1))) ∧ ∀ i, i < (s.extract 1 (s.size - 1)).size → bAt (s.extract 1 (s.size - 1)) i = bAt s (i + 1) := by
  have hz : (s.extract 1 (s.size - 1)).size = s.size - 2 := by rw [ByteArray.size_extract]; omega
  refine ⟨⟨by omega, fun i hi => ?_⟩, fun i hi => ?_⟩
  · rw [hz] at hi
    have := h (1 + i) (by omega)
    rw [Nat.zero_add] at this
    rw [this, ByteArray.getElem_extract]
  · rw [hz] at hi
    rw [bAt_lt (by rw [hz]; exact hi), bAt_lt (s := s) (i := i + 1) (by omega), ByteArray.getElem_extract]
    congr 2
    simp [Nat.add_comm]

set_option maxRecDepth 100000 in
set_option maxHeartbeats 1000000 in
/-- What OldUnquote says of a text, if no apostrophe stands behind a backslash in it. -/
theorem oldUnq_any (s : ByteArray) (w : World) (hs : s.size ≤ 100000) (hT : TabsB w.heap.size w) (hap : ∀ i, bAt s i = 92 → bAt s (i + 1) ≠ 39) :
    Calls Tryd.prog 16 #[.string s] w fun e w' => (∃ (t : ByteArray) (ok : Bool), e = .returned (.tuple #[.string t, .bool ok]) ∧ (ok = true → bAt s 0 = 34 ∧ bAt s (s.size - 1) = 34 ∧ (psQ s true).fault = 0) ∧ (s.size = 2 → bAt s 0 = 34 → bAt s 1 = 34 → ok = true)) ∧ Below w.heap.size w w' := by
  obtain ⟨cap, w1, hc, C⟩ := cnvB s (by unfold maxLen; omega) w
  have hsz := C.size
  have hT1 := hT.below C.below
  have hin := fun h2 => inner_bytes s C.bytes h2
  have hT2 : TabsB w1.heap.size w1 := ⟨hT1.1, by have := hT1.2; omega⟩
  have hq := uqb_any s (s.extract 1 (s.size - 1)) w.heap.size cap w1 C.bytes (by omega) (fun h => (hin h).1) hs C.cap_ge C.cap_le hT2 (fun i hi => by
    have h1 : i < (s.extract 1 (s.size - 1)).size := bAt_in (by omega)
    have h2 : 2 ≤ s.size := by rw [ByteArray.size_extract] at h1; omega
    have e1 := (hin h2).2 i h1
    by_cases h3 : i + 1 < (s.extract 1 (s.size - 1)).size
    · rw [(hin h2).2 (i + 1) h3]
      exact hap (i + 1) (by rw [← e1]; exact hi)
    · rw [bAt_ge h3]; decide) s.size rfl
  have hok : ∀ ok : Bool, (ok = true → 2 ≤ s.size ∧ bAt s 0 = 34 ∧ bAt s (s.size - 1) = 34 ∧ Lo (s.extract 1 (s.size - 1)) 0 (s.extract 1 (s.size - 1)).size) → (ok = true → bAt s 0 = 34 ∧ bAt s (s.size - 1) = 34 ∧ (psQ s true).fault = 0) := fun ok h h1 => by
    obtain ⟨h2, h3, h4, h5⟩ := h h1
    have h6 := (hin h2).1.1
    have h7 := h5.shift (s := s) (k := 1) (hin h2).2
    rw [show (s.extract 1 (s.size - 1)).size + 1 = s.size - 1 by omega] at h7
    exact ⟨h3, h4, lo_taken h2 h3 h4 h7⟩
  have HOK := Lib.hid hok
  have hbl := C.below
  clear hok hin hT1 hT2 hT C hap hs
  go_enter Tryd.func16, Tryd.ntmps16
  go_wp2_with (first
    | (go_at_call 57; refine hq.mono ?_; rintro e w3 ⟨⟨v, ok, t, rfl, hcv, h1, h2⟩, hb3⟩; have hb4 := hbl.trans (hb3.mono (by omega)); have H1 := Lib.hid h1; have H2 := Lib.hid h2; clear h1 h2)
    | (go_at_call 27; go_in)
    | (go_at_call 41; go_in))
  all_goals go_ret2
  exact ⟨⟨_, _, rfl, HOK.out _ H1.out, H2.out⟩, hb4⟩

/-- Is a text taken loosely, from quotation mark to quotation mark? -/
def Gq (s : ByteArray) : Prop := bAt s 0 = 34 ∧ bAt s (s.size - 1) = 34 ∧ (psQ s true).fault = 0
set_option maxRecDepth 100000 in
set_option maxHeartbeats 4000000 in
theorem walk_FnOldUnquoteRefuses (a0 : ByteArray) (w0 : a0.size ≤ maxLen) (w : World) (hT : TabsB w.heap.size w) :
    Calls Tryd.prog 4 #[.string a0] w fun e w' => e = .returned (.bool true) ∧ Below w.heap.size w w' := by
  have hs0 := w0
  unfold maxLen at hs0
  by_cases hz : 2147483647 < (a0.size : Int)
  · go_enter Tryd.func4, Tryd.ntmps4
    go_wp2_with fail
    all_goals go_ret
    exact ⟨rfl, Below.refl _ _⟩
  have z0 : (a0.size : Int) ≤ 2147483647 := by omega
  clear hz
  have bw : ∀ {u v : World}, Below w.heap.size w u → Below u.heap.size u v → Below w.heap.size w v := fun h k => h.trans (k.mono h.size)
  have tk : ∀ w' : World, Calls Tryd.prog 13 #[.string a0, .agg #[.bool true, .bool true]] w' fun e w'' => (∃ t o, e = .returned (.tuple #[.bool t, .bool o]) ∧ (t = false → ¬ Gq a0) ∧ (t = true → a0.size ≠ 0)) ∧ Below w'.heap.size w' w'' := fun w' => by
    by_cases h34 : bAt a0 0 = 34
    · have hne : a0.size ≠ 0 := fun h => by rw [bAt_ge (by omega)] at h34; cases h34
      exact (taken_q a0 true true w' w0 h34).mono fun e w'' h => ⟨⟨_, _, h.1, fun h2 h3 => by simp at h2; exact h2 h3.2.2, fun _ => hne⟩, h.2⟩
    · exact (taken_wk (fun _ => True) a0 true true w' (by omega) (fun _ _ _ => trivial) (fun h => by cases h)).mono fun e w'' ⟨⟨t, o, h1, h2⟩, h3⟩ => ⟨⟨t, o, h1, fun _ h => h34 h.1, fun ht h => by rw [h2 h] at ht; cases ht⟩, h3⟩
  obtain ⟨r, hr⟩ : ∃ r, Hid (decide (a0.size ≤ 1000) = r) := ⟨_, Lib.hid rfl⟩
  have fit : ∀ w' : World, Calls Tryd.prog 15 #[.slice (some ⟨w'.heap.size, 0, none⟩) 1 1] (w'.alloc (.cells #[.string a0] 9)) fun e w'' => e = .returned (.bool r) ∧ w'' = w'.alloc (.cells #[.string a0] 9) := fun w' => f8one a0 _ _ r hr (strs1 _ _ _) w0
  go_enter Tryd.func4, Tryd.ntmps4
  go_upto_region 4 with (first
    | (go_at_call 14; refine (oldRules_any _).mono ?_; rintro e w3 ⟨rfl, hb3⟩)
    | (go_at_call 13; refine (tk _).mono ?_; rintro e w4 ⟨⟨t, o, rfl, ht1, ht2⟩, hb4⟩; have hb5 := bw hb3 hb4))
  have hb6 : Below w.heap.size w (w4.alloc (.cells #[.string a0] 9)) := hb5.alloc hb5.size _
  have HT1 := Lib.hid ht1
  have HT2 := Lib.hid ht2
  clear ht1 ht2 tk hb3 hb4
  go_cut [38] from 13 to 37 (fun v wx => ∃ d : Bool, v = .bool d ∧ (d = false → r = true ∧ ¬ Gq a0) ∧ Below w.heap.size w wx)
  case first =>
    cases r
    case false =>
      go_wp2_with (go_at_call 15; refine (fit _).mono ?_; rintro e wc ⟨rfl, rfl⟩)
      go_meet
      exact ⟨true, rfl, fun h => (by cases h), hb6⟩
    case true =>
      cases t
      case false =>
        have hn := Lib.hid (HT1.out rfl)
        go_wp2_with (go_at_call 15; refine (fit _).mono ?_; rintro e wc ⟨rfl, rfl⟩)
        go_meet
        exact ⟨false, rfl, fun _ => ⟨by trivial, hn.out⟩, hb6⟩
      case true =>
        have hne := HT2.out rfl
        have hpos : 0 < a0.size := by omega
        have hposI : (0 : Int) < (a0.size : Int) := by omega
        have b0 := Lib.hid (bAt_lt hpos)
        have b1 := Lib.hid (bAt_lt (s := a0) (i := a0.size - 1) (by omega))
        clear hne
        by_cases e0 : ((a0[0].toNat : Nat) : Int) = 34
        · by_cases e1 : ((a0[a0.size - 1].toNat : Nat) : Int) = 34
          · go_wp2_with (go_at_call 15; refine (fit _).mono ?_; rintro e wc ⟨rfl, rfl⟩)
            go_meet
            exact ⟨true, rfl, fun h => (by cases h), hb6⟩
          · have e1' : (((a0[a0.size - 1].toNat : Nat) : Int) == 34) = false := by simpa using e1
            have hn := Lib.hid (show ¬ Gq a0 from fun h => e1 (by rw [← b1.out]; exact h.2.1))
            clear e1
            go_wp2_with (go_at_call 15; refine (fit _).mono ?_; rintro e wc ⟨rfl, rfl⟩)
            go_meet
            exact ⟨false, rfl, fun _ => ⟨by trivial, hn.out⟩, hb6⟩
        · have e0' : (((a0[0].toNat : Nat) : Int) == 34) = false := by simpa using e0
          have hn := Lib.hid (show ¬ Gq a0 from fun h => e0 (by rw [← b0.out]; exact h.1))
          clear e0
          go_wp2_with (go_at_call 15; refine (fit _).mono ?_; rintro e wc ⟨rfl, rfl⟩)
          go_meet
          exact ⟨false, rfl, fun _ => ⟨by trivial, hn.out⟩, hb6⟩
  case rest =>
  obtain ⟨d, rfl, hd, hbw⟩ := hcut
  cases d
  case true =>
    go_wp2_with fail
    all_goals go_ret
    exact ⟨rfl, hbw⟩
  obtain ⟨hr1, hG⟩ := hd rfl
  have hsz : a0.size ≤ 1000 := by have := hr.out; rw [hr1] at this; simpa using this
  have HG := Lib.hid hG
  clear hG hd hr1 hr fit HT1 HT2
  go_wp2_with fail
  go_loopg [41] a0.size (fun g i wr => ∃ k : Nat, i = .int .i64 k ∧ k ≤ a0.size ∧ a0.size - k ≤ g ∧ Hid (∀ j, j + 1 < k → bAt a0 j = 92 → bAt a0 (j + 1) ≠ 39) ∧ wr = wc)
  case atStart => exact ⟨0, rfl, Nat.zero_le _, by omega, Lib.hid (fun j hj => by omega), rfl⟩
  case round =>
    obtain ⟨k, rfl, hk, hg, HA, rfl⟩ := hrel
    by_cases hlt : k < a0.size
    case neg =>
      obtain rfl : k = a0.size := by omega
      have hap : ∀ i, bAt a0 i = 92 → bAt a0 (i + 1) ≠ 39 := fun i hi => by
        by_cases h : i + 1 < a0.size
        · exact HA.out i h hi
        · rw [bAt_ge h]; decide
      have hq1 := fun (w' : World) hT' => oldUnq_any a0 w' (by omega) hT' hap
      have hq2 := fun (w' : World) hT' => oldUnq_any ⟨#[34, 34]⟩ w' (by decide) hT' (fun i hi => by
        have : i < 2 := bAt_in (s := ⟨#[34, 34]⟩) (by omega)
        have h2 : i = 0 ∨ i = 1 := by omega
        rcases h2 with rfl | rfl <;> exact absurd hi (by decide))
      have h22 : Hid (∀ ok : Bool, ((⟨#[34, 34]⟩ : ByteArray).size = 2 → bAt ⟨#[34, 34]⟩ 0 = 34 → bAt ⟨#[34, 34]⟩ 1 = 34 → ok = true) → ok = true) := Lib.hid (fun ok h => h rfl (by decide) (by decide))
      have upT : ∀ {x : World}, Below w.heap.size w x → TabsB x.heap.size x := fun h => ⟨(hT.below h).1, by have := hT.2; have := h.size; omega⟩
      have hT1 := upT hbw
      clear hap HA hT
      go_upto_region 13 with (go_at_call 16; refine (hq1 _ hT1).mono ?_; rintro e w5 ⟨⟨t5, ok, rfl, hok, _⟩, hb5⟩; have hb6 := bw hbw hb5)
      have hokf : ok = false := by
        cases ok
        · rfl
        · exact absurd (hok rfl) HG.out
      subst hokf
      have hT2 := upT hb6
      clear hok
      go_wp2_with (go_at_call 16; refine (hq2 _ hT2).mono ?_; rintro e w6 ⟨⟨t6, ok, rfl, _, hok2⟩, hb7⟩; have hb8 := bw hb6 hb7; obtain rfl := h22.out _ hok2; clear hok2)
      all_goals go_ret
      exact ⟨rfl, hb8⟩
    have hkI : (k : Int) < (a0.size : Int) := by omega
    by_cases hk0 : k = 0
    · subst hk0
      go_wp2_with fail
      go_roundg (gk - 1)
      case measure => omega
      case rel => exact ⟨1, by go_num, by omega, by omega, Lib.hid (fun j hj => by omega), rfl⟩
    obtain ⟨j, rfl⟩ : ∃ j, k = j + 1 := ⟨k - 1, by omega⟩
    have b1 := Lib.hid (bAt_lt hlt)
    have b0 := Lib.hid (bAt_lt (s := a0) (i := j) (by omega))
    have hjl : j < a0.size := by omega
    have hj0 : (0 : Int) ≤ (j : Int) := by omega
    clear hk0
    by_cases e1 : ((a0[j + 1].toNat : Nat) : Int) = 39
    · by_cases e0 : ((a0[j].toNat : Nat) : Int) = 92
      · go_wp2_with fail
        all_goals go_ret
        exact ⟨rfl, hbw⟩
      · have e0' : (((a0[j].toNat : Nat) : Int) == 92) = false := by simpa using e0
        have HA2 := Lib.hid (show ∀ i, i + 1 < j + 1 + 1 → bAt a0 i = 92 → bAt a0 (i + 1) ≠ 39 from fun i hi h => by
          by_cases e : i = j
          · subst e; exact absurd (by rw [← b0.out]; exact h) e0
          · exact HA.out i (by omega) h)
        clear e0
        go_wp2_with fail
        go_roundg (gk - 1)
        case measure => omega
        case rel => exact ⟨j + 1 + 1, by go_num, by omega, by omega, HA2, rfl⟩
    · have e1' : (((a0[j + 1].toNat : Nat) : Int) == 39) = false := by simpa using e1
      have HA2 := Lib.hid (show ∀ i, i + 1 < j + 1 + 1 → bAt a0 i = 92 → bAt a0 (i + 1) ≠ 39 from fun i hi h => by
        by_cases e : i = j
        · subst e; rw [b1.out]; exact e1
        · exact HA.out i (by omega) h)
      clear e1
      go_wp2_with fail
      go_roundg (gk - 1)
      case measure => omega
      case rel => exact ⟨j + 1 + 1, by go_num, by omega, by omega, HA2, rfl⟩
end Go.Proofs.YtokhmhbjbclcoaaDoor
