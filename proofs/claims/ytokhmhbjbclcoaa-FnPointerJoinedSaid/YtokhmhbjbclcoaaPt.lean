/- Pointers: whether one contains another; short lists of pointers; the walk of the law FnPointerOneWay. -/
import Derived.Test.YtokhmhbjbclcoaaUtx
namespace Go.Proofs.Ytokhmhbjbclcoaa
set_option linter.unusedVariables false
set_option linter.unusedSimpArgs false
open Go.RowKit

/-- Is p the beginning of q? -/
def preB (p q : ByteArray) : Bool := decide (p.size ≤ q.size) && ((q.extract 0 p.size).toList == p.toList)
def conB (p q : ByteArray) : Bool := preB p q && (decide (q.size = p.size) || decide (bAt q p.size = 47))

theorem cut_no (p q : ByteArray) (w : World) (hp : p.size ≤ maxLen) (hq : q.size ≤ maxLen) (h : preB p q = false) :
    Calls Try.prog 19 #[.string q, .string p] w fun e w' => e = .returned (.tuple #[.string q, .bool false]) ∧ w' = w := by
  have hp' := hp
  have hq' := hq
  unfold maxLen at hp' hq'
  by_cases h1 : p.size ≤ q.size
  · have h2 : ((q.extract 0 p.size).toList == p.toList) = false := by unfold preB at h; simpa [h1] using h
    clear h
    go_enter Try.func19, Try.ntmps19
    go_wp2
    all_goals go_ret2
    exact ⟨rfl, rfl⟩
  · have hlt : q.size < p.size := by omega
    clear h h1
    go_enter Try.func19, Try.ntmps19
    go_wp2
    all_goals go_ret2
    exact ⟨rfl, rfl⟩
theorem cut_yes (p q t : ByteArray) (w : World) (hp : p.size ≤ maxLen) (hq : q.size ≤ maxLen) (h : preB p q = true) (ht : Hid (q.extract p.size q.size = t)) :
    Calls Try.prog 19 #[.string q, .string p] w fun e w' => e = .returned (.tuple #[.string t, .bool true]) ∧ w' = w := by
  have hp' := hp
  have hq' := hq
  unfold maxLen at hp' hq'
  rw [← ht.out]
  unfold preB at h
  rw [Bool.and_eq_true] at h
  obtain ⟨h1, h2⟩ := h
  have h1' : p.size ≤ q.size := by simpa using h1
  clear h1 ht
  go_enter Try.func19, Try.ntmps19
  go_wp2
  all_goals go_ret2
  exact ⟨rfl, rfl⟩

theorem contains_any (p q : ByteArray) (w : World) (hp : p.size ≤ maxLen) (hq : q.size ≤ maxLen) :
    Calls Try.prog 8 #[.string p, .string q] w fun e w' => e = .returned (.bool (conB p q)) ∧ w' = w := by
  cases h2 : preB p q
  · have E : Hid (conB p q = false) := Lib.hid (by unfold conB; rw [h2]; simp)
    have H2 := Lib.hid h2
    clear h2
    go_enter Try.func8, Try.ntmps8
    go_wp2_with (first | (go_at_call 19; refine (cut_no p q _ hp hq H2.out).mono ?_; rintro e w1 ⟨rfl, rfl⟩) | go_in)
    all_goals go_ret
    exact ⟨by rw [E.out]; first | done | rfl, rfl⟩
  · have h1 : p.size ≤ q.size := by unfold preB at h2; rw [Bool.and_eq_true] at h2; simpa using h2.1
    have E0 : conB p q = (decide (q.size = p.size) || decide (bAt q p.size = 47)) := by unfold conB; rw [h2]; simp
    obtain ⟨t, HT⟩ : ∃ t, Hid (q.extract p.size q.size = t) := ⟨_, Lib.hid rfl⟩
    have hsz : t.size = q.size - p.size := by rw [← HT.out, size_from]
    have hba : bAt t 0 = bAt q p.size := by rw [← HT.out, bAt_from, Nat.add_zero]
    have H2 := Lib.hid h2
    clear h2
    by_cases h3 : q.size = p.size
    · have E : Hid (conB p q = true) := Lib.hid (by rw [E0, h3]; simp)
      have hem : t.toList.isEmpty = true := empty_yes (by omega)
      clear E0 h3 hsz hba
      go_enter Try.func8, Try.ntmps8
      go_wp2_with (first | (go_at_call 19; refine (cut_yes p q t _ hp hq H2.out HT).mono ?_; rintro e w1 ⟨rfl, rfl⟩) | go_in)
      all_goals go_ret
      exact ⟨by rw [E.out]; first | done | rfl, rfl⟩
    · have hpos : 0 < t.size := by omega
      have hem : t.toList.isEmpty = false := empty_no hpos
      have hb := bAt_lt hpos
      rw [hba] at hb
      have HE : Hid (conB p q = ((t[0].toNat : Int) == 47)) := Lib.hid (by rw [E0, hb, decide_eq_false h3, Bool.false_or]; rw [Bool.eq_iff_iff]; simp)
      clear E0 h3 hsz hba hb
      go_enter Try.func8, Try.ntmps8
      go_wp2_with (first | (go_at_call 19; refine (cut_yes p q t _ hp hq H2.out HT).mono ?_; rintro e w1 ⟨rfl, rfl⟩) | go_in)
      all_goals go_ret
      exact ⟨by rw [HE.out]; first | done | rfl, rfl⟩

/-- What the check of a list of pointers tells. -/
def ptrsB (l : List ByteArray) : Bool := l.all fun s => decide (s.size ≤ 4000) && pvB s

theorem pointers10_any (l : List ByteArray) (b : Nat) (w : World) (h : Strs w b l) (hn : l.length ≤ 100) (hl : ∀ s ∈ l, s.size ≤ maxLen) :
    Calls Try.prog 4 #[.slice (some ⟨b, 0, none⟩) l.length l.length] w fun e w' => e = .returned (.bool (ptrsB l)) ∧ w' = w := by
  have hn' : ((l.length : Nat) : Int) ≤ 100 := by omega
  obtain ⟨R, HR⟩ : ∃ R, Hid (ptrsB l = R) := ⟨_, Lib.hid rfl⟩
  have A0 : Aside (ptrsB (l.drop 0) = R) := HR.out
  rw [HR.out]
  have hl' := Lib.hid hl
  clear hl
  have h' := Lib.hid h
  clear h
  go_enter Try.func4, Try.ntmps4
  go_wp2_with fail
  go_loop [7] (fun n => ∃ k : Nat, k ≤ l.length ∧ n = .int .i64 k ∧ Aside (ptrsB (l.drop k) = R)) (fun n => l.length - (intOf n).toNat)
  case atStart => exact ⟨0, Nat.zero_le _, rfl, A0⟩
  case round =>
    obtain ⟨k, hk, rfl, A⟩ := hrel
    by_cases hlt : k < l.length
    · have hc := h'.out k hlt
      have A1 : ptrsB (l.drop k) = R := A
      unfold ptrsB at A1
      rw [List.drop_eq_getElem_cons hlt, List.all_cons] at A1
      have hg : l.getD k ByteArray.empty = l[k] := by simp [List.getD, List.getElem?_eq_getElem hlt]
      rw [hg] at hc
      have hz := hl'.out l[k] (List.getElem_mem hlt)
      generalize hv : l[k] = v at hc A1 hz
      clear hv hg
      have hz' := hz
      unfold maxLen at hz'
      by_cases h4 : v.size ≤ 4000
      · have h4' : (v.size : Int) ≤ 4000 := by omega
        obtain ⟨r, hr⟩ : ∃ r, Hid (pvB v = r) := ⟨_, Lib.hid rfl⟩
        cases r
        · have A2 : Hid (R = false) := Lib.hid (by rw [← A1, hr.out]; simp)
          clear A1 h4 A
          go_wp2_with fail
          refine (pointerIsValid_any v _ hz).mono ?_
          rw [hr.out]
          rintro e w1 ⟨rfl, rfl⟩
          go_wp2_with fail
          go_ret
          rw [A2.out]
          exact ⟨rfl, rfl⟩
        · have A2 : Aside (ptrsB (l.drop (k + 1)) = R) := by
            rw [hr.out] at A1; simp [h4] at A1; simp [Aside, ptrsB, A1]
          clear A1 h4 A
          go_wp2_with fail
          refine (pointerIsValid_any v _ hz).mono ?_
          rw [hr.out]
          rintro e w1 ⟨rfl, rfl⟩
          go_wp2_with fail
          go_round
          case rel => exact ⟨k + 1, by omega, by go_num, A2⟩
          case measure => simp [intOf]; omega
      · have A2 : Hid (R = false) := Lib.hid (by rw [← A1]; simp [h4])
        have h4' : 4000 < (v.size : Int) := by omega
        clear A1 h4 A
        go_wp2_with fail
        go_ret
        rw [A2.out]
        exact ⟨rfl, rfl⟩
    · have A2 : Hid (R = true) := Lib.hid (by
        have A1 : ptrsB (l.drop k) = R := A
        rw [List.drop_eq_nil_of_le (by omega)] at A1
        exact A1.symm)
      clear A
      go_wp2_with fail
      go_ret
      rw [A2.out]
      exact ⟨rfl, rfl⟩

theorem ptrs1 (a : ByteArray) (b : Nat) (w : World) (r : Bool) (hr : Hid (ptrsB [a] = r)) (h : Strs w b [a]) (ha : a.size ≤ maxLen) :
    Calls Try.prog 4 #[.slice (some ⟨b, 0, none⟩) 1 1] w fun e w' => e = .returned (.bool r) ∧ w' = w := by
  have := pointers10_any [a] b w h (by simp) (by simpa using ha)
  rw [hr.out] at this
  exact this
theorem ptrs2 (a c : ByteArray) (b : Nat) (w : World) (r : Bool) (hr : Hid (ptrsB [a, c] = r)) (h : Strs w b [a, c]) (ha : a.size ≤ maxLen) (hc : c.size ≤ maxLen) :
    Calls Try.prog 4 #[.slice (some ⟨b, 0, none⟩) 2 2] w fun e w' => e = .returned (.bool r) ∧ w' = w := by
  have := pointers10_any [a, c] b w h (by simp) (by simpa using ⟨ha, hc⟩)
  rw [hr.out] at this
  exact this
theorem ptrs3 (a c d : ByteArray) (b : Nat) (w : World) (r : Bool) (hr : Hid (ptrsB [a, c, d] = r)) (h : Strs w b [a, c, d]) (ha : a.size ≤ maxLen) (hc : c.size ≤ maxLen) (hd : d.size ≤ maxLen) :
    Calls Try.prog 4 #[.slice (some ⟨b, 0, none⟩) 3 3] w fun e w' => e = .returned (.bool r) ∧ w' = w := by
  have := pointers10_any [a, c, d] b w h (by simp) (by simpa using ⟨ha, hc, hd⟩)
  rw [hr.out] at this
  exact this

theorem con_is (p q : ByteArray) (w : World) (r : Bool) (H : Hid (conB p q = r)) (hp : p.size ≤ maxLen) (hq : q.size ≤ maxLen) :
    Calls Try.prog 8 #[.string p, .string q] w fun e w' => e = .returned (.bool r) ∧ w' = w := by
  have := contains_any p q w hp hq
  rw [H.out] at this
  exact this
theorem con_root (q : ByteArray) (w : World) (hq : q.size ≤ maxLen) (hv : pvB q = true) :
    Calls Try.prog 8 #[.string ⟨#[]⟩, .string q] w fun e w' => e = .returned (.bool true) ∧ w' = w := by
  refine con_is ⟨#[]⟩ q w true (Lib.hid ?_) (Nat.zero_le _) hq
  have h0 : (⟨#[]⟩ : ByteArray).size = 0 := rfl
  have he : (q.extract 0 0).toList = (⟨#[]⟩ : ByteArray).toList := by
    rw [ByteArray.toList_eq, ByteArray.toList_eq]; simp
  unfold conB preB
  rw [h0, he]
  unfold pvB at hv
  simp only [Bool.and_eq_true] at hv
  simpa using hv.1.2

/-- Of two pointers that contain the same one the shorter one contains the longer one. -/
theorem con_chain {p q r : ByteArray} (hpr : conB p r = true) (hqr : conB q r = true) (hle : p.size ≤ q.size) : conB p q = true := by
  unfold conB preB at *
  simp only [Bool.and_eq_true, decide_eq_true_eq, beq_iff_eq, Bool.or_eq_true, ByteArray.toList_eq] at *
  obtain ⟨⟨h1, h2⟩, h3⟩ := hpr
  obtain ⟨⟨h4, h5⟩, h6⟩ := hqr
  have e2 : p = r.extract 0 p.size := (ByteArray.ext (Array.toList_inj.1 h2)).symm
  have e5 : q = r.extract 0 q.size := (ByteArray.ext (Array.toList_inj.1 h5)).symm
  refine ⟨⟨hle, ?_⟩, ?_⟩
  · have : q.extract 0 p.size = p := by
      rw [e5, ByteArray.extract_extract, Nat.zero_add, Nat.zero_add, Nat.min_eq_left hle, ← e2]
    rw [this]
  · by_cases h : q.size = p.size
    · exact .inl h
    · right
      have hlt : p.size < q.size := by omega
      have hltr : p.size < r.size := by omega
      have hb : bAt q p.size = bAt r p.size := by
        rw [bAt_lt hlt, bAt_lt hltr]
        have : q[p.size] = r[p.size] := by
          have hx : ∀ (x : ByteArray), x = r.extract 0 q.size → ∀ (hh : p.size < x.size), x[p.size]'hh = r[p.size] := by
            rintro x rfl hh
            rw [ByteArray.getElem_extract]; simp
          exact hx q e5 hlt
        rw [this]
      rw [hb]
      rcases h3 with h3 | h3
      · omega
      · exact h3

end Go.Proofs.Ytokhmhbjbclcoaa
