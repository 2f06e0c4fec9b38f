/- isValidNumber. -/
import Derived.Test.YtjbffgjclnjkoaaNz
import Derived.Test.YtjbffgjclnjkoaaSb
import Derived.Test.YtjbffgjclnjkoaaSw
namespace Go.Proofs.Ytjbffgjclnjkoaa
set_option linter.unusedVariables false
set_option linter.unusedSimpArgs false
open Go.RowKit Go.Shelf

theorem bl_from {t : ByteArray} (h : 0 < t.size) : bl t = (t[0].toNat : Int) :: bl (t.extract 1 t.size) := by
  have h1 := bl_drop (s := t) (k := 0) h
  rw [List.drop_zero] at h1
  rw [h1]
  congr 1
  unfold bl
  rw [← List.map_drop]
  congr 1
  simp [ByteArray.data_extract]
  rw [List.take_of_length_le (by simp)]
theorem emp_false {t : ByteArray} (h : 0 < t.size) : t.toList.isEmpty = false := by
  cases hb : t.toList.isEmpty with
  | false => rfl
  | true =>
    have h1 : t.toList = [] := by simpa using hb
    have h2 : t.toList.length = t.size := by rw [ByteArray.toList_eq]; simp
    rw [h1] at h2
    simp at h2
    omega
theorem emp_true {t : ByteArray} (h : t.size = 0) : t.toList.isEmpty = true := by
  have h2 : t.toList.length = t.size := by rw [ByteArray.toList_eq]; simp
  rw [h] at h2
  simpa using h2
theorem bl_zero {t : ByteArray} (h : t.size = 0) : bl t = [] := List.eq_nil_of_length_eq_zero (by rw [bl_len]; exact h)
/-- At the end; ahead of a digit; ahead of a lesser byte; of a greater one. -/
theorem vn_cases (t : ByteArray) : ((t.size : Int) = 0 ∧ True ∧ dd (bl t) = bl t) ∨
    (∃ h : 0 < t.size, ((0 : Int) < (t.size : Int)) ∧ ((48 : Int) ≤ (t[0].toNat : Int) ∧ (t[0].toNat : Int) ≤ (57 : Int)) ∧ dd (bl t) = dd (bl (t.extract 1 t.size))) ∨
    (∃ h : 0 < t.size, ((0 : Int) < (t.size : Int)) ∧ (decide ((48 : Int) ≤ (t[0].toNat : Int)) = false ∧ dd (bl t) = bl t)) ∨
    (∃ h : 0 < t.size, ((0 : Int) < (t.size : Int)) ∧ ((48 : Int) ≤ (t[0].toNat : Int) ∧ decide ((t[0].toNat : Int) ≤ (57 : Int)) = false) ∧ dd (bl t) = bl t) := by
  by_cases h : 0 < t.size
  · right
    have hb := bl_from h
    by_cases h1 : (48 : Int) ≤ (t[0].toNat : Int)
    · by_cases h2 : (t[0].toNat : Int) ≤ (57 : Int)
      · exact .inl ⟨h, by omega, ⟨h1, h2⟩, by rw [hb, dd_cons, if_pos (digB_iff.2 ⟨h1, h2⟩)]⟩
      · exact .inr (.inr ⟨h, by omega, ⟨h1, decide_eq_false h2⟩, by rw [hb, dd_cons, if_neg (fun k => h2 (digB_iff.1 k).2)]⟩)
    · exact .inr (.inl ⟨h, by omega, decide_eq_false h1, by rw [hb, dd_cons, if_neg (fun k => h1 (digB_iff.1 k).1)]⟩)
  · exact .inl ⟨by omega, trivial, by rw [bl_zero (by omega)]; rfl⟩

theorem hd2_cases (t : ByteArray) : (t.size ≤ 1 ∧ True) ∨ (∃ h : 1 < t.size, (2 : Int) ≤ (t.size : Int) ∧ True ∧ bl t = (t[0].toNat : Int) :: (t[1].toNat : Int) :: bl (t.extract 2 t.size)) := by
  by_cases h : 1 < t.size
  · refine .inr ⟨h, by omega, trivial, ?_⟩
    have h1 := bl_drop (s := t) (k := 0) (by omega)
    have h2 := bl_drop (s := t) (k := 1) h
    rw [List.drop_zero] at h1
    rw [h1, h2]
    congr 2
    unfold bl
    rw [← List.map_drop]
    congr 1
    simp [ByteArray.data_extract]
    rw [List.take_of_length_le (by simp)]
  · exact .inl ⟨by omega, trivial⟩
theorem fr_short {t : ByteArray} (h : t.size ≤ 1) : frN (bl t) = exN (bl t) := by
  have hl := bl_len t
  match hb : bl t with
  | [] => rfl
  | [c] => rfl
  | c :: d :: r => rw [hb] at hl; simp at hl; omega
theorem ex_short {t : ByteArray} (h : t.size ≤ 1) : exN (bl t) = (bl t).isEmpty := by
  have hl := bl_len t
  match hb : bl t with
  | [] => rfl
  | [c] => rfl
  | c :: d :: r => rw [hb] at hl; simp at hl; omega
def isE (l : List Int) : Bool := l.isEmpty
/-- Behind the e. -/
def exD : List Int → Bool
  | [] => false
  | d :: r => if d = 43 ∨ d = 45 then (if r = [] then false else (dd r).isEmpty) else (dd (d :: r)).isEmpty
theorem exN_D (c d : Int) (r : List Int) : exN (c :: d :: r) = if c = 101 ∨ c = 69 then exD (d :: r) else false := rfl
set_option maxRecDepth 100000 in
set_option maxHeartbeats 4000000 in
theorem isVN_any (s : ByteArray) (hs : s.size ≤ 9000) (w : World) : Calls Try.prog 33 #[.string s] w fun e w' => e = .returned (.bool (isN (bl s))) ∧ w' = w := by
  obtain ⟨R, hR⟩ : ∃ R, isN (bl s) = R := ⟨_, rfl⟩
  rw [hR]
  go_enter Try.func33, Try.ntmps33
  by_cases h1 : 0 < s.size
  case neg =>
    have he := emp_true (t := s) (by omega)
    rw [bl_zero (by omega)] at hR
    subst hR
    go_wp2_with fail
    all_goals go_ret
    exact ⟨rfl, rfl⟩
  have he := emp_false h1
  rw [bl_from h1] at hR
  go_upto_if 7 with fail
  go_cut [0] from 8 to 11 (fun v wx => ∃ t : ByteArray, v = .string t ∧ 0 < t.size ∧ t.size ≤ 9000 ∧ wx = w ∧ Aside (inN (bl t) = R))
  case first =>
    by_cases h45 : (s[0].toNat : Int) = 45
    · have hR' : inN (bl (s.extract 1 s.size)) = R := by rw [← hR, isN, h45]; rfl
      have hx : (s.extract 1 s.size).size = s.size - 1 := by rw [ByteArray.size_extract]; omega
      have h45' : ((s[0].toNat : Int) == 45) = true := by simpa using h45
      by_cases h2 : 0 < (s.extract 1 s.size).size
      · have he2 := emp_false h2
        clear hR
        go_wp2_with fail
        go_meet
        exact ⟨_, rfl, h2, by omega, rfl, hR'⟩
      · have he2 := emp_true (t := s.extract 1 s.size) (by omega)
        rw [bl_zero (t := s.extract 1 s.size) (by omega)] at hR'
        subst hR'
        clear hR
        go_wp2_with fail
        all_goals go_ret
        exact ⟨rfl, rfl⟩
    · have hR' : inN (bl s) = R := by rw [← hR, isN, if_neg h45, bl_from h1]
      have h45' : ((s[0].toNat : Int) == 45) = false := by simpa using h45
      clear hR h45
      go_wp2_with fail
      go_meet
      exact ⟨s, rfl, h1, hs, rfl, hR'⟩
  case rest =>
  clear hR he
  obtain ⟨t1, rfl, h1, hs1, hwc, A1⟩ := hcut
  obtain rfl := hwc.symm
  unfold Aside at A1
  rw [bl_from h1, inN] at A1
  have h1I : (1 : Int) ≤ (t1.size : Int) := by omega
  have hx1 : (t1.extract 1 t1.size).size = t1.size - 1 := by rw [ByteArray.size_extract]; omega
  go_upto_block 0 with fail
  go_cut [0] from 12 to 43 (fun v wx => ∃ t : ByteArray, v = .string t ∧ t.size ≤ 9000 ∧ wx = w ∧ Aside (frN (bl t) = R))
  case first =>
    by_cases h48 : (t1[0].toNat : Int) = 48
    · rw [if_pos h48] at A1
      have h48' : ((t1[0].toNat : Int) == 48) = true := by simpa using h48
      go_wp2_with fail
      go_meet
      exact ⟨_, rfl, by omega, rfl, A1⟩
    · rw [if_neg h48] at A1
      have h48' : ((t1[0].toNat : Int) == 48) = false := by simpa using h48
      by_cases h9 : (49 : Int) ≤ (t1[0].toNat : Int) ∧ (t1[0].toNat : Int) ≤ (57 : Int)
      · rw [if_pos h9] at A1
        have AL0 : Aside (frN (dd (bl (t1.extract 1 t1.size))) = R) := A1
        obtain ⟨h91, h92⟩ := h9
        clear A1 h48
        go_wp2_with fail
        go_loopg [0] (t1.extract 1 t1.size).size (fun g a wr => ∃ t : ByteArray, a = .string t ∧ t.size ≤ g ∧ t.size ≤ 9000 ∧ wr = w ∧ Aside (frN (dd (bl t)) = R))
        case atStart => exact ⟨_, rfl, Nat.le_refl _, by omega, rfl, AL0⟩
        case round =>
          clear AL0
          obtain ⟨t, rfl, hg, hz, rfl, A⟩ := hrel
          unfold Aside at A
          rcases vn_cases t with ⟨h1, h2, h3⟩ | ⟨h1, h2, h3, h4⟩ | ⟨h1, h2, h3⟩ | ⟨h1, h2, h3, h4⟩
          · have A2 : Aside (frN (bl t) = R) := by rw [h3] at A; exact A
            have h5 : decide (0 < t.size) = false := decide_eq_false (by omega)
            have h6 : ¬ 0 < t.size := by omega
            clear A h1 h3
            go_wp2_with fail
            go_meet
            exact ⟨t, rfl, hz, rfl, A2⟩
          · have A2 : Aside (frN (dd (bl (t.extract 1 t.size))) = R) := by rw [h4] at A; exact A
            have hx : (t.extract 1 t.size).size = t.size - 1 := by rw [ByteArray.size_extract]; omega
            obtain ⟨h5, h6⟩ := h3
            clear A h4
            go_wp2_with fail
            go_roundg (gk - 1)
            case measure => omega
            case rel => exact ⟨_, rfl, by omega, by omega, rfl, A2⟩
          · have A2 : Aside (frN (bl t) = R) := by rw [h3.2] at A; exact A
            have h5 := h3.1
            clear A h3
            go_wp2_with fail
            go_meet
            exact ⟨t, rfl, hz, rfl, A2⟩
          · have A2 : Aside (frN (bl t) = R) := by rw [h4] at A; exact A
            obtain ⟨h5, h6⟩ := h3
            clear A h4
            go_wp2_with fail
            go_meet
            exact ⟨t, rfl, hz, rfl, A2⟩
      · rw [if_neg h9] at A1
        subst A1
        by_cases h91 : (49 : Int) ≤ (t1[0].toNat : Int)
        · have h92 : decide ((t1[0].toNat : Int) ≤ (57 : Int)) = false := decide_eq_false (fun k => h9 ⟨h91, k⟩)
          clear h9 h48
          go_wp2_with fail
          all_goals go_ret
          exact ⟨rfl, rfl⟩
        · have h92 : decide ((49 : Int) ≤ (t1[0].toNat : Int)) = false := decide_eq_false h91
          clear h9 h48 h91
          go_wp2_with fail
          all_goals go_ret
          exact ⟨rfl, rfl⟩
  case rest =>
  clear A1 hx1 h1I hs1 h1
  obtain ⟨t2, rfl, hs2, hwc, A2⟩ := hcut
  obtain rfl := hwc.symm
  unfold Aside at A2
  go_upto_region 14 with fail
  go_cut [61] from 44 to 60 (fun v wx => ∃ P : Bool, v = .bool P ∧ wx = w ∧ (if P then (∃ h : 1 < t2.size, (1 : Int) < (t2.size : Int) ∧ exN (dd (bl (t2.extract 2 t2.size))) = R) else exN (bl t2) = R))
  case first =>
    rcases hd2_cases t2 with ⟨h1, h2⟩ | ⟨h1, h2, h3, h4⟩
    · have hR' := h2
      rw [fr_short h1] at A2
      have h3 : decide ((2 : Int) ≤ (t2.size : Int)) = false := decide_eq_false (by omega)
      clear h1 h2 hR'
      go_wp2_with fail
      go_meet
      exact ⟨false, rfl, rfl, A2⟩
    · rw [h4, frN] at A2
      rw [← h4] at A2
      by_cases h46 : (t2[0].toNat : Int) = 46
      · have h46' : ((t2[0].toNat : Int) == 46) = true := by simpa using h46
        by_cases h48 : (48 : Int) ≤ (t2[1].toNat : Int)
        · by_cases h57 : (t2[1].toNat : Int) ≤ (57 : Int)
          · rw [if_pos ⟨h46, digB_iff.2 ⟨h48, h57⟩⟩] at A2
            clear h46 h4
            go_wp2_with fail
            go_meet
            exact ⟨true, rfl, rfl, h1, by omega, A2⟩
          · rw [if_neg (fun k => h57 (digB_iff.1 k.2).2)] at A2
            have h57' : decide ((t2[1].toNat : Int) ≤ (57 : Int)) = false := decide_eq_false h57
            clear h46 h57 h4
            go_wp2_with fail
            go_meet
            exact ⟨false, rfl, rfl, A2⟩
        · rw [if_neg (fun k => h48 (digB_iff.1 k.2).1)] at A2
          have h48' : decide ((48 : Int) ≤ (t2[1].toNat : Int)) = false := decide_eq_false h48
          clear h46 h48 h4
          go_wp2_with fail
          go_meet
          exact ⟨false, rfl, rfl, A2⟩
      · rw [if_neg (fun k => h46 k.1)] at A2
        have h46' : ((t2[0].toNat : Int) == 46) = false := by simpa using h46
        clear h46 h4
        go_wp2_with fail
        go_meet
        exact ⟨false, rfl, rfl, A2⟩
  case rest =>
  clear A2
  obtain ⟨P, rfl, hwc, A2⟩ := hcut
  obtain rfl := hwc.symm
  go_upto_if 61 with fail
  go_cut [0] from 62 to 78 (fun v wx => ∃ t : ByteArray, v = .string t ∧ t.size ≤ 9000 ∧ wx = w ∧ Aside (exN (bl t) = R))
  case first =>
    cases P
    · rw [if_neg (by decide)] at A2
      go_wp2_with fail
      go_meet
      exact ⟨t2, rfl, hs2, rfl, A2⟩
    · rw [if_pos rfl] at A2
      obtain ⟨h1, h1I, A2⟩ := A2
      have AL0 : Aside (exN (dd (bl (t2.extract 2 t2.size))) = R) := A2
      have hx2 : (t2.extract 2 t2.size).size = t2.size - 2 := by rw [ByteArray.size_extract]; omega
      have h2I : (2 : Int) ≤ (t2.size : Int) := by omega
      clear A2
      go_wp2_with fail
      go_loopg [0] (t2.extract 2 t2.size).size (fun g a wr => ∃ t : ByteArray, a = .string t ∧ t.size ≤ g ∧ t.size ≤ 9000 ∧ wr = w ∧ Aside (exN (dd (bl t)) = R))
      case atStart => exact ⟨_, rfl, Nat.le_refl _, by omega, rfl, AL0⟩
      case round =>
        clear AL0
        obtain ⟨t, rfl, hg, hz, rfl, A⟩ := hrel
        unfold Aside at A
        rcases vn_cases t with ⟨h1, h2, h3⟩ | ⟨h1, h2, h3, h4⟩ | ⟨h1, h2, h3⟩ | ⟨h1, h2, h3, h4⟩
        · have A2 : Aside (exN (bl t) = R) := by rw [h3] at A; exact A
          have h5 : decide (0 < t.size) = false := decide_eq_false (by omega)
          have h6 : ¬ 0 < t.size := by omega
          clear A h1 h3
          go_wp2_with fail
          go_meet
          exact ⟨t, rfl, hz, rfl, A2⟩
        · have A2 : Aside (exN (dd (bl (t.extract 1 t.size))) = R) := by rw [h4] at A; exact A
          have hx : (t.extract 1 t.size).size = t.size - 1 := by rw [ByteArray.size_extract]; omega
          obtain ⟨h5, h6⟩ := h3
          clear A h4
          go_wp2_with fail
          go_roundg (gk - 1)
          case measure => omega
          case rel => exact ⟨_, rfl, by omega, by omega, rfl, A2⟩
        · have A2 : Aside (exN (bl t) = R) := by rw [h3.2] at A; exact A
          have h5 := h3.1
          clear A h3
          go_wp2_with fail
          go_meet
          exact ⟨t, rfl, hz, rfl, A2⟩
        · have A2 : Aside (exN (bl t) = R) := by rw [h4] at A; exact A
          obtain ⟨h5, h6⟩ := h3
          clear A h4
          go_wp2_with fail
          go_meet
          exact ⟨t, rfl, hz, rfl, A2⟩
  case rest =>
  clear A2 hs2
  obtain ⟨t3, rfl, hs3, hwc, A3⟩ := hcut
  obtain rfl := hwc.symm
  unfold Aside at A3
  go_upto_region 18 with fail
  go_cut [91] from 79 to 90 (fun v wx => ∃ P : Bool, v = .bool P ∧ wx = w ∧ (if P then (∃ h : 1 < t3.size, (2 : Int) ≤ (t3.size : Int) ∧ exD (bl (t3.extract 1 t3.size)) = R) else isE (bl t3) = R))
  case first =>
    rcases hd2_cases t3 with ⟨h1, h2⟩ | ⟨h1, h2, h3, h4⟩
    · rw [ex_short h1] at A3
      have h3 : decide ((2 : Int) ≤ (t3.size : Int)) = false := decide_eq_false (by omega)
      clear h1 h2
      go_wp2_with fail
      go_meet
      exact ⟨false, rfl, rfl, A3⟩
    · have h5 : bl (t3.extract 1 t3.size) = (t3[1].toNat : Int) :: bl (t3.extract 2 t3.size) := by
        have e := bl_from (t := t3) (by omega)
        rw [e] at h4
        injection h4 with _ h4
      have h6 : (bl t3).isEmpty = false := by rw [h4]; rfl
      rw [h4, exN_D] at A3
      rw [← h5] at A3
      have h2I : (2 : Int) ≤ (t3.size : Int) := by omega
      by_cases hE : (t3[0].toNat : Int) = 101
      · rw [if_pos (.inl hE)] at A3
        have hE' : ((t3[0].toNat : Int) == 101) = true := by simpa using hE
        clear hE h4 h5 h6
        go_wp2_with fail
        go_meet
        exact ⟨true, rfl, rfl, h1, h2I, A3⟩
      · have hE' : ((t3[0].toNat : Int) == 101) = false := by simpa using hE
        by_cases hF : (t3[0].toNat : Int) = 69
        · rw [if_pos (.inr hF)] at A3
          have hF' : ((t3[0].toNat : Int) == 69) = true := by simpa using hF
          clear hE hF h4 h5 h6
          go_wp2_with fail
          go_meet
          exact ⟨true, rfl, rfl, h1, h2I, A3⟩
        · rw [if_neg (fun k => k.elim hE hF)] at A3
          have hF' : ((t3[0].toNat : Int) == 69) = false := by simpa using hF
          rw [← h6] at A3
          clear hE hF h4 h5 h6
          go_wp2_with fail
          go_meet
          exact ⟨false, rfl, rfl, A3⟩
  case rest =>
  clear A3
  obtain ⟨P, rfl, hwc, A3⟩ := hcut
  obtain rfl := hwc.symm
  go_upto_if 91 with fail
  go_cut [0] from 92 to 120 (fun v wx => ∃ t : ByteArray, v = .string t ∧ t.size ≤ 9000 ∧ wx = w ∧ Aside (isE (bl t) = R))
  case first =>
    cases P
    · rw [if_neg (by decide)] at A3
      go_wp2_with fail
      go_meet
      exact ⟨t3, rfl, hs3, rfl, A3⟩
    · rw [if_pos rfl] at A3
      obtain ⟨h1, h2I, A3⟩ := A3
      have hx2 : (t3.extract 1 t3.size).size = t3.size - 1 := by rw [ByteArray.size_extract]; omega
      obtain ⟨t4, ht4⟩ : ∃ t4, t3.extract 1 t3.size = t4 := ⟨_, rfl⟩
      rw [ht4] at A3 hx2
      have h4 : 0 < t4.size := by omega
      have h4I : (1 : Int) ≤ (t4.size : Int) := by omega
      have hs4 : t4.size ≤ 9000 := by omega
      have hx4 : (t4.extract 1 t4.size).size = t4.size - 1 := by rw [ByteArray.size_extract]; omega
      go_upto_region 20 with fail
      clear ht4 hx2 hs3 h1 h2I
      go_cut [101] from 94 to 100 (fun v wx => ∃ P : Bool, v = .bool P ∧ wx = w ∧ (if P then (if bl (t4.extract 1 t4.size) = [] then R = false else isE (dd (bl (t4.extract 1 t4.size))) = R) else isE (dd (bl t4)) = R))
      case first =>
        rw [bl_from h4, exD, ← bl_from h4] at A3
        by_cases hp : (t4[0].toNat : Int) = 43
        · have hp' : ((t4[0].toNat : Int) == 43) = true := by simpa using hp
          rw [if_pos (.inl hp)] at A3
          clear hp
          go_wp2_with fail
          go_meet
          refine ⟨true, rfl, rfl, ?_⟩
          rw [if_pos rfl]
          by_cases hr : bl (t4.extract 1 t4.size) = []
          · rw [if_pos hr] at A3 ⊢
            exact A3.symm
          · rw [if_neg hr] at A3 ⊢
            exact A3
        · have hp' : ((t4[0].toNat : Int) == 43) = false := by simpa using hp
          by_cases hm : (t4[0].toNat : Int) = 45
          · have hm' : ((t4[0].toNat : Int) == 45) = true := by simpa using hm
            rw [if_pos (.inr hm)] at A3
            clear hp hm
            go_wp2_with fail
            go_meet
            refine ⟨true, rfl, rfl, ?_⟩
            rw [if_pos rfl]
            by_cases hr : bl (t4.extract 1 t4.size) = []
            · rw [if_pos hr] at A3 ⊢
              exact A3.symm
            · rw [if_neg hr] at A3 ⊢
              exact A3
          · have hm' : ((t4[0].toNat : Int) == 45) = false := by simpa using hm
            rw [if_neg (fun k => k.elim hp hm)] at A3
            clear hp hm
            go_wp2_with fail
            go_meet
            exact ⟨false, rfl, rfl, A3⟩
      case rest =>
      clear A3
      obtain ⟨P, rfl, hwc, A4⟩ := hcut
      obtain rfl := hwc.symm
      go_upto_if 101 with fail
      go_cut [0] from 102 to 105 (fun v wx => ∃ t : ByteArray, v = .string t ∧ t.size ≤ 9000 ∧ wx = w ∧ Aside (isE (dd (bl t)) = R))
      case first =>
        cases P
        · rw [if_neg (by decide)] at A4
          go_wp2_with fail
          go_meet
          exact ⟨t4, rfl, hs4, rfl, A4⟩
        · rw [if_pos rfl] at A4
          by_cases hr : 0 < (t4.extract 1 t4.size).size
          · rw [bl_from hr, if_neg (by simp), ← bl_from hr] at A4
            have he2 := emp_false hr
            go_wp2_with fail
            go_meet
            exact ⟨_, rfl, by omega, rfl, A4⟩
          · have he2 := emp_true (t := t4.extract 1 t4.size) (by omega)
            rw [bl_zero (t := t4.extract 1 t4.size) (by omega), if_pos rfl] at A4
            subst A4
            go_wp2_with fail
            all_goals go_ret
            exact ⟨rfl, rfl⟩
      case rest =>
      clear A4 hx4 h4I hs4
      obtain ⟨t5, rfl, hs5, hwc, A5⟩ := hcut
      obtain rfl := hwc.symm
      have AL0 : Aside (isE (dd (bl t5)) = R) := A5
      clear A5
      go_wp2_with fail
      go_loopg [0] t5.size (fun g a wr => ∃ t : ByteArray, a = .string t ∧ t.size ≤ g ∧ t.size ≤ 9000 ∧ wr = w ∧ Aside (isE (dd (bl t)) = R))
      case atStart => exact ⟨_, rfl, Nat.le_refl _, by omega, rfl, AL0⟩
      case round =>
        clear AL0
        obtain ⟨t, rfl, hg, hz, rfl, A⟩ := hrel
        unfold Aside at A
        rcases vn_cases t with ⟨h1, h2, h3⟩ | ⟨h1, h2, h3, h4⟩ | ⟨h1, h2, h3⟩ | ⟨h1, h2, h3, h4⟩
        · have A2 : Aside (isE (bl t) = R) := by rw [h3] at A; exact A
          have h5 : decide (0 < t.size) = false := decide_eq_false (by omega)
          have h6 : ¬ 0 < t.size := by omega
          clear A h1 h3
          go_wp2_with fail
          go_meet
          exact ⟨t, rfl, hz, rfl, A2⟩
        · have A2 : Aside (isE (dd (bl (t.extract 1 t.size))) = R) := by rw [h4] at A; exact A
          have hx : (t.extract 1 t.size).size = t.size - 1 := by rw [ByteArray.size_extract]; omega
          obtain ⟨h5, h6⟩ := h3
          clear A h4
          go_wp2_with fail
          go_roundg (gk - 1)
          case measure => omega
          case rel => exact ⟨_, rfl, by omega, by omega, rfl, A2⟩
        · have A2 : Aside (isE (bl t) = R) := by rw [h3.2] at A; exact A
          have h5 := h3.1
          clear A h3
          go_wp2_with fail
          go_meet
          exact ⟨t, rfl, hz, rfl, A2⟩
        · have A2 : Aside (isE (bl t) = R) := by rw [h4] at A; exact A
          obtain ⟨h5, h6⟩ := h3
          clear A h4
          go_wp2_with fail
          go_meet
          exact ⟨t, rfl, hz, rfl, A2⟩
  case rest =>
  obtain ⟨t5, rfl, hs5, hwc, A5⟩ := hcut
  obtain rfl := hwc.symm
  unfold Aside at A5
  by_cases h5 : t5.size = 0
  · have he := emp_true h5
    obtain rfl : true = R := by rw [← A5, bl_zero h5]; rfl
    clear A5
    go_wp2_with fail
    all_goals go_ret
    exact ⟨rfl, rfl⟩
  · have he := emp_false (t := t5) (by omega)
    obtain rfl : false = R := by rw [← A5, bl_from (t := t5) (by omega)]; rfl
    clear A5
    go_wp2_with fail
    all_goals go_ret
    exact ⟨rfl, rfl⟩
end Go.Proofs.Ytjbffgjclnjkoaa
