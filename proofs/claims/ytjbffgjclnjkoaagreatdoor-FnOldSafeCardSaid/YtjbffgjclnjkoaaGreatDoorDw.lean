/- Joined texts: Dd, Od, Dn. -/
import Derived.Test.YtjbffgjclnjkoaaGreatDoorKw
import Derived.Test.YtjbffgjclnjkoaaGreatDoorWk
import Derived.Laws.BitsLemmas
import Derived.OwnWalk
import Derived.Deep.DeepCutAuto
import Derived.Test.YtjbffgjclnjkoaaGreatDoorWn
import Derived.Test.YtjbffgjclnjkoaaGreatDoorSp
import Derived.Test.YtjbffgjclnjkoaaGreatDoorWm
namespace Go.Proofs.YtjbffgjclnjkoaaGreatDoor
set_option linter.unusedVariables false
set_option linter.unusedSimpArgs false
section
/- (Dd) Decode of the reference. Lines of XDe, XUp, XUs, XUx, XAr by program (gendd.py). -/
open Go.RowKit

def surB (r : Int) : Bool := decide (55296 ≤ r) && decide (r < 57344)
/-- Four digits from a place on: their number; are they digits? -/
def hexPre (s : ByteArray) (i : Nat) : Nat → Int
  | 0 => 0
  | k + 1 => 16 * hexPre s i k + hexV (bAt s (i + k))
def hexAll (s : ByteArray) (i : Nat) : Nat → Bool
  | 0 => true
  | k + 1 => hexAll s i k && decide (0 ≤ hexV (bAt s (i + k)))
theorem hexV_bd (c : Int) : -1 ≤ hexV c ∧ hexV c ≤ 15 := by
  unfold hexV
  repeat' split
  all_goals omega
theorem hexPre_bd (s : ByteArray) (i : Nat) : ∀ k, hexAll s i k = true → 0 ≤ hexPre s i k ∧ hexPre s i k < 16 ^ k
  | 0, _ => by simp [hexPre]
  | k + 1, h => by
    unfold hexAll at h
    rw [Bool.and_eq_true, decide_eq_true_eq] at h
    have h1 := hexPre_bd s i k h.1
    have h2 := hexV_bd (bAt s (i + k))
    unfold hexPre
    rw [Int.pow_succ]
    omega
theorem hexAll_le {s : ByteArray} {i : Nat} {k m : Nat} (h : hexAll s i m = true) (hk : k ≤ m) : hexAll s i k = true := by
  induction m with
  | zero => obtain rfl : k = 0 := by omega
            exact h
  | succ m ih =>
    by_cases e : k = m + 1
    · subst e; exact h
    · unfold hexAll at h; rw [Bool.and_eq_true] at h; exact ih h.1 (by omega)
/-- The character of a pair of units, 65533 if they are none. -/
def pairR (a b : Int) : Int := if 55296 ≤ a ∧ a < 56320 ∧ 56320 ≤ b ∧ b < 57344 then (a - 55296) * 1024 + (b - 56320) + 65536 else 65533
/-- The bytes of a character. -/
def encU (r : Int) : List Int :=
  if r < 128 then [r]
  else if r < 2048 then [192 + r / 64, 128 + r % 64]
  else if 55296 ≤ r ∧ r ≤ 57343 then [239, 191, 189]
  else if r < 65536 then [224 + r / 4096, 128 + r / 64 % 64, 128 + r % 64]
  else [240 + r / 262144, 128 + r / 4096 % 64, 128 + r / 64 % 64, 128 + r % 64]
theorem encU_by {r : Int} (h0 : 0 ≤ r) (h1 : r ≤ 1114111) : By8 (encU r) := by
  intro x hx
  unfold encU at hx
  repeat' split at hx
  all_goals simp at hx; omega
theorem encU_len (r : Int) : (encU r).length ≤ 4 := by
  unfold encU; repeat' split
  all_goals simp
/-- The character that stands for what is none. -/
def brk : List Int := [239, 191, 189]
theorem brk_by : By8 brk := by intro x hx; simp [brk] at hx; omega
/-- The byte for which a letter behind a backslash stands, -1 for others. -/
def escC (e : Int) : Int :=
  if e = 34 ∨ e = 92 ∨ e = 47 then e else if e = 98 then 8 else if e = 102 then 12 else if e = 110 then 10 else if e = 114 then 13 else if e = 116 then 9 else -1
theorem escC_bd (e : Int) (h0 : 0 ≤ e) (h1 : e ≤ 255) (h : 0 ≤ escC e) : escC e < 256 := by
  unfold escC at *
  repeat' split
  all_goals omega
theorem pairR_bd (a b : Int) : 0 ≤ pairR a b ∧ pairR a b ≤ 1114111 := by
  unfold pairR
  split
  all_goals omega
def unitD (t : ByteArray) (k : Nat) : Int × Bool := if t.size < k + 6 then (0, false) else if bAt t k ≠ 92 then (0, false) else if bAt t (k + 1) ≠ 117 then (0, false) else if hexAll t (k + 2) 4 = false then (0, false) else (hexPre t (k + 2) 4, true)
def escD (t : ByteArray) (k : Nat) : List Int × Nat × Bool :=
  if bAt t (k + 1) = 117 then
    (if surB (unitD t k).1 = false then (encU (unitD t k).1, 6, true)
     else if (unitD t k).1 < 56320 ∧ (unitD t (k + 6)).2 = true ∧ 56320 ≤ (unitD t (k + 6)).1 ∧ (unitD t (k + 6)).1 ≤ 57343 then (encU (pairR (unitD t k).1 (unitD t (k + 6)).1), 12, true)
     else (brk, 6, false))
  else ([escC (bAt t (k + 1))], 2, true)
def dS (t : ByteArray) (k : Nat) : List Int × Nat × Bool :=
  if bAt t k = 92 then escD t k else if uw t k = 0 then (brk, 1, false) else (sub t k (k + uw t k), uw t k, true)
def dO (t : ByteArray) : Nat → Nat → List Int × Bool
  | 0, _ => ([], true)
  | g + 1, k => if k < t.size then ((dS t k).1 ++ (dO t g (k + (dS t k).2.1)).1, (dS t k).2.2 && (dO t g (k + (dS t k).2.1)).2) else ([], true)
/-- An escape that Decode may meet. -/
def EscOk (t : ByteArray) (k : Nat) : Prop := k + 1 < t.size ∧ (0 ≤ escC (bAt t (k + 1)) ∨ (bAt t (k + 1) = 117 ∧ (unitD t k).2 = true))

/-- Where Decode stands it may stand. -/
inductive At (t : ByteArray) : Nat → Prop
  | done (k : Nat) (h : k = t.size) : At t k
  | step (k : Nat) (hk : k < t.size) (he : bAt t k = 92 → EscOk t k) (hn : (dS t k).2.1 ≠ 0) (hf : k + (dS t k).2.1 ≤ t.size) (r : At t (k + (dS t k).2.1)) : At t k
theorem uw_le4 (s : ByteArray) (k : Nat) : uw s k ≤ 4 := by
  unfold uw
  split
  · split
    · omega
    · split
      · omega
      · split
        · exact uLen_le _
        · omega
  · omega
theorem txt_conv (l : List Int) (hl : ∀ x ∈ l, 0 ≤ x ∧ x < 256) (w : World) (T : TypeId) (cap : Nat) :
    (convert 54 9 (.slice (some ⟨w.heap.size, 0, none⟩) l.length cap)).run Tryz.prog (w.alloc (.cells (l.map (Value.int .u8)).toArray T)) = .ok (.string (txt l)) (w.alloc (.cells (l.map (Value.int .u8)).toArray T)) := by
  have hB : Lib.Bytes (w.alloc (.cells (l.map (Value.int .u8)).toArray T)) w.heap.size 0 (txt l) := by
    intro i hi
    rw [txt_size] at hi
    have hg : (txt l)[i]'(by rw [txt_size]; exact hi) = UInt8.ofNat (l[i]).toNat := by
      show (txt l).data[i]'_ = _
      unfold txt; simp
    have := hl l[i] (List.getElem_mem hi)
    have e : ((UInt8.ofNat (l[i]).toNat).toNat : Int) = l[i] := by
      rw [UInt8.toNat_ofNat']; omega
    rw [hg, e, Nat.zero_add]
    have hh := heap_alloc_new w (.cells (l.map (Value.int .u8)).toArray T)
    simp only [World.cell?, hh]
    simp [hi]
  have h := Lib.run_convert_whole (P := Tryz.prog) _ 54 5 9 Tryz.underlying54 Tryz.underlying5 Tryz.underlying9 w.heap.size 0 (txt l) hB cap
  rw [txt_size] at h
  exact h
set_option maxRecDepth 100000 in
theorem enc_1 (c : Int) (h0 : 0 ≤ c) (h1 : c < 128) (w : World) :
    Calls Tryz.prog 65 #[.int .i64 c] w fun e w' => e = .returned (.string (txt [c])) ∧ Below w.heap.size w w' := by
  have hc : ∀ w : World, (convert 54 9 (.slice (some ⟨w.heap.size, 0, none⟩) 1 1)).run Tryz.prog (w.alloc (.cells #[.int .u8 c] 5)) = .ok (.string (txt [c])) (w.alloc (.cells #[.int .u8 c] 5)) := fun w => txt_conv [c] (by simp; omega) w 5 1
  go_enter Tryz.func65, Tryz.ntmps65
  go_wp2
  all_goals go_ret
  exact ⟨rfl, (Below.refl _ _).alloc (Nat.le_refl _) _⟩
theorem mask6 (x : Int) (h0 : 0 ≤ x) (h1 : x < 9223372036854775808) : bits .and .i64 x 63 = x % 64 := bits_mask .i64 63 (by decide) (fun n a b => by rw [IntKind.wrap_i64]; omega) 6 (by decide) x h0 h1
set_option maxRecDepth 100000 in
theorem enc_2 (c : Int) (h0 : 128 ≤ c) (h1 : c < 2048) (w : World) :
    Calls Tryz.prog 65 #[.int .i64 c] w fun e w' => e = .returned (.string (txt [192 + c / 64, 128 + c % 64])) ∧ Below w.heap.size w w' := by
  have hm := mask6 c (by omega) (by omega)
  obtain ⟨M, hM⟩ : ∃ M, c % 64 = M := ⟨_, rfl⟩
  rw [hM] at hm ⊢
  have m2 : M % 256 = M := by omega
  have m3 : (128 + M) % 256 = 128 + M := by omega
  have hc : ∀ w : World, (convert 54 9 (.slice (some ⟨w.heap.size, 0, none⟩) 2 2)).run Tryz.prog (w.alloc (.cells #[.int .u8 (192 + c / 64), .int .u8 (128 + M)] 5)) = .ok (.string (txt [192 + c / 64, 128 + M])) (w.alloc (.cells #[.int .u8 (192 + c / 64), .int .u8 (128 + M)] 5)) := fun w => txt_conv [192 + c / 64, 128 + M] (by simp; omega) w 5 2
  clear hM
  go_enter Tryz.func65, Tryz.ntmps65
  go_wp2
  all_goals go_ret
  exact ⟨rfl, (Below.refl _ _).alloc (Nat.le_refl _) _⟩
set_option maxRecDepth 100000 in
theorem enc_3 (c : Int) (h0 : 2048 ≤ c) (h1 : c < 65536) (h2 : c < 55296 ∨ 57343 < c) (w : World) :
    Calls Tryz.prog 65 #[.int .i64 c] w fun e w' => e = .returned (.string (txt [224 + c / 4096, 128 + c / 64 % 64, 128 + c % 64])) ∧ Below w.heap.size w w' := by
  have hm := mask6 c (by omega) (by omega)
  have hk := mask6 (c / 64) (by omega) (by omega)
  obtain ⟨M, hM⟩ : ∃ M, c % 64 = M := ⟨_, rfl⟩
  obtain ⟨K, hK⟩ : ∃ K, c / 64 % 64 = K := ⟨_, rfl⟩
  rw [hM] at hm ⊢
  rw [hK] at hk ⊢
  have m2 : M % 256 = M := by omega
  have m3 : (128 + M) % 256 = 128 + M := by omega
  have k2 : K % 256 = K := by omega
  have k3 : (128 + K) % 256 = 128 + K := by omega
  have hc : ∀ w : World, (convert 54 9 (.slice (some ⟨w.heap.size, 0, none⟩) 3 3)).run Tryz.prog (w.alloc (.cells #[.int .u8 (224 + c / 4096), .int .u8 (128 + K), .int .u8 (128 + M)] 5)) = .ok (.string (txt [224 + c / 4096, 128 + K, 128 + M])) (w.alloc (.cells #[.int .u8 (224 + c / 4096), .int .u8 (128 + K), .int .u8 (128 + M)] 5)) := fun w => txt_conv [224 + c / 4096, 128 + K, 128 + M] (by simp; omega) w 5 3
  clear hM hK
  rcases h2 with h2 | h2
  all_goals
    go_enter Tryz.func65, Tryz.ntmps65
    go_wp2
    all_goals go_ret
    exact ⟨rfl, (Below.refl _ _).alloc (Nat.le_refl _) _⟩
set_option maxRecDepth 100000 in
theorem enc_4 (c : Int) (h0 : 65536 ≤ c) (h1 : c < 1114112) (w : World) :
    Calls Tryz.prog 65 #[.int .i64 c] w fun e w' => e = .returned (.string (txt [240 + c / 262144, 128 + c / 4096 % 64, 128 + c / 64 % 64, 128 + c % 64])) ∧ Below w.heap.size w w' := by
  have hm := mask6 c (by omega) (by omega)
  have hk := mask6 (c / 64) (by omega) (by omega)
  have hl := mask6 (c / 4096) (by omega) (by omega)
  obtain ⟨M, hM⟩ : ∃ M, c % 64 = M := ⟨_, rfl⟩
  obtain ⟨K, hK⟩ : ∃ K, c / 64 % 64 = K := ⟨_, rfl⟩
  obtain ⟨L, hL⟩ : ∃ L, c / 4096 % 64 = L := ⟨_, rfl⟩
  rw [hM] at hm ⊢
  rw [hK] at hk ⊢
  rw [hL] at hl ⊢
  have m2 : M % 256 = M := by omega
  have m3 : (128 + M) % 256 = 128 + M := by omega
  have k2 : K % 256 = K := by omega
  have k3 : (128 + K) % 256 = 128 + K := by omega
  have l2 : L % 256 = L := by omega
  have l3 : (128 + L) % 256 = 128 + L := by omega
  have hc : ∀ w : World, (convert 54 9 (.slice (some ⟨w.heap.size, 0, none⟩) 4 4)).run Tryz.prog (w.alloc (.cells #[.int .u8 (240 + c / 262144), .int .u8 (128 + L), .int .u8 (128 + K), .int .u8 (128 + M)] 5)) = .ok (.string (txt [240 + c / 262144, 128 + L, 128 + K, 128 + M])) (w.alloc (.cells #[.int .u8 (240 + c / 262144), .int .u8 (128 + L), .int .u8 (128 + K), .int .u8 (128 + M)] 5)) := fun w => txt_conv [240 + c / 262144, 128 + L, 128 + K, 128 + M] (by simp; omega) w 5 4
  clear hM hK hL
  go_enter Tryz.func65, Tryz.ntmps65
  go_wp2
  all_goals go_ret
  exact ⟨rfl, (Below.refl _ _).alloc (Nat.le_refl _) _⟩
theorem encoded_any (c : Int) (h0 : 0 ≤ c) (h1 : c < 1114112) (w : World) :
    Calls Tryz.prog 65 #[.int .i64 c] w fun e w' => e = .returned (.string (txt (encU c))) ∧ Below w.heap.size w w' := by
  unfold encU
  by_cases g1 : c < 128
  · rw [if_pos g1]; exact enc_1 c h0 g1 w
  rw [if_neg g1]
  by_cases g2 : c < 2048
  · rw [if_pos g2]; exact enc_2 c (by omega) g2 w
  rw [if_neg g2]
  by_cases g3 : 55296 ≤ c ∧ c ≤ 57343
  · rw [if_pos g3]
    obtain ⟨a, b⟩ := g3
    have hB : txt [239, 191, 189] = ⟨#[239, 191, 189]⟩ := rfl
    rw [hB]
    have a1 : 128 ≤ c := by omega
    have a2 : 2048 ≤ c := by omega
    clear g1 g2 hB
    go_enter Tryz.func65, Tryz.ntmps65
    go_wp2
    all_goals go_ret
    exact ⟨rfl, Below.refl _ _⟩
  rw [if_neg g3]
  by_cases g4 : c < 65536
  · rw [if_pos g4]; exact enc_3 c (by omega) g4 (by omega) w
  rw [if_neg g4]; exact enc_4 c (by omega) h1 w

theorem hexPre_pre (t : ByteArray) (i : Nat) : ∀ j, hexAll t i j = true → 0 ≤ hexPre t i j ∧ hexPre t i j < 16 ^ j
  | 0, _ => by simp [hexPre]
  | j + 1, h => by
    unfold hexAll at h
    simp only [Bool.and_eq_true, decide_eq_true_eq] at h
    have h1 := hexPre_pre t i j h.1
    have h2 := hexV_bd (bAt t (i + j))
    unfold hexPre
    rw [Int.pow_succ]
    omega
theorem hexAll_drop (t : ByteArray) (i : Nat) {j n : Nat} (hj : j < n) (h : hexV (bAt t (i + j)) < 0) : hexAll t i n = false := by
  induction n with
  | zero => omega
  | succ n ih =>
    unfold hexAll
    by_cases e : j = n
    · subst e
      rw [show decide (0 ≤ hexV (bAt t (i + j))) = false by simp; omega, Bool.and_false]
    · rw [ih (by omega), Bool.false_and]
set_option maxRecDepth 100000 in
theorem unitAt_any (t : ByteArray) (k : Nat) (w : World) (hs : t.size ≤ 10000000000) (hk : k ≤ 10000000000) :
    Calls Tryz.prog 64 #[.string t, .int .i64 k] w fun e w' => e = .returned (.tuple #[.int .i64 (unitD t k).1, .bool (unitD t k).2]) ∧ w' = w := by
  by_cases h6 : t.size < k + 6
  · have e : unitD t k = (0, false) := by unfold unitD; rw [if_pos h6]
    rw [e]
    have h6I : (t.size : Int) < (k : Int) + 6 := by omega
    clear h6 e
    go_enter Tryz.func64, Tryz.ntmps64
    go_wp2_with fail
    all_goals go_ret2
    exact ⟨rfl, rfl⟩
  have h6I : (k : Int) + 6 ≤ (t.size : Int) := by omega
  obtain ⟨A, hA⟩ : ∃ A, bAt t k = A := ⟨_, rfl⟩
  obtain ⟨C, hC⟩ : ∃ C, bAt t (k + 1) = C := ⟨_, rfl⟩
  have bA := bAt_lt (s := t) (i := k) (by omega)
  have bC := bAt_lt (s := t) (i := k + 1) (by omega)
  rw [hA] at bA
  rw [hC] at bC
  cases a92 : (A != 92)
  case true =>
    have e : unitD t k = (0, false) := by unfold unitD; rw [if_neg h6, hA, if_pos (by simpa using a92)]
    rw [e]
    rw [bA] at a92
    clear e hA hC bA bC
    go_enter Tryz.func64, Tryz.ntmps64
    go_wp2_with fail
    all_goals go_ret2
    exact ⟨rfl, rfl⟩
  cases c117 : (C != 117)
  case true =>
    have e : unitD t k = (0, false) := by unfold unitD; rw [if_neg h6, hA, hC, if_neg (by simpa using a92), if_pos (by simpa using c117)]
    rw [e]
    rw [bA] at a92
    rw [bC] at c117
    clear e hA hC bA bC
    go_enter Tryz.func64, Tryz.ntmps64
    go_wp2_with fail
    all_goals go_ret2
    exact ⟨rfl, rfl⟩
  have e : unitD t k = if hexAll t (k + 2) 4 = false then (0, false) else (hexPre t (k + 2) 4, true) := by unfold unitD; rw [if_neg h6, hA, hC, if_neg (by simpa using a92), if_neg (by simpa using c117)]
  rw [bA] at a92
  rw [bC] at c117
  obtain ⟨U, HU⟩ : ∃ U, Hid (unitD t k = U) := ⟨_, Lib.hid rfl⟩
  rw [HU.out]
  have HE := Lib.hid (e.symm.trans HU.out)
  have A0 : Aside ((if hexAll t (k + 2) 4 = false then (0, false) else (hexPre t (k + 2) 4, true)) = U) := HE.out
  clear e hA hC bA bC HU HE
  go_enter Tryz.func64, Tryz.ntmps64
  go_wp2_with fail
  clear a92 c117
  go_loopg [6, 7] 4 (fun g n i wx => ∃ j : Nat, i = .int .i64 ((k + 2 + j : Nat) : Int) ∧ n = .int .i64 (hexPre t (k + 2) j) ∧ j ≤ 4 ∧ 4 - j ≤ g ∧ Aside (hexAll t (k + 2) j = true) ∧ wx = w)
  case atStart => exact ⟨0, by go_num, rfl, by omega, by omega, rfl, rfl⟩
  case round =>
    obtain ⟨j, rfl, rfl, hj4, hjg, hall, rfl⟩ := hrel
    obtain ⟨hp0, hp1⟩ := hexPre_pre t (k + 2) j hall
    have hp2 : (16 : Int) ^ j ≤ 65536 := by
      have : j = 0 ∨ j = 1 ∨ j = 2 ∨ j = 3 ∨ j = 4 := by omega
      rcases this with rfl | rfl | rfl | rfl | rfl <;> decide
    obtain ⟨N, hN⟩ : ∃ N, hexPre t (k + 2) j = N := ⟨_, rfl⟩
    rw [hN] at hp0 hp1
    have hN1 : N < 65536 := by omega
    clear hp1 hp2
    by_cases hj : j < 4
    · have hjI : (j : Int) < 4 := by omega
      have hlt : k + 2 + j < t.size := by omega
      have hb := bAt_lt hlt
      have hbI : ((k + 2 + j : Nat) : Int) < (t.size : Int) := by omega
      obtain ⟨V, hV⟩ : ∃ V, hexV (bAt t (k + 2 + j)) = V := ⟨_, rfl⟩
      have hhex := hex_any (bAt t (k + 2 + j)) wr (bAt_nonneg _ _) (bAt_le _ _)
      have hVb := hexV_bd (bAt t (k + 2 + j))
      rw [hV] at hhex hVb
      rw [hb] at hhex
      have HV := Lib.hid hV
      have HN := Lib.hid hN
      rw [hN]
      clear hb hV hN
      by_cases hv : V < 0
      · go_wp2_with (go_at_call 88; refine hhex.mono ?_; rintro e w2 ⟨rfl, hw2⟩; obtain rfl := hw2.symm)
        all_goals go_ret2
        have hf : hexAll t (k + 2) 4 = false := hexAll_drop t (k + 2) hj (by rw [HV.out]; exact hv)
        have A1 : (if hexAll t (k + 2) 4 = false then ((0 : Int), false) else (hexPre t (k + 2) 4, true)) = U := A0
        rw [if_pos hf] at A1
        exact ⟨(by rw [← A1]; try rfl), rfl⟩
      · have hv0 : 0 ≤ V := by omega
        clear hv
        go_wp2_with (go_at_call 88; refine hhex.mono ?_; rintro e w2 ⟨rfl, hw2⟩; obtain rfl := hw2.symm)
        go_roundg (gk - 1)
        case measure => omega
        case rel =>
          refine ⟨j + 1, by go_num, ?_, by omega, by omega, ?_, rfl⟩
          · unfold hexPre; rw [HN.out, HV.out]
          · show hexAll t (k + 2) (j + 1) = true
            have hall' : hexAll t (k + 2) j = true := hall
            unfold hexAll; rw [hall', HV.out]; simp; exact hv0
    · obtain rfl : j = 4 := by omega
      have hall' : hexAll t (k + 2) 4 = true := hall
      have A1 : (if hexAll t (k + 2) 4 = false then ((0 : Int), false) else (hexPre t (k + 2) 4, true)) = U := A0
      rw [hall', if_neg (by simp), hN] at A1
      have HA := Lib.hid A1
      clear A1 hall' hall A0
      rw [hN]
      clear hN
      go_wp2_with fail
      all_goals go_ret2
      exact ⟨(by rw [← HA.out]; try rfl), rfl⟩

theorem unitD_bd (t : ByteArray) (k : Nat) : 0 ≤ (unitD t k).1 ∧ (unitD t k).1 < 65536 := by
  unfold unitD
  split
  · decide
  split
  · decide
  split
  · decide
  split
  · decide
  · rename_i h
    have := hexPre_pre t (k + 2) 4 (by simpa using h)
    simpa using this
theorem ext_txt (t : ByteArray) (a b : Nat) (hb : b ≤ t.size) (ha : a ≤ b) : t.extract a b = txt (sub t a b) := by
  apply bl_inj
  rw [bl_sub t a b hb ha, bl_txt (sub_by t a b)]
set_option maxRecDepth 100000 in
set_option maxHeartbeats 4000000 in
theorem escaped_any (t : ByteArray) (k : Nat) (w : World) (hs : t.size ≤ 3000000000) (he : EscOk t k) :
    Calls Tryz.prog 41 #[.string t, .int .i64 k] w fun e w' => e = .returned (.tuple #[.string (txt (escD t k).1), .int .i64 ((escD t k).2.1 : Nat), .bool (escD t k).2.2]) ∧ Below w.heap.size w w' := by
  obtain ⟨hk1, hcase⟩ := he
  have hb := bAt_lt hk1
  have hkI : (k : Int) + 1 < (t.size : Int) := by omega
  have hk2I : (k : Int) + 2 ≤ (t.size : Int) := by omega
  rcases hcase with hes | ⟨h117, hU⟩
  · have h117 : bAt t (k + 1) ≠ 117 := fun h => by rw [h] at hes; revert hes; decide
    have hx : t.extract (k + 1) (k + 2) = txt [bAt t (k + 1)] := by rw [ext_txt t (k + 1) (k + 2) (by omega) (by omega), sub_one]
    have hcl : bAt t (k + 1) = 34 ∨ bAt t (k + 1) = 92 ∨ bAt t (k + 1) = 47 ∨ bAt t (k + 1) = 98 ∨ bAt t (k + 1) = 102 ∨ bAt t (k + 1) = 110 ∨ bAt t (k + 1) = 114 ∨ bAt t (k + 1) = 116 := by
      unfold escC at hes
      repeat' split at hes
      all_goals omega
    unfold escD
    rw [if_neg h117]
    clear h117 hes
    obtain ⟨E, hE⟩ : ∃ E, bAt t (k + 1) = E := ⟨_, rfl⟩
    rw [hE] at hb hx hcl ⊢
    clear hE
    have HX := Lib.hid hx
    have hb' := hb.symm
    clear hx hb
    rcases hcl with rfl | rfl | rfl | rfl | rfl | rfl | rfl | rfl
    · go_enter Tryz.func41, Tryz.ntmps41
      go_wp2_with fail
      all_goals go_ret3
      exact ⟨by rw [HX.out]; rfl, Below.refl _ _⟩
    · go_enter Tryz.func41, Tryz.ntmps41
      go_wp2_with fail
      all_goals go_ret3
      exact ⟨by rw [HX.out]; rfl, Below.refl _ _⟩
    · go_enter Tryz.func41, Tryz.ntmps41
      go_wp2_with fail
      all_goals go_ret3
      exact ⟨by rw [HX.out]; rfl, Below.refl _ _⟩
    · go_enter Tryz.func41, Tryz.ntmps41
      go_wp2_with fail
      all_goals go_ret3
      exact ⟨rfl, Below.refl _ _⟩
    · go_enter Tryz.func41, Tryz.ntmps41
      go_wp2_with fail
      all_goals go_ret3
      exact ⟨rfl, Below.refl _ _⟩
    · go_enter Tryz.func41, Tryz.ntmps41
      go_wp2_with fail
      all_goals go_ret3
      exact ⟨rfl, Below.refl _ _⟩
    · go_enter Tryz.func41, Tryz.ntmps41
      go_wp2_with fail
      all_goals go_ret3
      exact ⟨rfl, Below.refl _ _⟩
    · go_enter Tryz.func41, Tryz.ntmps41
      go_wp2_with fail
      all_goals go_ret3
      exact ⟨rfl, Below.refl _ _⟩
  · have hb117 : ((t[k + 1].toNat : Nat) : Int) = 117 := hb.symm.trans h117
    obtain ⟨V, hV⟩ : ∃ V, (unitD t k).1 = V := ⟨_, rfl⟩
    have hVb := unitD_bd t k
    have hu1 := fun w' => unitAt_any t k w' (by omega) (by omega)
    have hu2 := fun w' => unitAt_any t (k + 6) w' (by omega) (by omega)
    obtain ⟨D, hD⟩ : ∃ D, (unitD t (k + 6)).1 = D := ⟨_, rfl⟩
    obtain ⟨O, hO⟩ : ∃ O, (unitD t (k + 6)).2 = O := ⟨_, rfl⟩
    have hDb := unitD_bd t (k + 6)
    unfold escD
    rw [if_pos h117]
    rw [hV] at hu1 hVb ⊢
    rw [hU] at hu1
    rw [hD] at hDb hu2 ⊢
    rw [hO] at hu2 ⊢
    clear hb h117 hU hV hD hO
    obtain ⟨v0, v1⟩ := hVb
    obtain ⟨d0, d1⟩ := hDb
    have enc := fun (c : Int) (h0 : 0 ≤ c) (h1 : c < 1114112) (w' : World) => encoded_any c h0 h1 w'
    by_cases hs1 : V < 55296 ∨ 57343 < V
    · have hsur : surB V = false := by unfold surB; simp; omega
      rw [if_pos hsur]
      have hE1 := enc V v0 (by omega) w
      clear hsur enc hu2
      by_cases hlo : V < 55296
      · go_enter Tryz.func41, Tryz.ntmps41
        go_wp2_with (first
          | (go_at_call 64; refine (hu1 _).mono ?_; rintro e w1 ⟨rfl, hw1⟩; obtain rfl := hw1.symm)
          | (go_at_call 65; refine hE1.mono ?_; rintro e w2 ⟨rfl, hb2⟩))
        all_goals go_ret3
        exact ⟨rfl, hb2⟩
      · have hhi : 57343 < V := by omega
        have hlo' : 55296 ≤ V := by omega
        clear hs1 hlo
        go_enter Tryz.func41, Tryz.ntmps41
        go_wp2_with (first
          | (go_at_call 64; refine (hu1 _).mono ?_; rintro e w1 ⟨rfl, hw1⟩; obtain rfl := hw1.symm)
          | (go_at_call 65; refine hE1.mono ?_; rintro e w2 ⟨rfl, hb2⟩))
        all_goals go_ret3
        exact ⟨rfl, hb2⟩
    · have hlo : 55296 ≤ V := by omega
      have hhi : V ≤ 57343 := by omega
      have hsur : surB V = true := by unfold surB; simp; omega
      rw [if_neg (by rw [hsur]; simp)]
      clear hs1 hsur
      have hbrk : txt brk = ⟨#[239, 191, 189]⟩ := rfl
      by_cases hp : V < 56320 ∧ O = true ∧ 56320 ≤ D ∧ D ≤ 57343
      · rw [if_pos hp]
        obtain ⟨a1, rfl, a2, a3⟩ := hp
        have hpr : pairR V D = (V - 55296) * 1024 + (D - 56320) + 65536 := by unfold pairR; rw [if_pos ⟨hlo, a1, a2, by omega⟩]
        have hE1 := enc (pairR V D) (by rw [hpr]; omega) (by rw [hpr]; omega) w
        have hshl : IntKind.i64.wrap ((V - 55296) * 1024) = (V - 55296) * 1024 := by rw [IntKind.wrap_i64]; omega
        have hq : (65536 : Int) + (V - 55296) * 1024 + (D - 56320) = pairR V D := by rw [hpr]; omega
        have hE2 : Calls Tryz.prog 65 #[.int .i64 (65536 + (V - 55296) * 1024 + (D - 56320))] w fun e w' => e = .returned (.string (txt (encU (pairR V D)))) ∧ Below w.heap.size w w' := by rw [hq]; exact hE1
        clear enc hbrk hpr hq hE1
        go_enter Tryz.func41, Tryz.ntmps41
        go_wp2_with (first
          | (go_at_call 64; first | (refine (hu1 _).mono ?_; clear hu1; rintro e w1 ⟨rfl, hw1⟩; obtain rfl := hw1.symm) | (refine (hu2 _).mono ?_; rintro e w1 ⟨rfl, hw1⟩; obtain rfl := hw1.symm))
          | (go_at_call 65; refine hE2.mono ?_; rintro e w2 ⟨rfl, hb2⟩))
        all_goals go_ret3
        exact ⟨rfl, hb2⟩
      · rw [if_neg hp, hbrk]
        clear enc hbrk
        by_cases a1 : V < 56320
        · cases O
          · clear hp
            go_enter Tryz.func41, Tryz.ntmps41
            go_wp2_with (go_at_call 64; first | (refine (hu1 _).mono ?_; clear hu1; rintro e w1 ⟨rfl, hw1⟩; obtain rfl := hw1.symm) | (refine (hu2 _).mono ?_; rintro e w1 ⟨rfl, hw1⟩; obtain rfl := hw1.symm))
            all_goals go_ret3
            exact ⟨rfl, Below.refl _ _⟩
          · by_cases a2 : 56320 ≤ D
            · have a3 : 57343 < D := by
                by_cases h : 57343 < D
                · exact h
                · exact absurd ⟨a1, rfl, a2, by omega⟩ hp
              clear hp
              go_enter Tryz.func41, Tryz.ntmps41
              go_wp2_with (go_at_call 64; first | (refine (hu1 _).mono ?_; clear hu1; rintro e w1 ⟨rfl, hw1⟩; obtain rfl := hw1.symm) | (refine (hu2 _).mono ?_; rintro e w1 ⟨rfl, hw1⟩; obtain rfl := hw1.symm))
              all_goals go_ret3
              exact ⟨rfl, Below.refl _ _⟩
            · have a2' : D < 56320 := by omega
              clear hp a2
              go_enter Tryz.func41, Tryz.ntmps41
              go_wp2_with (go_at_call 64; first | (refine (hu1 _).mono ?_; clear hu1; rintro e w1 ⟨rfl, hw1⟩; obtain rfl := hw1.symm) | (refine (hu2 _).mono ?_; rintro e w1 ⟨rfl, hw1⟩; obtain rfl := hw1.symm))
              all_goals go_ret3
              exact ⟨rfl, Below.refl _ _⟩
        · have a1' : 56320 ≤ V := by omega
          clear hp a1
          go_enter Tryz.func41, Tryz.ntmps41
          go_wp2_with (go_at_call 64; first | (refine (hu1 _).mono ?_; clear hu1; rintro e w1 ⟨rfl, hw1⟩; obtain rfl := hw1.symm) | (refine (hu2 _).mono ?_; rintro e w1 ⟨rfl, hw1⟩; obtain rfl := hw1.symm))
          all_goals go_ret3
          exact ⟨rfl, Below.refl _ _⟩

theorem dS_bd {t : ByteArray} {k : Nat} (hk : k < t.size) (he : bAt t k = 92 → EscOk t k) : By8 (dS t k).1 ∧ (dS t k).1.length ≤ 4 := by
  unfold dS
  split
  · rename_i h92
    obtain ⟨h1, h2⟩ := he h92
    unfold escD
    split
    · obtain ⟨v0, v1⟩ := unitD_bd t k
      split
      · exact ⟨encU_by v0 (by omega), encU_len _⟩
      · split
        · have := pairR_bd (unitD t k).1 (unitD t (k + 6)).1
          exact ⟨encU_by this.1 this.2, encU_len _⟩
        · exact ⟨brk_by, by decide⟩
    · rename_i h117
      rcases h2 with h2 | h2
      · have := escC_bd (bAt t (k + 1)) (bAt_nonneg _ _) (bAt_le _ _) h2
        exact ⟨by intro x hx; simp at hx; omega, by simp⟩
      · exact absurd h2.1 h117
  · split
    · exact ⟨brk_by, by decide⟩
    · rename_i hu
      have := uw_le4 t k
      refine ⟨sub_by _ _ _, ?_⟩
      rw [sub_len]
      omega
set_option maxRecDepth 100000 in
set_option maxHeartbeats 4000000 in
theorem specDecode_any (s t : ByteArray) (w : World) (hs : s.size ≤ 2500000000) (h2 : 2 ≤ s.size) (ht : s.extract 1 (s.size - 1) = t) (ha : At t 0) :
    Calls Tryz.prog 22 #[.string s] w fun e w' => e = .returned (.tuple #[.string (txt (dO t t.size 0).1), .bool (dO t t.size 0).2]) ∧ Below w.heap.size w w' := by
  obtain ⟨i0, hi, hz0, hz1, hz2⟩ := info_parts Tryz.infoU8
  obtain ⟨B, hBa, hBb⟩ : ∃ B, B ≤ w.heap.size ∧ w.heap.size ≤ B := ⟨_, Nat.le_refl _, Nat.le_refl _⟩
  have hbs0 := (bs_zero w).mono hBa
  have htz : t.size = s.size - 2 := by rw [← ht, ByteArray.size_extract]; omega
  have htm : t.size ≤ maxLen := by unfold maxLen; omega
  have h2I : (1 : Int) ≤ (s.size : Int) - 1 := by omega
  have HT := Lib.hid ht
  obtain ⟨T, HTT⟩ : ∃ T, Hid (dO t t.size 0 = T) := ⟨_, Lib.hid rfl⟩
  rw [HTT.out]
  have A0 : Aside (([] ++ (dO t t.size 0).1, true && (dO t t.size 0).2) = T) := by rw [← HTT.out]; rfl
  clear ht HTT
  go_enter Tryz.func22, Tryz.ntmps22
  go_wp2_with fail
  rw [HT.out]
  go_loopg [5, 6, 7] t.size (fun g v cl i wr => ∃ (k : Nat) (v' : Value) (l : List Int) (c : Bool), i = .int .i64 k ∧ v' = v ∧ cl = .bool c ∧ k ≤ t.size ∧ t.size - k ≤ g ∧ Bs wr B v' l ∧ l.length ≤ 4 * k ∧ At t k ∧ Below w.heap.size w wr ∧ Aside ((l ++ (dO t g k).1, c && (dO t g k).2) = T))
  case atStart => exact ⟨0, _, [], true, rfl, rfl, rfl, Nat.zero_le _, Nat.le_refl _, hbs0, by simp, ha, (Below.refl _ _).alloc (Nat.le_refl _) _, A0⟩
  case round =>
    clear ha A0 hbs0
    obtain ⟨k, v, l, c, rfl, rfl, rfl, hk, hg, hbs, hll, hat, hbel, A⟩ := hrel
    have hBr := hbel.size
    by_cases hkt : k < t.size
    · obtain ⟨hes, hn0, hf, hr⟩ : (bAt t k = 92 → EscOk t k) ∧ (dS t k).2.1 ≠ 0 ∧ k + (dS t k).2.1 ≤ t.size ∧ At t (k + (dS t k).2.1) := by
        cases hat with
        | done _ h => omega
        | step _ h1 h2 h3 h4 h5 => exact ⟨h2, h3, h4, h5⟩
      obtain ⟨hby, hlen⟩ := dS_bd hkt hes
      obtain ⟨o, d, ok, hdS⟩ : ∃ o d ok, dS t k = (o, d, ok) := ⟨_, _, _, rfl⟩
      rw [hdS] at hn0 hf hr hby hlen
      dsimp only at hn0 hf hr hby hlen
      have A1 : (l ++ (o ++ (dO t (gk - 1) (k + d)).1), c && (ok && (dO t (gk - 1) (k + d)).2)) = T := by
        have A2 : (l ++ (dO t gk k).1, c && (dO t gk k).2) = T := A
        rw [show gk = gk - 1 + 1 by omega, dO, if_pos hkt, hdS] at A2
        exact A2
      have HA := Lib.hid A1
      have HR := Lib.hid hr
      have hb := bAt_lt hkt
      have hkI : (k : Int) < (t.size : Int) := by omega
      clear A A1 hr hat
      by_cases h92 : bAt t k = 92
      · have hesc := hes h92
        have he : escD t k = (o, d, ok) := by unfold dS at hdS; rw [if_pos h92] at hdS; exact hdS
        have hb92 : ((t[k].toNat : Nat) : Int) = 92 := hb.symm.trans h92
        have hE := fun w' => escaped_any t k w' (by omega) hesc
        rw [he] at hE
        dsimp only at hE
        have hdI : (k : Int) + (d : Int) ≤ (t.size : Int) := by omega
        clear hes hdS he hb h92 hesc
        cases c
        all_goals
          go_wp2_with (first
            | (go_at_call 41; refine (hE _).mono ?_; rintro e w2 ⟨rfl, hb2⟩; have hbs2 := hbs.below hb2; have hB2 := Nat.le_trans hBa (Nat.le_trans hBr hb2.size))
            | (at_builtin; refine wpList_append_bs _ rfl (.tmp 33) (.tmp 34) 54 9 (by rfl) B i0 Tryz.underlying54 hi hz0 hz1 hz2 _ _ rfl hbs2 _ (bl (txt o)) rfl (bl_by8 _) (src_str Tryz.underlying9 (txt o) _ _ hz1) (by rw [bl_len, txt_size]; omega) (by first | assumption | omega | (simp; omega)) ?_; intro v3 w3 hb3 ha3))
          go_roundg (gk - 1)
          case measure => omega
          case rel =>
            refine ⟨k + d, _, _, _, by go_num, rfl, rfl, by omega, by omega, hb3, by rw [List.length_append, bl_len, txt_size]; omega, HR.out, (hbel.trans (hb2.mono hBr)).trans ((ha3.below hbs2 hB2).mono hBb), ?_⟩
            show (l ++ bl (txt o) ++ (dO t (gk - 1) (k + d)).1, _) = T
            rw [bl_txt hby, List.append_assoc, ← HA.out]
            cases ok <;> rfl
      · have hn92 : (((t[k].toNat : Nat) : Int) == 92) = false := by rw [← hb]; simpa using h92
        have hW := fun w' => width_any t k w' htm hkt
        by_cases hu : uw t k = 0
        · have hdS2 : dS t k = (brk, 1, false) := by unfold dS; rw [if_neg h92, if_pos hu]
          obtain ⟨rfl, rfl, rfl⟩ : brk = o ∧ 1 = d ∧ false = ok := by rw [hdS] at hdS2; injection hdS2 with a b; injection b with b c; exact ⟨a.symm, b.symm, c.symm⟩
          rw [hu] at hW
          clear hes hdS hdS2 hb h92 hu
          go_wp2_with (first
            | (go_at_call 42; refine (hW _).mono ?_; rintro e w2 ⟨rfl, hb2⟩; have hbs2 := hbs.below hb2; have hB2 := Nat.le_trans hBa (Nat.le_trans hBr hb2.size))
            | (at_builtin; refine wpList_append_bs _ rfl (.tmp 48) (.const (.string ⟨#[239, 191, 189]⟩)) 54 9 (by rfl) B i0 Tryz.underlying54 hi hz0 hz1 hz2 _ _ rfl hbs2 _ [239, 191, 189] rfl (by intro x hx; simp at hx; omega) (src_strL Tryz.underlying9 ⟨#[239, 191, 189]⟩ [239, 191, 189] rfl _ _ hz1) (by first | omega | (simp; omega) | (simp only [List.length_append, sub_len, bl_len, List.length_cons, List.length_nil]; omega)) (by first | assumption | omega | (simp; omega)) ?_; intro v3 w3 hb3 ha3))
          go_roundg (gk - 1)
          case measure => omega
          case rel =>
            refine ⟨k + 1, _, _, _, by go_num, rfl, rfl, by omega, by omega, hb3, by rw [List.length_append]; simp; omega, HR.out, (hbel.trans (hb2.mono hBr)).trans ((ha3.below hbs2 hB2).mono hBb), ?_⟩
            show (l ++ brk ++ (dO t (gk - 1) (k + 1)).1, _) = T
            rw [List.append_assoc, ← HA.out]
            cases c <;> rfl
        · have hdS2 : dS t k = (sub t k (k + uw t k), uw t k, true) := by unfold dS; rw [if_neg h92, if_neg hu]
          obtain ⟨ho, hd, rfl⟩ : sub t k (k + uw t k) = o ∧ uw t k = d ∧ true = ok := by rw [hdS] at hdS2; injection hdS2 with a b; injection b with b c; exact ⟨a.symm, b.symm, c.symm⟩
          rw [hd] at hW ho hu
          have hx : bl (t.extract k (k + d)) = o := by rw [bl_sub t k (k + d) (by omega) (by omega), ho]
          have HX := Lib.hid hx
          have hd0 : (((d : Nat) : Int) == 0) = false := by simp; exact hu
          have hdI : (k : Int) + (d : Int) ≤ (t.size : Int) := by omega
          clear hes hdS hdS2 hb h92 hd ho hx hu
          go_wp2_with (first
            | (go_at_call 42; refine (hW _).mono ?_; rintro e w2 ⟨rfl, hb2⟩; have hbs2 := hbs.below hb2; have hB2 := Nat.le_trans hBa (Nat.le_trans hBr hb2.size))
            | (at_builtin; refine wpList_append_bs _ rfl (.tmp 52) (.tmp 58) 54 9 (by rfl) B i0 Tryz.underlying54 hi hz0 hz1 hz2 _ _ rfl hbs2 _ (bl (t.extract k (k + d))) rfl (bl_by8 _) (src_str Tryz.underlying9 (t.extract k (k + d)) _ _ hz1) (by rw [HX.out]; omega) (by first | assumption | omega | (simp; omega)) ?_; intro v3 w3 hb3 ha3))
          go_roundg (gk - 1)
          case measure => omega
          case rel =>
            refine ⟨k + d, _, _, _, by go_num, rfl, rfl, by omega, by omega, hb3, by rw [List.length_append, HX.out]; omega, HR.out, (hbel.trans (hb2.mono hBr)).trans ((ha3.below hbs2 hB2).mono hBb), ?_⟩
            show (l ++ bl (t.extract k (k + d)) ++ (dO t (gk - 1) (k + d)).1, _) = T
            rw [HX.out, List.append_assoc, ← HA.out]
            cases c <;> rfl
    · have hkI : (t.size : Int) ≤ (k : Int) := by omega
      have hcv := bs_str hbs
      have A2 : (l ++ (dO t gk k).1, c && (dO t gk k).2) = T := A
      have hd0 : dO t gk k = ([], true) := by
        cases gk
        · rfl
        · unfold dO; rw [if_neg hkt]
      rw [hd0, List.append_nil, Bool.and_true] at A2
      have HA := Lib.hid A2
      clear A A2 hd0 hat
      go_wp2_with fail
      all_goals go_ret2
      exact ⟨(by rw [← HA.out]; try rfl), hbel⟩
end
section
/- (Od) The order in which the writer puts the members: as they stand. -/
open Go.RowKit

/-- What is asked of a name: that Decode returns of it. -/
def DecQ (x : ByteArray) : Prop := ∀ w : World, Calls Tryz.prog 22 #[.string x] w fun e w' => ∃ X c, e = .returned (.tuple #[.string X, .bool c]) ∧ Below w.heap.size w w'
def iota (n : Nat) : List Value := (List.range n).map fun (i : Nat) => Value.int .i64 (i : Int)
theorem iota_len (n : Nat) : (iota n).length = n := by simp [iota]
theorem iota_succ (n : Nat) : iota (n + 1) = iota n ++ [.int .i64 (n : Int)] := by simp [iota, List.range_succ]
theorem own_bel {w w1 : World} {B C size n : Nat} {e : TypeId} {v : Value} {xs : List Value} (h : w.ownsRow B e size v n xs) (hC : C ≤ B) (hb : Below w.heap.size w w1) : w1.ownsRow C e size v n xs :=
  own_keep h hC fun g hg => hb.block g (h.lt g hg).2
theorem NodeB.bel {w w1 : World} {b : Nat} {k : Int} {t : ByteArray} {nm kd : Value} (h : NodeB w b k t nm kd) (hb : Below w.heap.size w w1) : NodeB w1 b k t nm kd := by
  obtain ⟨T, h⟩ := h; exact ⟨T, (hb.block b (lt_of_block h)).trans h⟩
theorem cell_one_y (w : World) (x : Value) (t : TypeId) : ∀ j u, [x][j]? = some u → (w.alloc (.cells #[x] t)).cell? ((⟨w.heap.size, 0, none⟩ : Addr).add j) = some u := by
  intro j u hj
  have hh := heap_alloc_new w (.cells #[x] t)
  match j, hj with
  | 0, hj => simp at hj; subst hj; show World.cell? _ ⟨w.heap.size, 0, none⟩ = _; simp only [World.cell?, hh]; rfl
/-- A grown row of the call's own leaves what lies below. -/
theorem grown_bel {w w1 : World} {B : Nat} {o : Obj} {v : Value} (hv : ∀ g, v.ownBlock = some g → B ≤ g) (hg : (w.alloc o).grownBy w1 v.ownBlock) (hB : B ≤ w.heap.size) : Below B w w1 :=
  ⟨hg.os, hg.tape, hg.output, Nat.le_trans (by simp) hg.size, fun k hk => (hg.block k (by simp; omega) (fun e => by have := hv k e.symm; omega)).trans (Below.heap_alloc _ _ _ (by omega))⟩
set_option maxRecDepth 100000 in
set_option maxHeartbeats 4000000 in
theorem order_any (k : Int) (t : ByteArray) (ns : List ByteArray) (na ka : Option Addr) (n nc kl kc : Nat) (w : World) (hn : w.ownsRow 0 9 1 (.slice na n nc) n (nmv ns)) (hl : n ≤ 3000000000) (hd : ∀ x ∈ ns, DecQ x) :
    Calls Tryz.prog 46 #[tightV, .agg #[.int .u8 k, .string t, .slice na n nc, .slice ka kl kc]] w fun e w' => ∃ v, e = .returned v ∧ w'.ownsRow w.heap.size 3 1 v n (iota n) ∧ Below w.heap.size w w' := by
  obtain ⟨j0, ji, jz0, jz1, jz2⟩ := info_parts Tryz.infoInt
  have hnl : ns.length = n := by have := hn.1; simp [nmv] at this; exact this
  have hcell : ∀ wr : World, Below w.heap.size w wr → ∀ j, j < n → ∃ g c x, na = some ⟨g, 0, none⟩ ∧ nc = c ∧ (n : Int) ≤ (c : Int) ∧ wr.cell? ⟨g, j, none⟩ = some (.string x) ∧ DecQ x := fun wr hb j hj => by
    obtain ⟨g, cp, e⟩ := own_some hn (by omega)
    injection e with e1 e2 e3
    subst e1 e3
    have hn2 := own_bel hn (Nat.le_refl _) hb
    have hc := World.ownsRow.cellAt hn2 j (by omega)
    refine ⟨g, nc, ns[j]'(by omega), rfl, rfl, by have := (own_len hn).1; omega, ?_, hd _ (List.getElem_mem _)⟩
    rw [hc]
    simp [nmv, List.getElem?_eq_getElem (show j < ns.length by omega)]
  have HC := Lib.hid hcell
  have hlI : (n : Int) ≤ 3000000000 := by omega
  obtain ⟨B, hBw⟩ : ∃ B, B = w.heap.size + 1 + 1 := ⟨_, rfl⟩
  unfold tightV
  clear hcell hn hd hnl
  go_enter Tryz.func46, Tryz.ntmps46
  go_upto_region 2 with fail
  have T0 : TyB (((w.alloc (.cells #[.bool false, .bool false, .bool false, .bool false, .bool true, .bool false, .bool false, .bool false, .bool false, .bool false, .bool false, .string ⟨#[]⟩, .string ⟨#[]⟩] 41)).alloc (.cells #[.int .u8 k, .string t, .slice na n nc, .slice ka kl kc] 25)).alloc (.cells #[] 3)) w.heap.size := ((TyB.new w).alloc _).alloc _
  have N0 : NodeB (((w.alloc (.cells #[.bool false, .bool false, .bool false, .bool false, .bool true, .bool false, .bool false, .bool false, .bool false, .bool false, .bool false, .string ⟨#[]⟩, .string ⟨#[]⟩] 41)).alloc (.cells #[.int .u8 k, .string t, .slice na n nc, .slice ka kl kc] 25)).alloc (.cells #[] 3)) (w.heap.size + 1) k t (.slice na n nc) (.slice ka kl kc) := ⟨25, (Below.heap_alloc _ _ _ (by simp)).trans (by have := heap_alloc_new (w.alloc (.cells #[.bool false, .bool false, .bool false, .bool false, .bool true, .bool false, .bool false, .bool false, .bool false, .bool false, .bool false, .string ⟨#[]⟩, .string ⟨#[]⟩] 41)) (.cells #[.int .u8 k, .string t, .slice na n nc, .slice ka kl kc] 25); simpa using this)⟩
  have R0 : (((w.alloc (.cells #[.bool false, .bool false, .bool false, .bool false, .bool true, .bool false, .bool false, .bool false, .bool false, .bool false, .bool false, .string ⟨#[]⟩, .string ⟨#[]⟩] 41)).alloc (.cells #[.int .u8 k, .string t, .slice na n nc, .slice ka kl kc] 25)).alloc (.cells #[] 3)).ownsRow B 3 1 (.slice (some ⟨w.heap.size + 1 + 1, 0, none⟩) 0 0) 0 (iota 0) := by
    have := World.ownsRow_lit (e := 3) (size := 1) ((w.alloc (.cells #[.bool false, .bool false, .bool false, .bool false, .bool true, .bool false, .bool false, .bool false, .bool false, .bool false, .bool false, .string ⟨#[]⟩, .string ⟨#[]⟩] 41)).alloc (.cells #[.int .u8 k, .string t, .slice na n nc, .slice ka kl kc] 25)) #[] 0 (Nat.le_refl _) (Nat.zero_le _) rfl
    simp only [World.size_alloc] at this
    exact own_keep this (by omega) fun _ _ => rfl
  have S0 : B ≤ (((w.alloc (.cells #[.bool false, .bool false, .bool false, .bool false, .bool true, .bool false, .bool false, .bool false, .bool false, .bool false, .bool false, .string ⟨#[]⟩, .string ⟨#[]⟩] 41)).alloc (.cells #[.int .u8 k, .string t, .slice na n nc, .slice ka kl kc] 25)).alloc (.cells #[] 3)).heap.size := by simp; omega
  have b0 : Below w.heap.size w (((w.alloc (.cells #[.bool false, .bool false, .bool false, .bool false, .bool true, .bool false, .bool false, .bool false, .bool false, .bool false, .bool false, .string ⟨#[]⟩, .string ⟨#[]⟩] 41)).alloc (.cells #[.int .u8 k, .string t, .slice na n nc, .slice ka kl kc] 25)).alloc (.cells #[] 3)) := ((bwY w _).alloc (by simp) _).alloc (by simp; omega) _
  revert T0 N0 R0 b0 S0
  generalize (((w.alloc (.cells #[.bool false, .bool false, .bool false, .bool false, .bool true, .bool false, .bool false, .bool false, .bool false, .bool false, .bool false, .string ⟨#[]⟩, .string ⟨#[]⟩] 41)).alloc (.cells #[.int .u8 k, .string t, .slice na n nc, .slice ka kl kc] 25)).alloc (.cells #[] 3)) = w1
  intro T0 N0 R0 S0 b0
  obtain ⟨c0, c1, c2, c3, fc0, fc1, fc2, fc3⟩ := N0.cells
  go_wp2_with fail
  clear c0 c1 c2 c3 fc0 fc1 fc2 fc3
  go_loopg [5, 6, 7, 8, 9, 16] n (fun g o i a2 d2 k2 c wr => ∃ (j : Nat) (v' : Value), c = .int .i64 j ∧ o = v' ∧ j ≤ n ∧ n - j ≤ g ∧ wr.ownsRow B 3 1 v' j (iota j) ∧ Below w.heap.size w wr ∧ TyB wr w.heap.size ∧ NodeB wr (w.heap.size + 1) k t (.slice na n nc) (.slice ka kl kc) ∧ B ≤ wr.heap.size)
  case atStart => exact ⟨0, _, rfl, rfl, Nat.zero_le _, by omega, R0, b0, T0, N0, S0⟩
  case round =>
    clear R0 b0 T0 N0 S0
    obtain ⟨j, v', rfl, hv', hj, hg, hrow, hbel, hT, hN, hBr⟩ := hrel
    obtain rfl := hv'.symm
    by_cases hlt : j < n
    case neg =>
      obtain rfl : j = n := by omega
      go_wp2_with fail
      all_goals go_ret
      exact ⟨_, rfl, own_keep hrow (by omega) (fun _ _ => rfl), hbel⟩
    have hjI : (j : Int) < (n : Int) := by omega
    have hvB : ∀ g, v'.ownBlock = some g → B ≤ g := fun g e => (hrow.lt g e).1
    go_upto_region 6 with (at_builtin; refine wpList_append_own _ rfl (.tmp 19) (.tmp 21) 96 (by rfl) B 3 j0 (.int .i64 0) 1 8 Tryz.underlying96 ji jz0 jz1 jz2 rfl (by decide) _ j (iota j) rfl (World.ownsRow.alloc hrow _) ⟨wr.heap.size, 0, none⟩ 1 1 [.int .i64 (j : Int)] rfl rfl (cell_one_y _ _ _) (by intro u hu; simp at hu; subst hu; rfl) (by unfold maxLen; omega) (by omega) (by simp; omega) ?_; intro v3 w3 hrow3 hgr3 hgl3; clear hgl3)
    have hb3 := grown_bel hvB hgr3 hBr
    rw [← iota_succ] at hrow3
    have hb3w : Below w.heap.size w w3 := hbel.trans (hb3.mono (by omega))
    have hT3 : TyB w3 w.heap.size := (hb3.block _ (by omega)).trans hT
    have hN3 : NodeB w3 (w.heap.size + 1) k t (.slice na n nc) (.slice ka kl kc) := by obtain ⟨T, h⟩ := hN; exact ⟨T, (hb3.block _ (by omega)).trans h⟩
    have hB3 : B ≤ w3.heap.size := Nat.le_trans hBr hb3.size
    obtain ⟨g, c, x, rfl, rfl, hnc, hcx, hdx⟩ := HC.out w3 hb3w j hlt
    obtain ⟨c0, c1, c2, c3, fc0, fc1, fc2, fc3⟩ := hN3.cells
    clear hrow hgr3 hb3 hbel hT hN hBr hvB
    go_upto_region 7 with (go_at_call 22; refine (hdx _).mono ?_; rintro e w4 ⟨X4, C4, rfl, hb4⟩)
    have hT4 := hT3.below hb4
    have hN4 := hN3.bel hb4
    have hrow4 := own_bel hrow3 (Nat.le_refl _) hb4
    have hb4w : Below w.heap.size w w4 := bwY2 hb3w hb4
    have hB4 : B ≤ w4.heap.size := Nat.le_trans hB3 hb4.size
    obtain ⟨e0, e1, e2, e3, e4, e5, e6, e7, e8, e9, e10, e11, e12⟩ := hT4.cells
    clear c0 c1 c2 c3 fc0 fc1 fc2 fc3 hcx hdx hT3 hN3 hrow3 hb3w hb4 hB3 e0 e1 e2 e3 e4 e5 e6 e8 e9 e10 e11 e12
    go_wp2_with fail
    refine wp_loop_rounds 1 ?_
    rw [rounds_succ]
    go_wp2_with fail
    go_roundg (gk - 1)
    case measure => omega
    case rel => exact ⟨j + 1, v3, by go_num, rfl, by omega, by omega, hrow4, hb4w, hT4, hN4, hB4⟩
end
section
/- (Dn) Decode takes what a loose reader has taken. Lines of XUd, XCp by program (gendd.py). -/
open Go.RowKit

/-- What a digit that is read tells. -/
theorem hex_ok {s : ByteArray} {σ σ' : St} {x y : Int} (h : St.hex s σ x y = (true, σ')) : x ≤ hexV (bAt s σ.at_) ∧ hexV (bAt s σ.at_) ≤ y ∧ σ' = { σ with at_ := σ.at_ + 1 } := by
  unfold St.hex at h
  split at h
  · cases h
  · rename_i hn
    injection h with _ h2
    exact ⟨by omega, by omega, h2.symm⟩
theorem then_ok {p : Bool × St} {f : St → Bool × St} {σ' : St} (h : St.andThen p f = (true, σ')) : ∃ τ, p = (true, τ) ∧ f τ = (true, σ') := by
  unfold St.andThen at h
  split at h
  · rename_i hp; exact ⟨p.2, Prod.ext hp rfl, h⟩
  · cases h
theorem need_ok {s : ByteArray} {σ σ' : St} {x y : Int} (h : St.need s σ x y = (true, σ')) : σ.at_ < s.size ∧ x ≤ bAt s σ.at_ ∧ bAt s σ.at_ ≤ y ∧ σ' = { σ with at_ := σ.at_ + 1 } := by
  unfold St.need at h
  split at h
  · rename_i hn
    injection h with _ h2
    exact ⟨hn.1, hn.2.1, hn.2.2, h2.symm⟩
  · cases h
theorem hexV_in {s : ByteArray} {i : Nat} (h : 0 ≤ hexV (bAt s i)) : i < s.size := by
  by_cases hl : i < s.size
  · exact hl
  · rw [bAt_ge hl] at h; exact absurd h (by decide)
theorem hex4_ok {s : ByteArray} {σ σ' : St} (h : St.hex4 s σ = (true, σ')) : σ' = { σ with at_ := σ.at_ + 4 } ∧ hexAll s σ.at_ 4 = true ∧ σ.at_ + 4 ≤ s.size := by
  obtain ⟨τ1, h1, h⟩ := then_ok h
  obtain ⟨a1, _, rfl⟩ := hex_ok h1
  obtain ⟨τ2, h2, h⟩ := then_ok h
  obtain ⟨a2, _, rfl⟩ := hex_ok h2
  obtain ⟨τ3, h3, h⟩ := then_ok h
  obtain ⟨a3, _, rfl⟩ := hex_ok h3
  obtain ⟨a4, _, rfl⟩ := hex_ok h
  dsimp only at a1 a2 a3 a4
  have := hexV_in a4
  refine ⟨rfl, ?_, by omega⟩
  simp only [hexAll, Nat.add_zero, Bool.and_eq_true, decide_eq_true_eq, true_and]
  exact ⟨⟨⟨a1, a2⟩, a3⟩, a4⟩
/-- The inside of a string, byte by byte, as a loose reader takes it. -/
inductive Lg (t : ByteArray) : Nat → Prop
  | done (k : Nat) (h : k = t.size) : Lg t k
  | plain (k : Nat) (h : k < t.size) (h92 : bAt t k ≠ 92) (r : Lg t (k + 1)) : Lg t k
  | esc2 (k : Nat) (h : k + 2 ≤ t.size) (h92 : bAt t k = 92) (he : 0 ≤ escC (bAt t (k + 1))) (r : Lg t (k + 2)) : Lg t k
  | escU (k : Nat) (h : k + 6 ≤ t.size) (h92 : bAt t k = 92) (h117 : bAt t (k + 1) = 117) (hx : hexAll t (k + 2) 4 = true) (r : Lg t (k + 6)) : Lg t k
theorem hexAll_eq {s t : ByteArray} {i j : Nat} : ∀ k, (∀ a, a < k → bAt t (j + a) = bAt s (i + a)) → hexAll t j k = hexAll s i k
  | 0, _ => rfl
  | k + 1, h => by
    rw [hexAll, hexAll, hexAll_eq k (fun a ha => h a (by omega)), h k (by omega)]
theorem lg_loop {s t : ByteArray} {n0 : Nat} (hS : ∀ i, i < t.size → bAt t i = bAt s (n0 + i)) : ∀ (g : Nat) (σ σ' : St), St.strLoop s true g σ = (true, σ') → n0 ≤ σ.at_ → σ'.at_ = n0 + t.size → σ.at_ ≤ σ'.at_ ∧ Lg t (σ.at_ - n0) ∧ bAt s σ'.at_ = 34 ∧ σ'.at_ < s.size
  | 0, σ, σ', h, _, _ => by unfold St.strLoop at h; injection h with h; cases h
  | g + 1, σ, σ', h, hn, he => by
    unfold St.strLoop at h
    by_cases hlt : σ.at_ < s.size
    case neg => rw [if_neg hlt] at h; injection h with h; cases h
    rw [if_pos hlt] at h
    by_cases h34 : bAt s σ.at_ = 34
    · rw [if_pos h34] at h
      injection h with _ h
      subst h
      exact ⟨Nat.le_refl _, .done _ (by omega), h34, hlt⟩
    rw [if_neg h34] at h
    obtain ⟨τ, h1, h2⟩ := then_ok h
    unfold St.inner at h1
    dsimp only at h1
    by_cases h92 : bAt s σ.at_ = 92
    · rw [if_pos h92] at h1
      unfold St.escape at h1
      dsimp only at h1
      by_cases hc : bAt s (σ.at_ + 1) = 34 ∨ bAt s (σ.at_ + 1) = 92 ∨ bAt s (σ.at_ + 1) = 47 ∨ bAt s (σ.at_ + 1) = 98 ∨ bAt s (σ.at_ + 1) = 102 ∨ bAt s (σ.at_ + 1) = 110 ∨ bAt s (σ.at_ + 1) = 114 ∨ bAt s (σ.at_ + 1) = 116
      · rw [if_pos hc] at h1
        injection h1 with _ h1
        subst h1
        obtain ⟨a1, a2, a3, a4⟩ := lg_loop hS g _ σ' h2 (by dsimp only; omega) he
        dsimp only at a1 a2
        refine ⟨by omega, ?_, a3, a4⟩
        have b0 : bAt t (σ.at_ - n0) = 92 := by rw [hS _ (by omega), Nat.add_sub_cancel' hn]; exact h92
        have b1 : bAt t (σ.at_ - n0 + 1) = bAt s (σ.at_ + 1) := by rw [hS _ (by omega)]; congr 1; omega
        have b2 : 0 ≤ escC (bAt t (σ.at_ - n0 + 1)) := by
          rw [b1]
          rcases hc with h | h | h | h | h | h | h | h <;> (rw [h]; decide)
        exact .esc2 _ (by omega) b0 b2 (by rw [show σ.at_ - n0 + 2 = σ.at_ + 1 + 1 - n0 by omega]; exact a2)
      rw [if_neg hc] at h1
      by_cases h117 : bAt s (σ.at_ + 1) = 117
      · rw [if_pos h117] at h1
        have e : St.unit s true false { σ with at_ := σ.at_ + 1 + 1 } = ((St.hex4 s { σ with at_ := σ.at_ + 1 + 1 }).1, false, (St.hex4 s { σ with at_ := σ.at_ + 1 + 1 }).2) := by unfold St.unit; rw [if_pos rfl]
        rw [e] at h1
        dsimp only at h1
        rw [Bool.and_false, if_neg (by decide)] at h1
        injection h1 with h3 h4
        obtain ⟨x1, x2, x3⟩ := hex4_ok (s := s) (σ := { σ with at_ := σ.at_ + 1 + 1 }) (σ' := τ) (by rw [← h3, ← h4])
        dsimp only at x1 x2 x3
        subst x1
        obtain ⟨a1, a2, a3, a4⟩ := lg_loop hS g _ σ' h2 (by dsimp only; omega) he
        dsimp only at a1 a2
        refine ⟨by omega, ?_, a3, a4⟩
        have b0 : bAt t (σ.at_ - n0) = 92 := by rw [hS _ (by omega), Nat.add_sub_cancel' hn]; exact h92
        have b1 : bAt t (σ.at_ - n0 + 1) = 117 := by rw [hS _ (by omega), ← h117]; congr 1; omega
        have b2 : hexAll t (σ.at_ - n0 + 2) 4 = true := by
          rw [hexAll_eq (s := s) (i := σ.at_ + 1 + 1) 4 (fun a ha => by rw [hS _ (by omega)]; congr 1; omega)]; exact x2
        exact .escU _ (by omega) b0 b1 b2 (by rw [show σ.at_ - n0 + 6 = σ.at_ + 1 + 1 + 4 - n0 by omega]; exact a2)
      · rw [if_neg h117] at h1
        injection h1 with h1
        cases h1
    rw [if_neg h92] at h1
    by_cases h32 : bAt s σ.at_ < 32
    · rw [if_pos h32] at h1; injection h1 with h1; cases h1
    rw [if_neg h32, if_pos (.inr rfl)] at h1
    injection h1 with _ h1
    subst h1
    obtain ⟨a1, a2, a3, a4⟩ := lg_loop hS g _ σ' h2 (by dsimp only; omega) he
    dsimp only at a1 a2
    refine ⟨by omega, ?_, a3, a4⟩
    exact .plain _ (by omega) (by rw [hS _ (by omega), Nat.add_sub_cancel' hn]; exact h92) (by rw [show σ.at_ - n0 + 1 = σ.at_ + 1 - n0 by omega]; exact a2)
theorem lg_skip {t : ByteArray} : ∀ (d k : Nat), Lg t k → (∀ j, j < d → k + j < t.size ∧ bAt t (k + j) ≠ 92) → Lg t (k + d)
  | 0, k, h, _ => h
  | d + 1, k, h, hj => by
    have h0 := hj 0 (by omega)
    rw [Nat.add_zero] at h0
    have h1 : Lg t (k + 1) := by
      cases h with
      | done _ h => omega
      | plain _ _ _ r => exact r
      | esc2 _ _ h92 _ _ => exact absurd h92 h0.2
      | escU _ _ h92 _ _ _ => exact absurd h92 h0.2
    have := lg_skip d (k + 1) h1 (fun j hd => by have := hj (j + 1) (by omega); rwa [show k + (j + 1) = k + 1 + j by omega] at this)
    rwa [show k + 1 + d = k + (d + 1) by omega] at this
theorem lg_at {t : ByteArray} : ∀ (m k : Nat), t.size - k ≤ m → Lg t k → At t k := by
  intro m
  induction m using Nat.strongRecOn with
  | _ m ih =>
  intro k hm h
  have step : ∀ d, d ≠ 0 → (bAt t k = 92 → EscOk t k) → (dS t k).2.1 = d → k < t.size → k + d ≤ t.size → Lg t (k + d) → At t k := fun d h0 he hd hk hf hr =>
    .step k hk he (by rw [hd]; exact h0) (by rw [hd]; exact hf) (by rw [hd]; exact ih (t.size - (k + d)) (by omega) (k + d) (Nat.le_refl _) hr)
  cases h with
  | done _ h => exact .done k h
  | plain _ hk h92 r =>
    by_cases hu : uw t k = 0
    · exact step 1 (by decide) (fun h => absurd h h92) (by unfold dS; rw [if_neg h92, if_pos hu]) hk (by omega) r
    · have hf := uw_fit t k hu
      refine step (uw t k) hu (fun h => absurd h h92) (by unfold dS; rw [if_neg h92, if_neg hu]) hk hf (lg_skip _ _ (.plain k hk h92 r) fun j hj => ⟨by omega, ?_⟩)
      by_cases hj0 : j = 0
      · subst hj0; exact h92
      · have := uw_inner t k hu (k + j) (by omega) (by omega)
        omega
  | esc2 _ hk h92 he r =>
    have h117 : bAt t (k + 1) ≠ 117 := fun h => by rw [h] at he; revert he; decide
    exact step 2 (by decide) (fun _ => ⟨by omega, .inl he⟩) (by unfold dS escD; rw [if_pos h92, if_neg h117]) (by omega) hk r
  | escU _ hk h92 h117 hx r =>
    have hU : unitD t k = (hexPre t (k + 2) 4, true) := by unfold unitD; rw [if_neg (by omega), if_neg (by omega), if_neg (by omega), if_neg (by rw [hx]; decide)]
    have hE : EscOk t k := ⟨by omega, .inr ⟨h117, by rw [hU]⟩⟩
    by_cases hs : surB (unitD t k).1 = false
    · exact step 6 (by decide) (fun _ => hE) (by unfold dS escD; rw [if_pos h92, if_pos h117, if_pos hs]) (by omega) hk r
    by_cases hp : (unitD t k).1 < 56320 ∧ (unitD t (k + 6)).2 = true ∧ 56320 ≤ (unitD t (k + 6)).1 ∧ (unitD t (k + 6)).1 ≤ 57343
    · have h2 := hp.2.1
      unfold unitD at h2
      split at h2
      · cases h2
      · rename_i q1
        split at h2
        · cases h2
        · rename_i q2
          split at h2
          · cases h2
          · rename_i q3
            have r12 : Lg t (k + 6 + 6) := by
              cases r with
              | done _ h => omega
              | plain _ _ h _ => omega
              | esc2 _ _ _ h _ =>
                exfalso
                rw [show bAt t (k + 6 + 1) = 117 by omega] at h
                revert h; decide
              | escU _ _ _ _ _ r => exact r
            exact step 12 (by decide) (fun _ => hE) (by unfold dS escD; rw [if_pos h92, if_pos h117, if_neg hs, if_pos hp]) (by omega) (by omega) r12
    · exact step 6 (by decide) (fun _ => hE) (by unfold dS escD; rw [if_pos h92, if_pos h117, if_neg hs, if_neg hp]) (by omega) hk r
/-- What a loose reader takes between quotation marks, Decode takes. -/
theorem dec_loose (s : ByteArray) (hs : s.size ≤ 2500000000) {σ σ' : St} (h : St.quoted s true σ = (true, σ')) : (s.extract σ.at_ (σ'.at_ + 1)).size ≤ s.size ∧ DecQ (s.extract σ.at_ (σ'.at_ + 1)) := by
  obtain ⟨τ, g1, g2⟩ := then_ok h
  obtain ⟨a1, a2, a3, rfl⟩ := need_ok g1
  dsimp only at g2
  have hq := quoted_end (s := s) true (σ := σ)
  rw [h] at hq
  obtain ⟨hlt, h34⟩ := hq rfl
  dsimp only at hlt h34
  have hge : σ.at_ + 1 ≤ σ'.at_ := by
    have := (St.strLoop_adv (s := s) true (s.size - (σ.at_ + 1)) { σ with at_ := σ.at_ + 1 } (by dsimp only; omega)).1
    rw [g2] at this
    exact this
  obtain ⟨N, hN⟩ : ∃ N, s.extract σ.at_ (σ'.at_ + 1) = N := ⟨_, rfl⟩
  rw [hN]
  have hNz : N.size = σ'.at_ + 1 - σ.at_ := by rw [← hN, ByteArray.size_extract]; omega
  have hNb : ∀ i, i < N.size → bAt N i = bAt s (σ.at_ + i) := fun i hi => by
    rw [bAt_lt hi, bAt_lt (s := s) (i := σ.at_ + i) (by omega)]
    congr 2
    subst hN
    rw [ByteArray.getElem_extract]
  obtain ⟨t, ht⟩ : ∃ t, N.extract 1 (N.size - 1) = t := ⟨_, rfl⟩
  have htz : t.size = N.size - 2 := by rw [← ht, ByteArray.size_extract]; omega
  have htb : ∀ i, i < t.size → bAt t i = bAt s (σ.at_ + 1 + i) := fun i hi => by
    rw [show σ.at_ + 1 + i = σ.at_ + (i + 1) by omega, ← hNb (i + 1) (by omega), bAt_lt hi, bAt_lt (s := N) (i := i + 1) (by omega)]
    congr 2
    subst ht
    rw [ByteArray.getElem_extract]
    congr 1
    omega
  obtain ⟨l1, l2, -, -⟩ := lg_loop htb _ { σ with at_ := σ.at_ + 1 } σ' g2 (Nat.le_refl _) (by omega)
  dsimp only at l2
  rw [Nat.sub_self] at l2
  have hat := lg_at t.size 0 (by omega) l2
  exact ⟨by omega, fun w => (specDecode_any N t w (by omega) (by omega) ht hat).mono fun e w' ⟨h1, h2⟩ => ⟨_, _, h1, h2⟩⟩
end
end Go.Proofs.YtjbffgjclnjkoaaGreatDoor
