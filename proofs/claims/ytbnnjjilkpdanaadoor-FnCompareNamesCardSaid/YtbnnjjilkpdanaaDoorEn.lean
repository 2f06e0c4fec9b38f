/- The bytes of a character. -/
import Derived.Test.YtbnnjjilkpdanaaDoorCw
namespace Go.Proofs.YtbnnjjilkpdanaaDoor
open Go.RowKit
set_option linter.unusedVariables false
theorem txt_conv (l : List Int) (hl : ∀ x ∈ l, 0 ≤ x ∧ x < 256) (w : World) (T : TypeId) (cap : Nat) :
    (convert 46 9 (.slice (some ⟨w.heap.size, 0, none⟩) l.length cap)).run Tryd.prog (w.alloc (.cells (l.map (Value.int .u8)).toArray T)) = .ok (.string (txt l)) (w.alloc (.cells (l.map (Value.int .u8)).toArray T)) := by
  have hB : Lib.Bytes (w.alloc (.cells (l.map (Value.int .u8)).toArray T)) w.heap.size 0 (txt l) := by
    intro i hi
    rw [txt_size] at hi
    have hg : (txt l)[i]'(by rw [txt_size]; exact hi) = UInt8.ofNat (l[i]).toNat := by
      show (txt l).data[i]'_ = _
      unfold txt; simp
    have := hl l[i] (List.getElem_mem hi)
    have e : ((UInt8.ofNat (l[i]).toNat).toNat : Int) = l[i] := by
      rw [UInt8.toNat_ofNat']; omega
    rw [hg, e, Nat.zero_add]
    have hh := heap_alloc_new w (.cells (l.map (Value.int .u8)).toArray T)
    simp only [World.cell?, hh]
    simp [hi]
  have h := Lib.run_convert_whole (P := Tryd.prog) _ 46 5 9 Tryd.underlying46 Tryd.underlying5 Tryd.underlying9 w.heap.size 0 (txt l) hB cap
  rw [txt_size] at h
  exact h
set_option maxRecDepth 100000 in
theorem enc_1 (c : Int) (h0 : 0 ≤ c) (h1 : c < 128) (w : World) :
    Calls Tryd.prog 19 #[.int .i64 c] w fun e w' => e = .returned (.string (txt [c])) ∧ Below w.heap.size w w' := by
  have hc : ∀ w : World, (convert 46 9 (.slice (some ⟨w.heap.size, 0, none⟩) 1 1)).run Tryd.prog (w.alloc (.cells #[.int .u8 c] 5)) = .ok (.string (txt [c])) (w.alloc (.cells #[.int .u8 c] 5)) := fun w => txt_conv [c] (by simp; omega) w 5 1
  go_enter Tryd.func19, Tryd.ntmps19
  go_wp2
  all_goals go_ret
  exact ⟨rfl, (Below.refl _ _).alloc (Nat.le_refl _) _⟩
theorem mask6 (x : Int) (h0 : 0 ≤ x) (h1 : x < 9223372036854775808) : bits .and .i64 x 63 = x % 64 := bits_mask .i64 63 (by decide) (fun n a b => by rw [IntKind.wrap_i64]; omega) 6 (by decide) x h0 h1
set_option maxRecDepth 100000 in
theorem enc_2 (c : Int) (h0 : 128 ≤ c) (h1 : c < 2048) (w : World) :
    Calls Tryd.prog 19 #[.int .i64 c] w fun e w' => e = .returned (.string (txt [192 + c / 64, 128 + c % 64])) ∧ Below w.heap.size w w' := by
  have hm := mask6 c (by omega) (by omega)
  obtain ⟨M, hM⟩ : ∃ M, c % 64 = M := ⟨_, rfl⟩
  rw [hM] at hm ⊢
  have m2 : M % 256 = M := by omega
  have m3 : (128 + M) % 256 = 128 + M := by omega
  have hc : ∀ w : World, (convert 46 9 (.slice (some ⟨w.heap.size, 0, none⟩) 2 2)).run Tryd.prog (w.alloc (.cells #[.int .u8 (192 + c / 64), .int .u8 (128 + M)] 5)) = .ok (.string (txt [192 + c / 64, 128 + M])) (w.alloc (.cells #[.int .u8 (192 + c / 64), .int .u8 (128 + M)] 5)) := fun w => txt_conv [192 + c / 64, 128 + M] (by simp; omega) w 5 2
  clear hM
  go_enter Tryd.func19, Tryd.ntmps19
  go_wp2
  all_goals go_ret
  exact ⟨rfl, (Below.refl _ _).alloc (Nat.le_refl _) _⟩
set_option maxRecDepth 100000 in
theorem enc_3 (c : Int) (h0 : 2048 ≤ c) (h1 : c < 65536) (h2 : c < 55296 ∨ 57343 < c) (w : World) :
    Calls Tryd.prog 19 #[.int .i64 c] w fun e w' => e = .returned (.string (txt [224 + c / 4096, 128 + c / 64 % 64, 128 + c % 64])) ∧ Below w.heap.size w w' := by
  have hm := mask6 c (by omega) (by omega)
  have hk := mask6 (c / 64) (by omega) (by omega)
  obtain ⟨M, hM⟩ : ∃ M, c % 64 = M := ⟨_, rfl⟩
  obtain ⟨K, hK⟩ : ∃ K, c / 64 % 64 = K := ⟨_, rfl⟩
  rw [hM] at hm ⊢
  rw [hK] at hk ⊢
  have m2 : M % 256 = M := by omega
  have m3 : (128 + M) % 256 = 128 + M := by omega
  have k2 : K % 256 = K := by omega
  have k3 : (128 + K) % 256 = 128 + K := by omega
  have hc : ∀ w : World, (convert 46 9 (.slice (some ⟨w.heap.size, 0, none⟩) 3 3)).run Tryd.prog (w.alloc (.cells #[.int .u8 (224 + c / 4096), .int .u8 (128 + K), .int .u8 (128 + M)] 5)) = .ok (.string (txt [224 + c / 4096, 128 + K, 128 + M])) (w.alloc (.cells #[.int .u8 (224 + c / 4096), .int .u8 (128 + K), .int .u8 (128 + M)] 5)) := fun w => txt_conv [224 + c / 4096, 128 + K, 128 + M] (by simp; omega) w 5 3
  clear hM hK
  rcases h2 with h2 | h2
  all_goals
    go_enter Tryd.func19, Tryd.ntmps19
    go_wp2
    all_goals go_ret
    exact ⟨rfl, (Below.refl _ _).alloc (Nat.le_refl _) _⟩
set_option maxRecDepth 100000 in
theorem enc_4 (c : Int) (h0 : 65536 ≤ c) (h1 : c < 1114112) (w : World) :
    Calls Tryd.prog 19 #[.int .i64 c] w fun e w' => e = .returned (.string (txt [240 + c / 262144, 128 + c / 4096 % 64, 128 + c / 64 % 64, 128 + c % 64])) ∧ Below w.heap.size w w' := by
  have hm := mask6 c (by omega) (by omega)
  have hk := mask6 (c / 64) (by omega) (by omega)
  have hl := mask6 (c / 4096) (by omega) (by omega)
  obtain ⟨M, hM⟩ : ∃ M, c % 64 = M := ⟨_, rfl⟩
  obtain ⟨K, hK⟩ : ∃ K, c / 64 % 64 = K := ⟨_, rfl⟩
  obtain ⟨L, hL⟩ : ∃ L, c / 4096 % 64 = L := ⟨_, rfl⟩
  rw [hM] at hm ⊢
  rw [hK] at hk ⊢
  rw [hL] at hl ⊢
  have m2 : M % 256 = M := by omega
  have m3 : (128 + M) % 256 = 128 + M := by omega
  have k2 : K % 256 = K := by omega
  have k3 : (128 + K) % 256 = 128 + K := by omega
  have l2 : L % 256 = L := by omega
  have l3 : (128 + L) % 256 = 128 + L := by omega
  have hc : ∀ w : World, (convert 46 9 (.slice (some ⟨w.heap.size, 0, none⟩) 4 4)).run Tryd.prog (w.alloc (.cells #[.int .u8 (240 + c / 262144), .int .u8 (128 + L), .int .u8 (128 + K), .int .u8 (128 + M)] 5)) = .ok (.string (txt [240 + c / 262144, 128 + L, 128 + K, 128 + M])) (w.alloc (.cells #[.int .u8 (240 + c / 262144), .int .u8 (128 + L), .int .u8 (128 + K), .int .u8 (128 + M)] 5)) := fun w => txt_conv [240 + c / 262144, 128 + L, 128 + K, 128 + M] (by simp; omega) w 5 4
  clear hM hK hL
  go_enter Tryd.func19, Tryd.ntmps19
  go_wp2
  all_goals go_ret
  exact ⟨rfl, (Below.refl _ _).alloc (Nat.le_refl _) _⟩
end Go.Proofs.YtbnnjjilkpdanaaDoor
