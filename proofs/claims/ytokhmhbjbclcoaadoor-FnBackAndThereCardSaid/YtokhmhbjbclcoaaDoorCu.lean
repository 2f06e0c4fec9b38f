/- Comparing by the units of UTF-16: the small functions. -/
import Derived.Test.YtokhmhbjbclcoaaDoorDt
import Derived.Test.YtokhmhbjbclcoaaDoorDc
import Derived.Lib.ConvBytes
import Derived.Lib.SlBytesRow
import Derived.Handy
import Derived.Laws.BitsLemmas
import Derived.WalkLawsBesides
import Derived.WalkSpells
import Derived.Lib.Hide
namespace Go.Proofs.YtokhmhbjbclcoaaDoor
set_option linter.unusedVariables false
set_option linter.unusedSimpArgs false
open Go.RowKit

def cmpB (x y : Int) : Int := if x < y then -1 else if y < x then 1 else 0
theorem cmpB_lt {x y : Int} (h : x < y) : cmpB x y = -1 := by unfold cmpB; rw [if_pos h]
theorem cmpB_gt {x y : Int} (h : y < x) : cmpB x y = 1 := by unfold cmpB; rw [if_neg (by omega), if_pos h]
theorem cmpB_eq (x : Int) : cmpB x x = 0 := by unfold cmpB; rw [if_neg (by omega), if_neg (by omega)]

/-- One unit of UTF-16 stands for it. -/
def selfU (r : Int) : Bool := (decide (0 ≤ r) && decide (r ≤ 55295)) || (decide (57344 ≤ r) && decide (r ≤ 65535))
def invU (r n : Int) : Bool := (r == 65533) && (n == 1)
theorem inv_any (r n : Int) (w : World) : Calls Tryd.prog 74 #[.int .i32 r, .int .i64 n] w fun e w' => e = .returned (.bool (invU r n)) ∧ w' = w := by
  go_enter Tryd.func74, Tryd.ntmps74
  go_wp2
  all_goals go_ret
  all_goals exact ⟨by unfold invU; simp [*], rfl⟩
/-- The first unit of the pair of a character past the plain ones. -/
def hiU (r : Int) : Int := if r < 65536 ∨ 1114111 < r then 65533 else 55296 + (r - 65536) / 1024
def loU (r : Int) : Int := if r < 65536 ∨ 1114111 < r then 65533 else 56320 + (r - 65536) % 1024
theorem enc_any (r : Int) (w : World) : Calls Tryd.prog 84 #[.int .i32 r] w fun e w' => e = .returned (.tuple #[.int .i32 (hiU r), .int .i32 (loU r)]) ∧ w' = w := by
  by_cases h1 : r < 65536
  · have HE := Lib.hid (show hiU r = 65533 by unfold hiU; rw [if_pos (Or.inl h1)])
    have HL := Lib.hid (show loU r = 65533 by unfold loU; rw [if_pos (Or.inl h1)])
    go_enter Tryd.func84, Tryd.ntmps84
    go_wp2
    all_goals go_ret2
    all_goals exact ⟨by rw [HE.out, HL.out]; first | done | rfl, rfl⟩
  · by_cases h2 : 1114111 < r
    · have HE := Lib.hid (show hiU r = 65533 by unfold hiU; rw [if_pos (Or.inr h2)])
      have HL := Lib.hid (show loU r = 65533 by unfold loU; rw [if_pos (Or.inr h2)])
      go_enter Tryd.func84, Tryd.ntmps84
      go_wp2
      all_goals go_ret2
      all_goals exact ⟨by rw [HE.out, HL.out]; first | done | rfl, rfl⟩
    · have m1 : bits .and .i32 ((r - 65536) / 1024) 1023 = (r - 65536) / 1024 := (bits_mask .i32 31 (by decide) wraps_i32 10 (by decide) _ (by omega) (by omega)).trans (by omega)
      have m2 : bits .and .i32 (r - 65536) 1023 = (r - 65536) % 1024 := bits_mask .i32 31 (by decide) wraps_i32 10 (by decide) _ (by omega) (by omega)
      have m3 : wrap32 (55296 + (r - 65536) / 1024) = 55296 + (r - 65536) / 1024 := by unfold wrap32; omega
      have m4 : wrap32 (56320 + (r - 65536) % 1024) = 56320 + (r - 65536) % 1024 := by unfold wrap32; omega
      have HE := Lib.hid (show hiU r = 55296 + (r - 65536) / 1024 by unfold hiU; rw [if_neg (by omega)])
      have HL := Lib.hid (show loU r = 56320 + (r - 65536) % 1024 by unfold loU; rw [if_neg (by omega)])
      go_enter Tryd.func84, Tryd.ntmps84
      go_wp2
      all_goals go_ret2
      all_goals exact ⟨by rw [HE.out, HL.out]; first | done | (simp [*]; done) | rfl, rfl⟩

theorem decode_from (a : ByteArray) (i b cap : Nat) (w : World) (hi : i < a.size) (hT : Tabs w) (hB : Lib.Bytes w b 0 a) :
    Calls Tryd.prog 60 #[.slice (some ⟨b, i, none⟩) (a.size - i) cap] w fun e w' => e = .returned (.tuple #[.int .i32 (runeN a i), .int .i64 (stepN a i)]) ∧ Below w.heap.size w w' := by
  have hg : ∀ j, (a.extract i a.size).get! j = a.get! (i + j) := by
    intro j
    have h1 := get_bN (a.extract i a.size) j
    have h2 := get_bN a (i + j)
    apply UInt8.toNat_inj.1
    rw [h1, h2]
    unfold bN bAt
    by_cases h : i + j < a.size
    · rw [dif_pos h, dif_pos (by rw [ByteArray.size_extract]; omega), ByteArray.getElem_extract]
    · rw [dif_neg h, dif_neg (by rw [ByteArray.size_extract]; omega)]
  have hz : (a.extract i a.size).size = a.size - i := by rw [ByteArray.size_extract]; omega
  have h := decode_any (a.extract i a.size) b i cap w hT (fun j hj => by
    rw [hg]
    rw [hz] at hj
    have := hB (i + j) (by omega)
    rw [Nat.zero_add] at this
    rw [this, get_bN, bN_eq]
    unfold bAt
    rw [dif_pos (by omega)])
  have e : Lib.decodeGo (a.extract i a.size) = (runeN a i, stepN a i) := by
    unfold Lib.decodeGo
    rw [if_neg (by omega), Lib.decode_at, hz, hg, hg, hg, hg, ← decode_uw a i hi, Lib.decode_at]
    rfl
  rw [e, hz] at h
  exact h

end Go.Proofs.YtokhmhbjbclcoaaDoor
