/- The units of UTF-16 of a text by the reference: the walk. -/
import Derived.Test.YtbnnjjilkpdanaaDoorUq
import Derived.Test.YtbnnjjilkpdanaaDoorWd
import Derived.Test.YtbnnjjilkpdanaaDoorBw
import Derived.WalkLawsBesides
import Derived.OwnWalk
import Derived.Laws.OwnMore
import Derived.Deep.AppendLies
import Derived.Deep.LoopGhost
import Derived.Deep.DeepCutAuto
import Derived.Deep.Light
import Derived.Deep.CutBlock
import Derived.Outline
namespace Go.Proofs.YtbnnjjilkpdanaaDoor
open Go.RowKit
set_option linter.unusedVariables false

theorem Tryd.infoInt : (Tryd.prog.info? 3).map (fun i => (i.zero, i.size, i.bytes)) = some (some (.int .i64 0), 1, 8) := by kernel_rfl
/-- Whole numbers, in a row. -/
def iv (l : List Int) : List Value := l.map (Value.int .i64)
theorem iv_len (l : List Int) : (iv l).length = l.length := by simp [iv]
theorem iv_app (l m : List Int) : iv (l ++ m) = iv l ++ iv m := by simp [iv]
def Ins (w : World) (B : Nat) (v : Value) (l : List Int) : Prop := w.ownsRow B 3 1 v l.length (iv l)
theorem own_below {w wr w1 : World} {B size n : Nat} {e : TypeId} {v : Value} {xs : List Value} (hB : B ≤ w.heap.size) (hb : Below B w wr) (h : wr.ownsRow B e size v n xs) (hg : wr.grownBy w1 v.ownBlock) : Below B w w1 := by
  refine ⟨hg.os.trans hb.os, hg.tape.trans hb.tape, hg.output.trans hb.output, Nat.le_trans hb.size hg.size, fun k hk => ?_⟩
  have hz := hb.size
  refine (hg.block k (by omega) ?_).trans (hb.block k hk)
  rcases h.2 with ⟨rfl, _⟩ | ⟨g, cap, cur, rfl, hBg, _⟩
  · intro e; cases e
  · intro e; have := Option.some.inj e; simp at this; omega
theorem own_kept {w w1 : World} {B size n : Nat} {e : TypeId} {v : Value} {xs : List Value} (h : w.ownsRow B e size v n xs) (hb : Below w.heap.size w w1) : w1.ownsRow B e size v n xs := by
  refine ⟨h.1, ?_⟩
  rcases h.2 with h2 | ⟨g, cap, cur, hv, hBg, hg, r⟩
  · exact .inl h2
  · exact .inr ⟨g, cap, cur, hv, hBg, (hb.block g (lt_of_block hg)).trans hg, r⟩
theorem cell_two_new (w : World) (x y : Value) (t : TypeId) : ∀ j u, [x, y][j]? = some u → (w.alloc (.cells #[x, y] t)).cell? ((⟨w.heap.size, 0, none⟩ : Addr).add j) = some u := by
  intro j u hj
  have hh := heap_alloc_new w (.cells #[x, y] t)
  match j, hj with
  | 0, hj => simp at hj; subst hj; simp [Addr.add]
  | 1, hj => simp at hj; subst hj; show World.cell? _ ⟨w.heap.size, 1, none⟩ = _; simp only [World.cell?, hh]; rfl
theorem bw' {w a b : World} (h : Below w.heap.size w a) (k : Below a.heap.size a b) : Below w.heap.size w b := Below.trans h (Below.mono k h.size)
theorem mask_i (j : Nat) (hj : j ≤ 62) (x : Int) (h0 : 0 ≤ x) (h1 : x < 4611686018427387904) : bits .and .i64 x (2 ^ j - 1) = x % 2 ^ j :=
  bits_mask .i64 62 (by decide) (fun n a b => by rw [IntKind.wrap_i64]; omega) j hj x h0 (by omega)
theorem acc_val (X b : Nat) (hX : X < 33554432) (hb : b ≤ 255) (B : Int) (hB : (b : Int) = B) : wrap64 ((X : Int) * 64 + wrap64 (bits .and .u8 B 63)) = ((X * 64 + b % 64 : Nat) : Int) := by
  subst hB
  have h3 : bits .and .u8 (b : Int) 63 = (b : Int) % 64 := bits_mask .u8 8 (by decide) wraps_u8 6 (by decide) _ (by omega) (by omega)
  rw [h3]
  unfold wrap64
  omega
theorem units_len (s : ByteArray) : ∀ (g k : Nat), (unitsL s g k).length ≤ 2 * g
  | 0, _ => by simp [unitsL]
  | g + 1, k => by
    rw [unitsL]
    split
    · have := units_len s g (k + stepN s k)
      rw [List.length_append]
      have : (uOf (runeN s k)).length ≤ 2 := by unfold uOf tlU; split <;> simp
      omega
    · simp

set_option maxRecDepth 100000 in
set_option maxHeartbeats 4000000 in
theorem units_any (s : ByteArray) (w : World) (hs : s.size ≤ 10000000000) (ht : textF s s.size 0 = true) :
    Calls Tryd.prog 36 #[.string s] w fun e w' => ∃ v, e = .returned v ∧ Ins w' w.heap.size v (unitsL s s.size 0) ∧ Below w.heap.size w w' := by
  obtain ⟨j0, ji, jz0, jz1, jz2⟩ := info_parts Tryd.infoInt
  have h0 : Ins (w.alloc (.cells #[] 3)) w.heap.size (.slice (some ⟨w.heap.size, 0, none⟩) 0 0) [] := World.ownsRow_lit w #[] 0 (Nat.le_refl _) (Nat.zero_le _) rfl
  obtain ⟨R, HR⟩ : ∃ R, Hid (unitsL s s.size 0 = R) := ⟨_, Lib.hid rfl⟩
  rw [HR.out]
  have A0 : Aside ([] ++ unitsL s s.size 0 = R) := HR.out
  go_enter Tryd.func36, Tryd.ntmps36
  go_wp2
  go_loopg [3, 4] s.size (fun g v i wr => ∃ (k : Nat) (acc : List Int), i = .int .i64 k ∧ k ≤ s.size ∧ s.size - k ≤ g ∧ textF s (s.size - k) k = true ∧ acc.length ≤ 2 * k ∧ Ins wr w.heap.size v acc ∧ Below w.heap.size w wr ∧ Aside (acc ++ unitsL s g k = R))
  case atStart => exact ⟨0, [], rfl, by omega, by omega, ht, by simp, h0, (Below.refl _ _).alloc (Nat.le_refl _) _, A0⟩
  case round =>
    clear h0 A0 ht
    obtain ⟨k, acc, rfl, hks, hg, ht, hal, hown, hbel, A⟩ := hrel
    by_cases hk : k < s.size
    · obtain ⟨hu, hf, ht2⟩ := text_at' ht hk
      have A' : acc ++ unitsL s gk k = R := A
      obtain ⟨gk', hgk, eU⟩ := units_cons hk hg
      have hstep : stepN s k = uw s k := by unfold stepN; rw [if_neg hu]
      rw [eU, hstep] at A'
      subst hgk
      have hacc := acc_rune s k hu
      have hmsk := msk_lt s k hu
      have hb := bAt_lt hk
      have hbN := bN_eq s k
      have hb255 := bN_le s k
      have hr4 := uw_four s k hu
      obtain ⟨r, hr⟩ : ∃ r, runeN s k = r := ⟨_, rfl⟩
      obtain ⟨x0, hx0⟩ : ∃ x0, mskU (uw s k) (bN s k) = x0 := ⟨_, rfl⟩
      have hw := width_any s k
      have h1 : r ≤ 1114111 := by rcases rune_chr hu with h | h <;> omega
      rw [hr] at hacc A'
      rw [hx0] at hacc hmsk
      obtain ⟨n, hn⟩ : ∃ n, uw s k = n := ⟨_, rfl⟩
      rw [hn] at hacc hf ht2 hr4 hx0 hw A'
      obtain ⟨c, hc⟩ : ∃ c : Nat, bN s k = c := ⟨_, rfl⟩
      rw [hc] at hbN hb255 hx0
      have hbc : (s[k].toNat : Int) = (c : Int) := by rw [← hb]; exact hbN.symm
      have HA := Lib.hid hacc
      have HT := Lib.hid ht2
      have AA := Lib.hid A'
      have hk2 : 0 < s.size := by omega
      have hz0 : x0 < 128 := hmsk
      have hm2 : n = 2 → bits .and .i64 (c : Int) 31 = (x0 : Int) := fun e => (mask_i 5 (by decide) _ (by omega) (by omega)).trans (by rw [← hx0, e]; simp [mskU])
      have hm3 : n = 3 → bits .and .i64 (c : Int) 15 = (x0 : Int) := fun e => (mask_i 4 (by decide) _ (by omega) (by omega)).trans (by rw [← hx0, e]; simp [mskU])
      have hm4 : n = 4 → bits .and .i64 (c : Int) 7 = (x0 : Int) := fun e => (mask_i 3 (by decide) _ (by omega) (by omega)).trans (by rw [← hx0, e]; simp [mskU])
      have hm1 : n = 1 → c = x0 := fun e => by rw [← hx0, e]; simp [mskU]
      clear hacc ht2 A' A hb hbN hstep eU hu hr hn hc ht hx0 hmsk
      have hmax : max (n : Int) 1 = (n : Int) := by omega
      have hn0 : 1 ≤ n ∧ n ≤ 4 := by omega
      have hkn : (k : Int) + (n : Int) ≤ s.size := by omega
      go_upto_block 2 with (go_at_call 48; refine (hw _ (by unfold maxLen; omega) hk).mono ?_; rintro e w2 ⟨rfl, hb2⟩)
      go_cut [6] (fun v wx => v = .int .i64 (x0 : Int) ∧ wx = w2)
      case first =>
        rcases hr4 with rfl | rfl | rfl | rfl
        · have := hm1 rfl
          subst this
          go_wp2_with fail
          go_meet
          exact ⟨rfl, rfl⟩
        · have := hm2 rfl
          go_wp2_with fail
          go_meet
          exact ⟨rfl, rfl⟩
        · have := hm3 rfl
          go_wp2_with fail
          go_meet
          exact ⟨rfl, rfl⟩
        · have := hm4 rfl
          go_wp2_with fail
          go_meet
          exact ⟨rfl, rfl⟩
      case rest =>
        obtain ⟨rfl, rfl⟩ := hcut
        have hown2 := own_kept hown hb2
        have hbel2 := bw' hbel hb2
        clear hown hbel hm1 hm2 hm3 hm4 hr4 hbc hmax hw hb255
        go_wp2_with fail
        go_loopg [6, 7] n (fun g c i wx => ∃ m : Nat, m + 1 ≤ n ∧ n - 1 - m ≤ g ∧ i = .int .i64 ((k + 1 + m : Nat) : Int) ∧ c = .int .i64 (accN s k x0 m) ∧ wx = wc)
        case atStart => exact ⟨0, by omega, by omega, by go_num, rfl, rfl⟩
        case round =>
          obtain ⟨m, hm, hmg, rfl, rfl, rfl⟩ := hrel
          obtain ⟨j, hj⟩ : ∃ j, k + 1 + m = j := ⟨_, rfl⟩
          rw [hj]
          by_cases hlt : m + 1 < n
          · have hal := acc_le s k x0 m hz0 (by omega)
            have hstep : accN s k x0 (m + 1) = accN s k x0 m * 64 + bN s j % 64 := by rw [accN, hj]
            have hj1 : j < s.size := by omega
            have hj2 : (j : Int) < (k : Int) + (n : Int) := by omega
            have hbj := bAt_lt hj1
            have hbn := bN_eq s j
            rw [hbj] at hbn
            have HS := Lib.hid hstep
            generalize accN s k x0 m = X at *
            have HB := Lib.hid hbn
            clear hstep hbn hbj
            go_wp2_with fail
            go_roundg (gk - 1)
            case measure => go_light; omega
            case rel =>
              go_light
              refine ⟨m + 1, by omega, by omega, by go_num, congrArg (Value.int .i64) ?_, rfl⟩
              rw [HS.out]
              exact acc_val _ _ hal (bN_le s j) _ HB.out
          · have hmn : m = n - 1 := by omega
            have hr := HA.out
            rw [← hmn] at hr
            rw [hr]
            have hj2 : ¬ ((j : Int) < (k : Int) + (n : Int)) := by omega
            clear HA hr hlt hmn hj
            have h1' : (r : Int) ≤ 1114111 := by omega
            clear h1
            generalize (r : Int) = q at *
            have hkn1 : (k : Int) + (n : Int) ≤ 9223372036854775807 := by omega
            have hlen : acc.length ≤ 140737488350000 := by omega
            by_cases hbig : 65536 ≤ q
            · have hu : uOf q = [55296 + (q - 65536) / 1024, 56320 + (q - 65536) % 1024] := by unfold uOf; rw [(hdU_hi hbig).1, (hdU_hi hbig).2]
              rw [hu] at AA
              have hm10 := (mask_i 10 (by decide) (q - 65536) (by omega) (by omega))
              have hq1 : (q - 65536) / 1024 ≤ 1023 := by omega
              have hq2 : 0 ≤ (q - 65536) / 1024 := by omega
              have hq3 : (q - 65536) % 1024 ≤ 1023 := by omega
              have hq4 : 0 ≤ (q - 65536) % 1024 := by omega
              have hq5 : q ≤ 9223372036854775807 := by omega
              clear hu h1'
              have hm10' : bits .and .i64 (q - 65536) 1023 = (q - 65536) % 1024 := hm10
              clear hm10
              go_wp2_with (at_builtin; refine wpList_append_own _ rfl (.tmp 53) (.tmp 62) 51 (by rfl) w.heap.size 3 j0 (.int .i64 0) 1 8 Tryd.underlying51 ji jz0 jz1 jz2 rfl (by decide) _ acc.length (iv acc) rfl (World.ownsRow.alloc hown2 _) ⟨wr.heap.size, 0, none⟩ 2 2 [.int .i64 (55296 + (q - 65536) / 1024), .int .i64 (56320 + (q - 65536) % 1024)] rfl rfl (cell_two_new _ _ _ _) (by intro u hu; simp at hu; rcases hu with rfl | rfl <;> rfl) (by unfold maxLen; omega) (by omega) (by have := hbel2.size; simp; omega) ?_; intro v1 w1 hown1 hgrow1 hx; clear hx)
              have hown3 : Ins w1 w.heap.size v1 (acc ++ [55296 + (q - 65536) / 1024, 56320 + (q - 65536) % 1024]) := by unfold Ins; rw [iv_app, List.length_append]; exact hown1
              have hbel3 : Below w.heap.size w w1 := own_below (Nat.le_refl _) (hbel2.alloc hbel2.size _) (World.ownsRow.alloc hown2 _) hgrow1
              go_roundg gk'
              case measure => go_light; omega
              case rel =>
                go_light
                exact ⟨k + n, _, by go_num, by omega, by omega, HT.out, by simp; omega, hown3, hbel3, by have := AA.out; rw [← List.append_assoc] at this; exact this⟩
            · have hu : uOf q = [q] := by unfold uOf; rw [(hdU_lo (by omega : q < 65536)).1, (hdU_lo (by omega : q < 65536)).2]
              rw [hu] at AA
              clear hu h1'
              go_wp2_with (at_builtin; refine wpList_append_own _ rfl (.tmp 64) (.tmp 66) 51 (by rfl) w.heap.size 3 j0 (.int .i64 0) 1 8 Tryd.underlying51 ji jz0 jz1 jz2 rfl (by decide) _ acc.length (iv acc) rfl (World.ownsRow.alloc hown2 _) ⟨wr.heap.size, 0, none⟩ 1 1 [.int .i64 q] rfl rfl (cell_one_new _ _ _) (by intro u hu; simp at hu; subst hu; rfl) (by unfold maxLen; omega) (by omega) (by have := hbel2.size; simp; omega) ?_; intro v1 w1 hown1 hgrow1 hx; clear hx)
              have hown3 : Ins w1 w.heap.size v1 (acc ++ [q]) := by unfold Ins; rw [iv_app, List.length_append]; exact hown1
              have hbel3 : Below w.heap.size w w1 := own_below (Nat.le_refl _) (hbel2.alloc hbel2.size _) (World.ownsRow.alloc hown2 _) hgrow1
              go_roundg gk'
              case measure => go_light; omega
              case rel =>
                go_light
                exact ⟨k + n, _, by go_num, by omega, by omega, HT.out, by simp; omega, hown3, hbel3, by have := AA.out; rw [← List.append_assoc] at this; exact this⟩
    · go_wp2_with fail
      go_ret
      have A' : acc ++ unitsL s gk k = R := A
      rw [units_nil hk, List.append_nil] at A'
      subst A'
      exact ⟨_, rfl, hown, hbel⟩
end Go.Proofs.YtbnnjjilkpdanaaDoor
