/- The tables and the sentinels that a row lists, as a walk wants them. -/
import Derived.Test.YtokhmhbjbclcoaaDoorDt
import Derived.Stop.LaidErr
import Derived.Lib.LaidTab
import Derived.Carry
import Derived.WalkSmall
namespace Go.Proofs.YtokhmhbjbclcoaaDoor
set_option linter.unusedVariables false
set_option linter.unusedSimpArgs false
open Go.RowKit

theorem bdN {B : Nat} {a w : World} (h : Below B a w) (k : Nat) : Below B a (w.drewN k) := ⟨h.os, h.tape, h.output, h.size, h.block⟩
/-- What the call knows of the tables of unicode/utf8, for every world that is as it was below B. -/
def TabsB (B : Nat) (w : World) : Prop := Tabs w ∧ 3 < B ∧ 4 < B
theorem TabsB.below {B : Nat} {w w' : World} (h : TabsB B w) (hb : Below B w w') : TabsB B w' :=
  ⟨⟨fun c hc => (hb.cell (p := ⟨_, _, none⟩) h.2.1).trans (h.1.1 c hc), fun i hi => ⟨(hb.cell (p := ⟨_, _, none⟩) h.2.2).trans (h.1.2 i hi).1, (hb.cell (p := ⟨_, _, none⟩) h.2.2).trans (h.1.2 i hi).2⟩⟩, h.2⟩
theorem TabsB.of {w : World} (h : Tabs w) : TabsB w.heap.size w :=
  ⟨h, World.block_lt_of_cell? w ⟨_, _, none⟩ (h.1 0 (by omega)), World.block_lt_of_cell? w ⟨_, _, none⟩ (h.2 0 (by omega)).1⟩

/-- The table of the bytes that are escaped for some reader. -/
def escT (c : Int) : Int := if c < 32 ∨ c = 34 ∨ c = 38 ∨ c = 60 ∨ c = 62 ∨ c = 92 then 1 else 0

section
variable {P : Program} {w : World} {n : String} {t e : TypeId} {k : Nat} {g : Nat}
theorem reads_cell {d : DataW Unit} (h : Lib.VarReads P w n d) (hg : P.globalNamed n = some g) (hty : (P.globals[g]?).map (·.type) = some t) :
    ∃ cs fuel p, (∀ i, w.cell? ⟨g, i, none⟩ = cs[i]?) ∧ DataW.trod (fun _ => ()) P w 0 (fun _ => true) false fuel t cs = some (d, p) := by
  obtain ⟨g', t', cs, fuel, p, hg', ht', hv, hd⟩ := h
  obtain rfl := Option.some.inj (hg.symm.trans hg')
  obtain rfl := Option.some.inj (hty.symm.trans ht')
  exact ⟨cs.toList, fuel, p, fun i => by rw [World.var?_cell hg hv i]; simp, hd⟩
theorem reads_ints {ik : IntKind} {zs : List Int} (h : Lib.VarReads P w n (.agg (zs.map fun z => .lit (.int ik z)))) (hg : P.globalNamed n = some g) (hty : (P.globals[g]?).map (·.type) = some t)
    (ht : P.underlying t = some (.array k e)) (he : P.underlying e = some (.int ik)) (hce : P.cellsOf e = 1) : ∀ i, i < k → w.cell? ⟨g, i, none⟩ = some (.int ik (zs.getD i 0)) := by
  obtain ⟨cs, fuel, p, hc, hd⟩ := reads_cell h hg hty
  intro i hi
  obtain ⟨f', d, q, h1, h2⟩ := Lib.array_elem ht hd i hi
  rw [hce, Nat.mul_one] at h2
  obtain ⟨m, h3, h4, _⟩ := DataW.trod_int he h2
  have h5 : cs[i]? = some (.int ik m) := by
    have := congrArg (·[0]?) h3
    simpa [List.getElem?_take, List.getElem?_drop] using this
  rw [hc, h5]
  obtain ⟨rfl, _⟩ := Prod.mk.inj h4
  simp only [List.getElem?_map, Option.map_eq_some_iff] at h1
  obtain ⟨z, hz, hz2⟩ := h1
  cases hz2
  simp [List.getD, hz]
theorem reads_bools {zs : List Bool} (h : Lib.VarReads P w n (.agg (zs.map fun z => .lit (.bool z)))) (hg : P.globalNamed n = some g) (hty : (P.globals[g]?).map (·.type) = some t)
    (ht : P.underlying t = some (.array k e)) (he : P.underlying e = some .bool) (hce : P.cellsOf e = 1) : ∀ i, i < k → w.cell? ⟨g, i, none⟩ = some (.bool (zs.getD i false)) := by
  obtain ⟨cs, fuel, p, hc, hd⟩ := reads_cell h hg hty
  intro i hi
  obtain ⟨f', d, q, h1, h2⟩ := Lib.array_elem ht hd i hi
  rw [hce, Nat.mul_one] at h2
  obtain ⟨m, h3, h4⟩ := DataW.trod_bool he h2
  have h5 : cs[i]? = some (.bool m) := by
    have := congrArg (·[0]?) h3
    simpa [List.getElem?_take, List.getElem?_drop] using this
  rw [hc, h5]
  obtain ⟨rfl, _⟩ := Prod.mk.inj h4
  simp only [List.getElem?_map, Option.map_eq_some_iff] at h1
  obtain ⟨z, hz, hz2⟩ := h1
  cases hz2
  simp [List.getD, hz]
end

def EscB (B : Nat) (w : World) : Prop := 2 < B ∧ ∀ c : Nat, c < 128 → w.cell? ⟨2, c, none⟩ = some (.int .u8 (escT c))
theorem EscB.below {B : Nat} {w w' : World} (h : EscB B w) (hb : Below B w w') : EscB B w' := ⟨h.1, fun c hc => (hb.cell (p := ⟨_, _, none⟩) h.1).trans (h.2 c hc)⟩
theorem EscB.at {B : Nat} {w : World} (h : EscB B w) {X : Int} (h0 : 0 ≤ X) (h1 : X < 128) : w.cell? ⟨2, X.toNat, none⟩ = some (.int .u8 (escT X)) := by
  have := h.2 X.toNat (by omega)
  rwa [Int.toNat_of_nonneg h0] at this
theorem escTab : (Rows.laid_loop_example_pub_g01450_pub_jsontext_internal_jsonwire_escapeASCII : DataW Unit) = .agg (((List.range 128).map fun (c : Nat) => escT (c : Int)).map fun z => .lit (.int .u8 z)) := by kernel_rfl
theorem escB_of {laid : List (String × DataW Unit)} {w : World} {n : String} (h : laidMet Tryd.prog laid w) (hm : (n, Rows.laid_loop_example_pub_g01450_pub_jsontext_internal_jsonwire_escapeASCII) ∈ laid) (hn : Tryd.prog.globalNamed n = some 2) : EscB w.heap.size w := by
  have hr : Lib.VarReads Tryd.prog w n (.agg (((List.range 128).map fun (c : Nat) => escT (c : Int)).map fun z => .lit (.int .u8 z))) := escTab ▸ Lib.laidMet.reads h hm
  have hi := reads_ints (t := 122) (e := 5) (k := 128) hr hn (by kernel_rfl) Tryd.underlying122 Tryd.underlying5 (by kernel_rfl)
  refine ⟨World.block_lt_of_cell? w ⟨_, 0, none⟩ (hi 0 (by omega)), fun c hc => ?_⟩
  rw [hi c hc]
  simp [List.getD, hc]
/-- The named variables read behind the call as they read ahead of it. -/
theorem trodVars_below {H : Type} {enc : TypeId × Value → H} {P : Program} (hl : laidOutB P = true) {W W' : World} (hb : Below W.heap.size W W') :
    ∀ {ns : List String} {gs : List (DataW H)} {q : List MemPlace}, (∀ n ∈ ns, ∃ g t, P.globalNamed n = some g ∧ (P.globals[g]?).map (·.type) = some t ∧ P.readableRec t = true ∧ t < P.types.size) →
      (∀ x ∈ q, x.block < W.heap.size) → DataW.TrodVars enc P W (fun _ => true) ns gs q → DataW.TrodVars enc P W' (fun b => decide (b < W.heap.size)) ns gs q
  | [], [], q, _, _, h => h
  | [], _ :: _, _, _, _, h => by simp [DataW.TrodVars] at h
  | _ :: _, [], _, _, _, h => by simp [DataW.TrodVars] at h
  | n :: ns, d :: ds, ps, hn, hlt, h => by
    obtain ⟨g, t, cs, fuel, p, q, h1, h2, h3, h4, h5, rfl⟩ := h
    obtain ⟨g', t', e1, e2, e3, e4⟩ := hn n (by simp)
    obtain rfl := Option.some.inj (e1.symm.trans h1)
    obtain rfl := Option.some.inj (e2.symm.trans h2)
    have hgB : g' < W.heap.size := by
      unfold World.var? at h3
      simp only [h1, Option.bind_some] at h3
      by_cases hg : g' < W.heap.size
      · exact hg
      · rw [Array.getElem?_eq_none (by omega)] at h3; cases h3
    refine ⟨g', t', cs, fuel, p, q, h1, h2, var?_below hb h1 hgB h3, ?_, trodVars_below hl hb (fun m hm => hn m (by simp [hm])) (fun x hx => hlt x (by simp [hx])) h5, rfl⟩
    exact DataW.trod_stays (kids_book hl e3) (book_sized e3) (fun h => by cases h) ⟨e4, book_self t'⟩ h4 (fun x hx => hb.same (hlt x (by simp [hx]))) (fun x hx => by simpa using hlt x (by simp [hx]))
/-- A sentinel among the listed variables. -/
theorem sentinel_mem {P : Program} {nm : String} {text : List UInt8} {W : World} {g : Nat} {ti tp te ts : TypeId} {ms : Array (String × TypeId)} {f : Field} {n : String}
    (hg : P.globalNamed n = some g) (ht : (P.globals[g]?).map (·.type) = some ti) (hi : P.underlying ti = some (.interface ms)) (hrow : ∀ u, P.typeName? 3 u = some nm → u = tp)
    (hp : P.underlying tp = some (.pointer te)) (he : P.underlying te = some (.struct #[f])) (hft : f.type = ts) (hfo : f.offset = 0) (hs : P.underlying ts = some .string) (hc : P.cellsOf te = 1) (hcs : P.cellsOf ts = 1) :
    ∀ (l : List (String × DataW Unit)), laidMet P l W → (n, .iface nm (.ptr (.agg [.lit (.string text)]))) ∈ l → ∃ a : Addr, W.cell? ⟨g, 0, none⟩ = some (.iface tp (.pointer (some a)))
  | [], _, hm => by cases hm
  | x :: r, h, hm => by
    rcases List.mem_cons.1 hm with e | e
    · subst e
      obtain ⟨a, s, hv, _⟩ := laid_sentinel h hg ht hi hrow hp he hft hfo hs hc hcs
      exact ⟨a, by rw [World.var?_cell hg hv 0]; rfl⟩
    · exact sentinel_mem hg ht hi hrow hp he hft hfo hs hc hcs r (laidMet.tail h) e
theorem starE : "*" ++ "errors.errorString" = "*errors.errorString" := by decide
theorem rowE (u : TypeId) (h : Tryd.prog.typeName? 3 u = some "*errors.errorString") : u = 153 :=
  typeName_ptr_named (nm := "errors.errorString") (by rw [starE]; kernel_rfl) (by kernel_rfl) (by decide) u (by rw [starE]; exact h)
/-- The sentinel of jsonwire. -/
def InvB (B : Nat) (w : World) : Prop := 1 < B ∧ ∃ T p, w.cell? ⟨1, 0, none⟩ = some (.iface T (.pointer (some p)))
theorem InvB.below {B : Nat} {w w' : World} (h : InvB B w) (hb : Below B w w') : InvB B w' := ⟨h.1, by obtain ⟨T, p, h2⟩ := h.2; exact ⟨T, p, (hb.cell (p := ⟨_, _, none⟩) h.1).trans h2⟩⟩
theorem invB_of {laid : List (String × DataW Unit)} {w : World} {n : String} (h : laidMet Tryd.prog laid w) (hm : (n, Rows.laid_loop_example_pub_g01450_pub_jsontext_internal_jsonwire_ErrInvalidUTF8) ∈ laid) (hn : Tryd.prog.globalNamed n = some 1) : InvB w.heap.size w := by
  obtain ⟨a, ha⟩ := sentinel_mem (P := Tryd.prog) (ti := 43) (tp := 153) (te := 180) (ts := 9) hn (by kernel_rfl) Tryd.underlying43 rowE Tryd.underlying153 Tryd.underlying180 rfl rfl Tryd.underlying9 (by kernel_rfl) (by kernel_rfl) laid h hm
  exact ⟨World.block_lt_of_cell? w ⟨_, 0, none⟩ ha, _, _, ha⟩
end Go.Proofs.YtokhmhbjbclcoaaDoor
