/- Parts of the proof of FnNumberRead, one behind the other: FltLaid. Each part says ahead of itself what it proves. -/
import Derived.Test.YtlkbhmmelejmjaaDoorPkFnNumberRead7
import Derived.Lib.LaidU8
import Derived.Stop.LaidErr

/- The tables that floats are read with, from what a row lists of them. -/
namespace Go.Proofs.YtlkbhmmelejmjaaDoor.FltLaid
open Go.RowKit Go.Lib Go.Proofs.YtlkbhmmelejmjaaDoorW.PrintWords Go.Proofs.YtlkbhmmelejmjaaDoor.FltState Go.Proofs.YtlkbhmmelejmjaaDoor.FltBoth Go.Proofs.YtlkbhmmelejmjaaDoor.FltBitsP Go.Proofs.YtlkbhmmelejmjaaDoor.FltBits Go.Proofs.YtlkbhmmelejmjaaDoor.FltFast2 Go.Proofs.YtlkbhmmelejmjaaDoor.FltNum Go.Proofs.YtlkbhmmelejmjaaDoor.FltExact Go.Proofs.YtlkbhmmelejmjaaDoor.FltHexP Go.Proofs.YtlkbhmmelejmjaaDoor.FltAtof Go.Proofs.YtlkbhmmelejmjaaDoor.NumErr
set_option linter.unusedVariables false
set_option linter.unusedSimpArgs false

section
variable {H : Type} {enc : TypeId × Value → H} {P : Program} {w : World} {base : Nat} {sp : Nat → Bool} {held : Bool} {fuel : Nat} {t e : TypeId} {cs : List Value} {p : List MemPlace}
theorem trod_float {k : FloatKind} {x : DataW H × List MemPlace} (ht : P.underlying t = some (.float k)) (h : DataW.trod enc P w base sp held fuel t cs = some x) : ∃ n, cs = [.float k n] ∧ x = (.lit (.float k n), []) := by
  cases fuel with
  | zero => simp [DataW.trod] at h
  | succ n =>
    unfold DataW.trod at h
    rw [ht] at h
    split at h <;> simp_all
/-- A slice: where it lies, and what each of its elements' cells read as. -/
theorem slice_reads {ds sp' : List (DataW H)} (ht : P.underlying t = some (.slice e)) (h : DataW.trod enc P w base sp held fuel t cs = some (.slice ds sp', p)) :
    ∃ (a : Addr) (cap n : Nat), cs = [.slice (some a) ds.length cap] ∧ ∀ i d, ds[i]? = some d → ∃ q cs', w.cells? base (a.add (i * P.cellsOf e)) (P.cellsOf e) = some cs' ∧ DataW.trod enc P w base sp held n e cs' = some (d, q) := by
  rcases DataW.trod_slice ht h with ⟨_, hx⟩ | ⟨a, len, cap, elems, rest, n, rfl, hcs, hx, _, _, _, hl, hel, _, _⟩
  · cases hx
  · have hd : ds = elems.map (·.1) := by
      have := congrArg Prod.fst hx
      simp only [DataW.slice.injEq] at this
      exact this.1
    have hdl : ds.length = len := by rw [hd, List.length_map, hl]
    refine ⟨a, cap, n, by rw [hcs, hdl], fun i d hi => ?_⟩
    rw [hd, List.getElem?_map, Option.map_eq_some_iff] at hi
    obtain ⟨b, hb, rfl⟩ := hi
    have hi' : i < len := by rw [← hl]; exact (List.getElem?_eq_some_iff.1 hb).1
    have := hel i hi'
    rw [hb, Option.bind_eq_some_iff] at this
    obtain ⟨cs', h1, h2⟩ := this
    exact ⟨b.2, cs', h1, h2⟩
theorem add_none (L o j : Nat) : Addr.add ⟨L, o, none⟩ j = ⟨L, o + j, none⟩ := by
  cases j <;> simp [Addr.add]
theorem of_none {a : Addr} {v : Value} (h : w.cell? (a.add 0) = some v) : ∃ L o, a = ⟨L, o, none⟩ := by
  obtain ⟨L, o, s⟩ := a
  have h0 : Addr.add ⟨L, o, s⟩ 0 = ⟨L, o, s⟩ := by simp [Addr.add]
  rw [h0] at h
  have : s = none := by
    cases s with
    | none => rfl
    | some x =>
      unfold World.cell? at h
      split at h <;> simp at h
  exact ⟨L, o, by rw [this]⟩
end

theorem var_lt {w : World} {n : String} {g : Nat} {cs : Array Value} (hg : Tryd.prog.globalNamed n = some g) (h : w.var? Tryd.prog n = some cs) : g < w.heap.size := by
  simp only [World.var?, hg, Option.bind_some] at h
  split at h
  · next c t fr hb => exact (Array.getElem?_eq_some_iff.1 hb).1
  · cases h

def powD : DataW Unit := .slice [.lit (.int .i64 1), .lit (.int .i64 3), .lit (.int .i64 6), .lit (.int .i64 9), .lit (.int .i64 13), .lit (.int .i64 16), .lit (.int .i64 19), .lit (.int .i64 23), .lit (.int .i64 26)] []
theorem pow_at : ∀ k, k < 9 → ([.lit (.int .i64 1), .lit (.int .i64 3), .lit (.int .i64 6), .lit (.int .i64 9), .lit (.int .i64 13), .lit (.int .i64 16), .lit (.int .i64 19), .lit (.int .i64 23), .lit (.int .i64 26)] : List (DataW Unit))[k]? = some (.lit (.int .i64 (pw k)))
  | 0, _ => rfl
  | 1, _ => rfl
  | 2, _ => rfl
  | 3, _ => rfl
  | 4, _ => rfl
  | 5, _ => rfl
  | 6, _ => rfl
  | 7, _ => rfl
  | 8, _ => rfl
  | k + 9, h => by omega
theorem pt_of {w : World} (h : VarReads Tryd.prog w "internal/strconv.powtab" powD) : PT w.heap.size w := by
  obtain ⟨g, t, cs, fuel, p, hg, hty, hvar, hd⟩ := h
  obtain rfl := Option.some.inj ((show Tryd.prog.globalNamed "internal/strconv.powtab" = some 6 by kernel_rfl).symm.trans hg)
  obtain rfl := Option.some.inj ((show (Tryd.prog.globals[6]?).map (·.type) = some 123 by kernel_rfl).symm.trans hty)
  obtain ⟨a, cap, n, hcs, hel⟩ := slice_reads Tryd.underlying123 hd
  have hc1 : Tryd.prog.cellsOf 3 = 1 := by kernel_rfl
  have hk : ∀ k, k < 9 → w.cell? (a.add k) = some (.int .i64 (pw k)) ∧ a.block < w.heap.size := fun k hk => by
    obtain ⟨q, cs', h1, h2⟩ := hel k _ (pow_at k hk)
    rw [hc1, Nat.mul_one] at h1
    obtain ⟨_, _, h3⟩ := World.cells?_some h1
    obtain ⟨z, hz, hx, _⟩ := DataW.trod_int Tryd.underlying3 h2
    have h4 := h3 0 (by omega)
    rw [hz] at h4
    have h5 : (a.add k).add 0 = a.add k := by simp [Addr.add]
    rw [h5] at h4
    simp only [Prod.mk.injEq, DataW.lit.injEq, Lit.int.injEq, true_and] at hx
    rw [hx.1]
    refine ⟨h4, ?_⟩
    have := World.block_lt_of_cell? w _ h4
    have hb : (a.add k).block = a.block := by unfold Addr.add; split <;> rfl
    rw [hb] at this
    exact this
  obtain ⟨L, o, rfl⟩ := of_none (hk 0 (by omega)).1
  refine ⟨L, o, cap, var_lt hg hvar, (hk 0 (by omega)).2, ?_, fun k hkk => ?_⟩
  · rw [World.var?_cell hg hvar 0, ← Array.getElem?_toList, hcs]; rfl
  · have := (hk k hkk).1
    rw [add_none] at this
    exact this

/-- The powers of ten as floats. -/
def XL : List Nat := [4607182418800017408, 4621819117588971520, 4636737291354636288, 4652007308841189376, 4666723172467343360, 4681608360884174848, 4696837146684686336, 4711630319722168320, 4726483295884279808, 4741671816366391296, 4756540486875873280, 4771362005757984768, 4786511204640096256, 4801453603149578240, 4816244402031689728, 4831355200913801216, 4846369599423283200, 4861130398305394688, 4876203697187506176, 4891288408196988160, 4906019910204099648, 4921056587992461136, 4936209963552724370]
def XF (k : Nat) : Nat := XL.getD k 0
def tenD : DataW Unit := .slice (XL.map fun x => .lit (.float .f64 x)) []
theorem pos_all : ((List.range 23).all fun k => match D.read (XF k) with | .number false n _ => n != 0 | _ => false) = true := by decide +kernel
theorem pos_at (k : Nat) (h : k < 23) : Pos (XF k) := by
  have := List.all_eq_true.1 pos_all k (List.mem_range.2 h)
  unfold Pos
  revert this
  cases D.read (XF k) with
  | number s n j =>
    cases s with
    | false => exact fun hn => ⟨n, j, rfl, by simpa using hn⟩
    | true => exact fun hn => by simp at hn
  | infinity s => exact fun hn => by simp at hn
  | _ => exact fun hn => by simp at hn
theorem xt_of {w : World} (h : VarReads Tryd.prog w "internal/strconv.float64pow10" tenD) : XT w.heap.size XF w := by
  obtain ⟨g, t, cs, fuel, p, hg, hty, hvar, hd⟩ := h
  obtain rfl := Option.some.inj ((show Tryd.prog.globalNamed "internal/strconv.float64pow10" = some 7 by kernel_rfl).symm.trans hg)
  obtain rfl := Option.some.inj ((show (Tryd.prog.globals[7]?).map (·.type) = some 125 by kernel_rfl).symm.trans hty)
  obtain ⟨a, cap, n, hcs, hel⟩ := slice_reads Tryd.underlying125 hd
  have hc1 : Tryd.prog.cellsOf 23 = 1 := by kernel_rfl
  have hk : ∀ k, k < 23 → w.cell? (a.add k) = some (.float .f64 (XF k)) ∧ a.block < w.heap.size := fun k hk => by
    have hX : (XL.map fun x => (.lit (.float .f64 x) : DataW Unit))[k]? = some (.lit (.float .f64 (XF k))) := by
      have hl : k < XL.length := hk
      rw [List.getElem?_map, List.getElem?_eq_getElem hl]
      simp [XF, List.getD, hl]
    obtain ⟨q, cs', h1, h2⟩ := hel k _ hX
    rw [hc1, Nat.mul_one] at h1
    obtain ⟨_, _, h3⟩ := World.cells?_some h1
    obtain ⟨z, hz, hx⟩ := trod_float Tryd.underlying23 h2
    have h4 := h3 0 (by omega)
    rw [hz] at h4
    have h5 : (a.add k).add 0 = a.add k := by simp [Addr.add]
    rw [h5] at h4
    simp only [Prod.mk.injEq, DataW.lit.injEq, Lit.float.injEq, true_and] at hx
    rw [hx.1]
    refine ⟨h4, ?_⟩
    have := World.block_lt_of_cell? w _ h4
    have hb : (a.add k).block = a.block := by unfold Addr.add; split <;> rfl
    rw [hb] at this
    exact this
  obtain ⟨L, o, rfl⟩ := of_none (hk 0 (by omega)).1
  refine ⟨L, o, cap, var_lt hg hvar, (hk 0 (by omega)).2, ?_, fun k hkk => ?_⟩
  · rw [World.var?_cell hg hvar 0, ← Array.getElem?_toList, hcs]; rfl
  · have := (hk k hkk).1
    rw [add_none] at this
    exact this

theorem cheat_len : Pinned.cheatRows.length = 61 := by decide +kernel
theorem lt_of {w : World} (h : VarReads Tryd.prog w "internal/strconv.leftcheats" Pinned.leftcheats) : LTb w.heap.size w := by
  obtain ⟨g, t, cs, fuel, p, hg, hty, hvar, hd⟩ := h
  obtain rfl := Option.some.inj ((show Tryd.prog.globalNamed "internal/strconv.leftcheats" = some 9 by kernel_rfl).symm.trans hg)
  obtain rfl := Option.some.inj ((show (Tryd.prog.globals[9]?).map (·.type) = some 141 by kernel_rfl).symm.trans hty)
  obtain ⟨a, cap, n, hcs, hel⟩ := slice_reads Tryd.underlying141 hd
  have hc2 : Tryd.prog.cellsOf 140 = 2 := by kernel_rfl
  have hi1 : Tryd.prog.cellsOf 3 = 1 := by kernel_rfl
  have hs1 : Tryd.prog.cellsOf 9 = 1 := by kernel_rfl
  have hlen : (Pinned.cheatRows.map fun x => (.agg [.lit (.int .i64 x.1), .lit (.string x.2)] : DataW Unit)).length = 61 := by rw [List.length_map, cheat_len]
  have hk : ∀ k, k < 61 → w.cell? (a.add (k * 2)) = some (.int .i64 (lcD k)) ∧ w.cell? ((a.add (k * 2)).add 1) = some (.string (lcT k)) ∧ a.block < w.heap.size := fun k hk => by
    have hl : k < Pinned.cheatRows.length := by rw [cheat_len]; exact hk
    have hX : (Pinned.cheatRows.map fun x => (.agg [.lit (.int .i64 x.1), .lit (.string x.2)] : DataW Unit))[k]? = some (.agg [.lit (.int .i64 (lcD k)), .lit (.string (lcL k))]) := by
      rw [List.getElem?_map, List.getElem?_eq_getElem hl]
      simp [lcD, lcL, List.getD, hl]
    obtain ⟨q, cs', h1, h2⟩ := hel k _ hX
    rw [hc2] at h1
    obtain ⟨_, hcl, h3⟩ := World.cells?_some h1
    obtain ⟨xs, n', hn', hxs, _, hxl, hall⟩ := DataW.trod_struct Tryd.underlying140 h2
    have hx2 : xs.map (·.1) = [.lit (.int .i64 (lcD k)), .lit (.string (lcL k))] := by
      have := congrArg Prod.fst hxs
      simpa using this.symm
    obtain ⟨x0, x1, rfl⟩ : ∃ x0 x1, xs = [x0, x1] := by
      match xs, hx2 with
      | [x0, x1], _ => exact ⟨x0, x1, rfl⟩
    simp only [List.map_cons, List.map_nil, List.cons.injEq, and_true] at hx2
    have f0 := hall 0 _ rfl
    have f1 := hall 1 _ rfl
    change DataW.trod _ _ _ _ _ _ _ 3 ((cs'.drop 0).take (Tryd.prog.cellsOf 3)) = some x0 at f0
    change DataW.trod _ _ _ _ _ _ _ 9 ((cs'.drop 1).take (Tryd.prog.cellsOf 9)) = some x1 at f1
    rw [hi1] at f0
    rw [hs1] at f1
    obtain ⟨z, hz, hz2, _⟩ := DataW.trod_int Tryd.underlying3 f0
    obtain ⟨s, hs, hs2, _⟩ := DataW.trod_string Tryd.underlying9 f1
    have g0 := h3 0 (by omega)
    have g1 := h3 1 (by omega)
    have c0 := congrArg (·[0]?) hz
    have c1 := congrArg (·[0]?) hs
    simp only [List.getElem?_take, List.getElem?_drop, Nat.add_zero, List.getElem?_cons_zero, Nat.lt_one_iff, if_true] at c0 c1
    rw [c0] at g0
    rw [c1] at g1
    have h5 : (a.add (k * 2)).add 0 = a.add (k * 2) := by simp [Addr.add]
    rw [h5] at g0
    have e0 : z = lcD k := by
      have := hx2.1
      rw [hz2] at this
      simp only [DataW.lit.injEq, Lit.int.injEq, true_and] at this
      exact this
    have e1 : s = lcT k := by
      have := hx2.2
      rw [hs2] at this
      simp only [DataW.lit.injEq, Lit.string.injEq] at this
      unfold lcT
      rw [← this]
    rw [e0] at g0
    rw [e1] at g1
    refine ⟨g0, g1, ?_⟩
    have := World.block_lt_of_cell? w _ g0
    have hb : (a.add (k * 2)).block = a.block := by unfold Addr.add; split <;> rfl
    rw [hb] at this
    exact this
  have h00 := (hk 0 (by omega)).1
  rw [Nat.zero_mul] at h00
  obtain ⟨L, o, rfl⟩ := of_none h00
  refine ⟨L, o, cap, var_lt hg hvar, (hk 0 (by omega)).2.2, ?_, fun k hkk => ?_⟩
  · rw [World.var?_cell hg hvar 0, ← Array.getElem?_toList, hcs, hlen]; rfl
  · obtain ⟨h1, h2, _⟩ := hk k hkk
    rw [add_none] at h1 h2
    rw [add_none] at h2
    exact ⟨h1, h2⟩

def HF (k : Nat) : Nat := (Pinned.pow10Rows.getD k (0, 0)).1
def OF (k : Nat) : Nat := (Pinned.pow10Rows.getD k (0, 0)).2
theorem pow_len : Pinned.pow10Rows.length = 696 := by decide +kernel
theorem tt_of {w : World} (h : VarReads Tryd.prog w "internal/strconv.pow10Tab" Pinned.pow10Tab) : TT w.heap.size (fun k => HF k) (fun k => OF k) w := by
  obtain ⟨g, t, cs, fuel, p, hg, hty, hvar, hd⟩ := h
  obtain rfl := Option.some.inj ((show Tryd.prog.globalNamed "internal/strconv.pow10Tab" = some 8 by kernel_rfl).symm.trans hg)
  obtain rfl := Option.some.inj ((show (Tryd.prog.globals[8]?).map (·.type) = some 130 by kernel_rfl).symm.trans hty)
  have hc2 : Tryd.prog.cellsOf 129 = 2 := by kernel_rfl
  have hu1 : Tryd.prog.cellsOf 22 = 1 := by kernel_rfl
  refine ⟨var_lt hg hvar, fun k hk => ?_⟩
  obtain ⟨fuel', d, q, hdi, he⟩ := array_elem Tryd.underlying130 hd k hk
  have hl : k < Pinned.pow10Rows.length := by rw [pow_len]; exact hk
  rw [List.getElem?_map, List.getElem?_eq_getElem hl] at hdi
  have hd' : d = .agg ([(HF k : Int), (OF k : Int)].map fun z => .lit (.int .u64 z)) := by
    simp only [Option.map_some, Option.some.injEq] at hdi
    rw [← hdi]
    simp [HF, OF, List.getD, hl]
  subst hd'
  rw [hc2] at he
  have hcs := ints_of_struct Tryd.underlying129 (fun j f hj => by
    match j, hj with
    | 0, hj => simp at hj; subst hj; exact ⟨Tryd.underlying22, rfl, hu1⟩
    | 1, hj => simp at hj; subst hj; exact ⟨Tryd.underlying22, rfl, hu1⟩
    | j + 2, hj => simp at hj) (by rw [hc2]; rfl) he
  have e0 := congrArg (·[0]?) hcs
  have e1 := congrArg (·[1]?) hcs
  simp only [List.getElem?_take, List.getElem?_drop] at e0 e1
  constructor
  · rw [World.var?_cell hg hvar (k * 2), ← Array.getElem?_toList]
    simpa using e0
  · rw [World.var?_cell hg hvar (k * 2 + 1), ← Array.getElem?_toList]
    simpa using e1

def infoD (m x b : Int) : DataW Unit := .agg [.lit (.int .u64 m), .lit (.int .u64 x), .lit (.int .i64 b)]
theorem fi_of {w : World} (h : VarReads Tryd.prog w "internal/strconv.float64info" (infoD 52 11 (-1023))) : FI w.heap.size 4 w := by
  obtain ⟨g, t, cs, fuel, p, hg, hty, hvar, hd⟩ := h
  obtain rfl := Option.some.inj ((show Tryd.prog.globalNamed "internal/strconv.float64info" = some 4 by kernel_rfl).symm.trans hg)
  obtain rfl := Option.some.inj ((show (Tryd.prog.globals[4]?).map (·.type) = some 86 by kernel_rfl).symm.trans hty)
  obtain ⟨xs, n', hn', hxs, _, hxl, hall⟩ := DataW.trod_struct Tryd.underlying86 hd
  have hi1 : Tryd.prog.cellsOf 3 = 1 := by kernel_rfl
  have hu1 : Tryd.prog.cellsOf 77 = 1 := by kernel_rfl
  have hx2 : xs.map (·.1) = [.lit (.int .u64 52), .lit (.int .u64 11), .lit (.int .i64 (-1023))] := by
    have := congrArg Prod.fst hxs
    simpa [infoD] using this.symm
  obtain ⟨x0, x1, x2, rfl⟩ : ∃ x0 x1 x2, xs = [x0, x1, x2] := by
    match xs, hx2 with
    | [x0, x1, x2], _ => exact ⟨x0, x1, x2, rfl⟩
  simp only [List.map_cons, List.map_nil, List.cons.injEq, and_true] at hx2
  have f0 := hall 0 _ rfl
  have f1 := hall 1 _ rfl
  have f2 := hall 2 _ rfl
  change DataW.trod _ _ _ _ _ _ _ 77 ((cs.toList.drop 0).take (Tryd.prog.cellsOf 77)) = some x0 at f0
  change DataW.trod _ _ _ _ _ _ _ 77 ((cs.toList.drop 1).take (Tryd.prog.cellsOf 77)) = some x1 at f1
  change DataW.trod _ _ _ _ _ _ _ 3 ((cs.toList.drop 2).take (Tryd.prog.cellsOf 3)) = some x2 at f2
  rw [hu1] at f0 f1
  rw [hi1] at f2
  obtain ⟨z0, hz0, hy0, _⟩ := DataW.trod_int Tryd.underlying77 f0
  obtain ⟨z1, hz1, hy1, _⟩ := DataW.trod_int Tryd.underlying77 f1
  obtain ⟨z2, hz2, hy2, _⟩ := DataW.trod_int Tryd.underlying3 f2
  have c0 := congrArg (·[0]?) hz0
  have c1 := congrArg (·[0]?) hz1
  have c2 := congrArg (·[0]?) hz2
  simp only [List.getElem?_take, List.getElem?_drop, Nat.add_zero, List.getElem?_cons_zero, Nat.lt_one_iff, if_true] at c0 c1 c2
  have e0 := hx2.1; rw [hy0] at e0; simp only [DataW.lit.injEq, Lit.int.injEq, true_and] at e0
  have e1 := hx2.2.1; rw [hy1] at e1; simp only [DataW.lit.injEq, Lit.int.injEq, true_and] at e1
  have e2 := hx2.2.2; rw [hy2] at e2; simp only [DataW.lit.injEq, Lit.int.injEq, true_and] at e2
  subst e0 e1 e2
  refine ⟨var_lt hg hvar, ?_, ?_, ?_⟩
  · rw [World.var?_cell hg hvar 0, ← Array.getElem?_toList]; exact c0
  · rw [World.var?_cell hg hvar 1, ← Array.getElem?_toList]; exact c1
  · rw [World.var?_cell hg hvar 2, ← Array.getElem?_toList]; exact c2

theorem op_of {w : World} (h : VarReads Tryd.prog w "internal/strconv.optimize" (.lit (.bool true))) : 3 < w.heap.size ∧ w.cell? ⟨3, 0, none⟩ = some (.bool true) := by
  obtain ⟨g, t, cs, fuel, p, hg, hty, hvar, hd⟩ := h
  obtain rfl := Option.some.inj ((show Tryd.prog.globalNamed "internal/strconv.optimize" = some 3 by kernel_rfl).symm.trans hg)
  obtain rfl := Option.some.inj ((show (Tryd.prog.globals[3]?).map (·.type) = some 4 by kernel_rfl).symm.trans hty)
  obtain ⟨b, hb, hx⟩ := DataW.trod_bool Tryd.underlying4 hd
  refine ⟨var_lt hg hvar, ?_⟩
  rw [World.var?_cell hg hvar 0, ← Array.getElem?_toList, hb]
  simp only [Prod.mk.injEq, DataW.lit.injEq, Lit.bool.injEq] at hx
  rw [← hx.1]; rfl

/-- A listed variable of cells stands in a block without a frozen part. -/
theorem LaidVars_row {w : World} : ∀ {l : List (String × DataW Unit)} {ps : List MemPlace}, DataW.LaidVars Tryd.prog w l ps → ∀ n d, (n, d) ∈ l → ∃ g t cs fuel p, Tryd.prog.globalNamed n = some g ∧ (Tryd.prog.globals[g]?).map (·.type) = some t ∧ w.var? Tryd.prog n = some cs ∧ DataW.trod (fun _ => ()) Tryd.prog w 0 (fun _ => true) false fuel t cs.toList = some (d, p) ∧ ∀ x ∈ MemPlace.row ⟨g, 0, none⟩ cs.size, x ∈ ps
  | [], _, _, _, _, hm => by cases hm
  | (n', d') :: r, ps, h, n, d, hm => by
    obtain ⟨g, t, cs, fuel, p, q, h1, h2, h3, h4, h5, h6⟩ := h
    rcases List.mem_cons.1 hm with e | e
    · cases e
      exact ⟨g, t, cs, fuel, p, h1, h2, h3, h4, fun x hx => by rw [h6]; exact List.mem_append_left _ (List.mem_append_left _ hx)⟩
    · obtain ⟨g', t', cs', fuel', p', k1, k2, k3, k4, k5⟩ := LaidVars_row h5 n d e
      exact ⟨g', t', cs', fuel', p', k1, k2, k3, k4, fun x hx => by rw [h6]; exact List.mem_append_right _ (k5 x hx)⟩
theorem block_of {w : World} {l : List (String × DataW Unit)} (h : laidMet Tryd.prog l w) {n : String} {d : DataW Unit} (hm : (n, d) ∈ l) {g : Nat} (hg : Tryd.prog.globalNamed n = some g) (hne : ∀ cs : Array Value, cs.size = 0 → ∀ fuel t p, (Tryd.prog.globals[g]?).map (·.type) = some t → DataW.trod (fun _ => ()) Tryd.prog w 0 (fun _ => true) false fuel t cs.toList ≠ some (d, p)) : g < w.heap.size ∧ ∃ c t, w.heap[g]? = some (.cells c t (0, 0)) := by
  obtain ⟨ps, hv, _, hrows⟩ := h
  obtain ⟨g', t, cs, fuel, p, h1, h2, h3, h4, h5⟩ := LaidVars_row hv n d hm
  obtain rfl := Option.some.inj (hg.symm.trans h1)
  have h0 : 0 < cs.size := by
    rcases Nat.eq_zero_or_pos cs.size with h | h
    · exact absurd h4 (hne cs h fuel t p h2)
    · exact h
  have hin : MemPlace.cell g 0 ∈ ps := h5 _ (by
    unfold MemPlace.row
    refine List.mem_map.2 ⟨0, List.mem_range.2 h0, ?_⟩
    simp [Addr.add])
  exact ⟨var_lt hg h3, (hrows g 0 hin).1⟩
theorem info_ne {w : World} {g : Nat} (hg : (Tryd.prog.globals[g]?).map (·.type) = some 86) (d : DataW Unit) : ∀ cs : Array Value, cs.size = 0 → ∀ fuel t p, (Tryd.prog.globals[g]?).map (·.type) = some t → DataW.trod (fun _ => ()) Tryd.prog w 0 (fun _ => true) false fuel t cs.toList ≠ some (d, p) := by
  intro cs hcs fuel t p ht h
  obtain rfl := Option.some.inj (hg.symm.trans ht)
  obtain ⟨xs, n', hn', hxs, hl, _⟩ := DataW.trod_struct Tryd.underlying86 h
  have hc : Tryd.prog.cellsOf 86 = 3 := by kernel_rfl
  rw [hc, Array.length_toList] at hl
  omega
theorem pq_of {w : World} {l : List (String × DataW Unit)} {d64 d32 : DataW Unit} (h : laidMet Tryd.prog l w) (h64 : ("internal/strconv.float64info", d64) ∈ l) (h32 : ("internal/strconv.float32info", d32) ∈ l) : PQ w.heap.size w := by
  have g64 : Tryd.prog.globalNamed "internal/strconv.float64info" = some 4 := by kernel_rfl
  have g32 : Tryd.prog.globalNamed "internal/strconv.float32info" = some 2 := by kernel_rfl
  have t64 : (Tryd.prog.globals[4]?).map (·.type) = some 86 := by kernel_rfl
  have t32 : (Tryd.prog.globals[2]?).map (·.type) = some 86 := by kernel_rfl
  have b64 := block_of h h64 g64 (info_ne t64 d64)
  have b32 := block_of h h32 g32 (info_ne t32 d32)
  exact ⟨b64.1, b32.1, b64.2, b32.2⟩

def EVof (aR aS : Addr) (k : Nat) : Value := if k = 1 then .iface 104 (.pointer (some aR)) else .iface 104 (.pointer (some aS))
theorem errs_of {w : World} {aR aS : Addr} (hR : w.var? Tryd.prog "strconv.ErrRange" = some #[.iface 104 (.pointer (some aR))]) (hS : w.var? Tryd.prog "strconv.ErrSyntax" = some #[.iface 104 (.pointer (some aS))]) : Errs w.heap.size (EVof aR aS) w := by
  have gR : Tryd.prog.globalNamed "strconv.ErrRange" = some 1 := by kernel_rfl
  have gS : Tryd.prog.globalNamed "strconv.ErrSyntax" = some 0 := by kernel_rfl
  refine ⟨⟨var_lt gR hR, ?_⟩, ⟨var_lt gS hS, ?_⟩, fun k => ?_⟩
  · have := World.var?_cell gR hR 0; simpa [EVof] using this
  · have := World.var?_cell gS hS 0; simpa [EVof] using this
  · unfold EVof
    split
    · exact ⟨_, rfl⟩
    · exact ⟨_, rfl⟩
theorem star : "*" ++ "errors.errorString" = "*errors.errorString" := by decide
theorem row_err (u : TypeId) (h : Tryd.prog.typeName? 3 u = some "*errors.errorString") : u = 104 :=
  typeName_ptr_named (nm := "errors.errorString") (by rw [star]; kernel_rfl) (by kernel_rfl) (by decide) u (by rw [star]; exact h)
theorem cells_es : Tryd.prog.cellsOf 106 = 1 := by kernel_rfl
theorem cells_str : Tryd.prog.cellsOf 9 = 1 := by kernel_rfl
/-- Of two listed errors, ErrRange right ahead of ErrSyntax. -/
theorem errs_laid {w : World} {tR tS : List UInt8} {r : List (String × DataW Unit)} (h : laidMet Tryd.prog (("strconv.ErrRange", .iface "*errors.errorString" (.ptr (.agg [.lit (.string tR)]))) :: ("strconv.ErrSyntax", .iface "*errors.errorString" (.ptr (.agg [.lit (.string tS)]))) :: r) w) : ∃ EV, Errs w.heap.size EV w := by
  have gR : Tryd.prog.globalNamed "strconv.ErrRange" = some 1 := by kernel_rfl
  have gS : Tryd.prog.globalNamed "strconv.ErrSyntax" = some 0 := by kernel_rfl
  have tyR : (Tryd.prog.globals[1]?).map (·.type) = some 49 := by kernel_rfl
  have tyS : (Tryd.prog.globals[0]?).map (·.type) = some 49 := by kernel_rfl
  obtain ⟨aR, _, hR, _⟩ := laid_sentinel h gR tyR Tryd.underlying49 row_err Tryd.underlying104 Tryd.underlying106 rfl rfl Tryd.underlying9 cells_es cells_str
  obtain ⟨aS, _, hS, _⟩ := laid_sentinel (laidMet.tail h) gS tyS Tryd.underlying49 row_err Tryd.underlying104 Tryd.underlying106 rfl rfl Tryd.underlying9 cells_es cells_str
  exact ⟨_, errs_of hR hS⟩
end Go.Proofs.YtlkbhmmelejmjaaDoor.FltLaid
