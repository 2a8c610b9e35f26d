/- Parts of the proof of FnNumberRead, one behind the other: NumAll, NumTell, AsNum, AsDig, AsFlo, AsWalk. Each part says ahead of itself what it proves. -/
import Derived.Test.YtlkbhmmelejmjaaDoorPkFnNumberRead8
import Derived.Test.YtlkbhmmelejmjaaDoorPkFnNumberRead1
import Derived.Laws.RangeAny
import Derived.Deep.DrawnRows
import Derived.Deep.LoopGhost
import Derived.Test.YtlkbhmmelejmjaaDoorPkFnNumberRead7
import Derived.BigQuiet

/- Numbers: what toNumber makes of any text; ToNumber. -/
namespace Go.Proofs.YtlkbhmmelejmjaaDoor.NumAll
open Go.RowKit Go.Proofs.YtlkbhmmelejmjaaDoorW.PrintWords Go.Proofs.YtlkbhmmelejmjaaDoor.NumKnown Go.Proofs.YtlkbhmmelejmjaaDoor.NumPure Go.Proofs.YtlkbhmmelejmjaaDoor.NumStrip Go.Proofs.YtlkbhmmelejmjaaDoor.NumErr Go.Proofs.YtlkbhmmelejmjaaDoor.NumInt Go.Proofs.YtlkbhmmelejmjaaDoor.NumAny Go.Proofs.YtlkbhmmelejmjaaDoor.FltAtof Go.Proofs.YtlkbhmmelejmjaaDoor.FltParse
set_option linter.unusedVariables false
set_option linter.unusedSimpArgs false
attribute [local go_sem ↓] Go.wp_at_zero Go.wp_at_succ

def tHex : ByteArray := ⟨#[104, 101, 120]⟩
def tOct : ByteArray := ⟨#[111, 99, 116, 101, 116]⟩
def tBin : ByteArray := ⟨#[98, 105, 110, 97, 114, 121]⟩
def tFlt : ByteArray := ⟨#[102, 108, 111, 97, 116]⟩
def tDec : ByteArray := ⟨#[100, 101, 99, 105, 109, 97, 108]⟩
def iV (a : Int) : Value := .iface 2 (.int .i64 a)
def uV (a : Int) : Value := .iface 22 (.int .u64 a)
def fV (x : Nat) : Value := .iface 23 (.float .f64 x)
/-- A text behind a minus, or itself. -/
def sgd (neg : Bool) (m : ByteArray) : ByteArray := if neg then ⟨#[45]⟩ ++ m else m
def numN (neg : Bool) (b : Nat) (typ m : ByteArray) : Nr :=
  if neg then outN (kd (inE (puE b m))) typ (iV (-(vl (inE (puE b m)) : Nat) : Int)) (⟨#[45]⟩ ++ m)
  else outN (kd (puE b m)) typ (uV (vl (puE b m) : Nat)) m
def numFl (H O X : Nat → Nat) (neg : Bool) (m : ByteArray) : Nr := outN (parF H O X (sgd neg m)).2 tFlt (fV (parF H O X (sgd neg m)).1) (sgd neg m)
/-- The kind by the beginning (d: how many points). -/
def numM (H O X : Nat → Nat) (neg : Bool) (d : Nat) (n : ByteArray) : Nr :=
  if hp n ⟨#[48, 120]⟩ = true then numN neg 16 tHex (tp n ⟨#[48, 120]⟩)
  else if hp n ⟨#[48, 111]⟩ = true then numN neg 8 tOct (tp n ⟨#[48, 111]⟩)
  else if hp n ⟨#[48, 98]⟩ = true then numN neg 2 tBin (tp n ⟨#[48, 98]⟩)
  else if hp n ⟨#[48]⟩ = true ∧ 1 < n.size ∧ d = 0 then numN neg 8 tOct n
  else if d = 1 then numFl H O X neg n
  else numN neg 10 tDec n
/-- What toNumber makes of a text. -/
def numR (H O X : Nat → Nat) (s : ByteArray) : Nr :=
  if s.size = 0 then .none
  else if hp s ⟨#[95]⟩ = true then .none
  else if 1 < cnt 46 s then .none
  else numM H O X (hp s ⟨#[45]⟩) (cnt 46 s) (strip (tp (tp s ⟨#[43]⟩) ⟨#[45]⟩))

theorem tp_size (s p : ByteArray) : (tp s p).size ≤ s.size := by
  unfold tp
  split
  · rw [ByteArray.size_extract]; omega
  · exact Nat.le_refl _
theorem tp_mem {s p : ByteArray} {b : UInt8} (h : b ∈ (tp s p).data.toList) : b ∈ s.data.toList := by
  unfold tp at h
  split at h
  · rw [ext_list] at h
    exact List.mem_of_mem_drop (List.mem_of_mem_take h)
  · exact h
theorem sgd_no {neg : Bool} {m : ByteArray} (h : (95 : UInt8) ∉ m.data.toList) : ∀ i (hi : i < (sgd neg m).size), (sgd neg m)[i].toNat ≠ 95 := by
  intro i hi h95
  have hm : (sgd neg m)[i] ∈ (sgd neg m).data.toList := by
    have : (sgd neg m)[i] = (sgd neg m).data.toList[i]'(by rw [← Lib.size_eq]; exact hi) := rfl
    rw [this]
    exact List.getElem_mem _
  have he : (sgd neg m)[i] = 95 := by
    apply UInt8.toNat_inj.1
    exact h95
  rw [he] at hm
  cases neg
  · exact h hm
  · have : (sgd true m).data.toList = 45 :: m.data.toList := by
      show (⟨#[45]⟩ ++ m : ByteArray).data.toList = _
      rw [ByteArray.data_append]; simp
    rw [this, List.mem_cons] at hm
    rcases hm with hm | hm
    · exact absurd hm (by decide)
    · exact h hm
theorem sgd_size (neg : Bool) (m : ByteArray) : (sgd neg m).size ≤ m.size + 1 := by
  cases neg
  · show m.size ≤ m.size + 1
    omega
  · show (⟨#[45]⟩ ++ m : ByteArray).size ≤ m.size + 1
    rw [ByteArray.size_append]
    have : (ByteArray.mk #[45]).size = 1 := rfl
    omega

set_option maxRecDepth 100000 in
theorem to_empty (EV : Nat → Value) (s : ByteArray) (h : s.size = 0) (w : World) : Calls Tryd.prog 21 #[.string s] w (ToP EV .none w) := by
  have hse : ((s.size : Int) == 0) = true := by rw [h]; rfl
  clear h
  go_enter Tryd.func21, Tryd.ntmps21
  go_wp2_with fail
  go_ret2
  exact ⟨Below.refl _ _, rfl⟩
set_option maxRecDepth 100000 in
theorem to_under (EV : Nat → Value) (s : ByteArray) (h0 : s.size ≠ 0) (hus : hp s ⟨#[95]⟩ = true) (w : World) : Calls Tryd.prog 21 #[.string s] w (ToP EV .none w) := by
  have hse : ((s.size : Int) == 0) = false := beq_eq_false_iff_ne.mpr (by omega)
  have A0 := Aside0.mk (fun W => hp_any hus W)
  clear h0 hus
  go_enter Tryd.func21, Tryd.ntmps21
  go_wp2_with fail
  refine (A0.out _).mono ?_
  rintro e w1 ⟨rfl, hb1⟩
  have B1 := Aside0.mk hb1
  clear hb1
  go_wp2_with fail
  go_ret2
  exact ⟨B1.out, rfl⟩
set_option maxRecDepth 100000 in
theorem to_dots (EV : Nat → Value) (s : ByteArray) (h0 : s.size ≠ 0) (hsz : s.size ≤ 140737488351232) (hus : hp s ⟨#[95]⟩ = false) (hd : 1 < cnt 46 s) (w : World) : Calls Tryd.prog 21 #[.string s] w (ToP EV .none w) := by
  have hse : ((s.size : Int) == 0) = false := beq_eq_false_iff_ne.mpr (by omega)
  have A0 := Aside0.mk (fun W => hp_any hus W)
  obtain ⟨d, hdd⟩ : ∃ d, d = cnt 46 s := ⟨_, rfl⟩
  have HC : Aside0 (∀ W, Calls Tryd.prog 29 #[.string s, .string ⟨#[46]⟩] W (Cnt (d : Int) W)) := ⟨fun W => (count_one s 46 (by omega) W).mono fun e w' h => ⟨by rw [h.1, hdd], h.2⟩⟩
  have hd1 : (1 : Int) < (d : Int) := by omega
  clear h0 hus hdd hd
  go_enter Tryd.func21, Tryd.ntmps21
  go_wp2_with fail
  refine (A0.out _).mono ?_
  rintro e w1 ⟨rfl, hb1⟩
  have B1 := Aside0.mk hb1
  clear hb1
  go_wp2_with fail
  refine (HC.out _).mono ?_
  rintro e w101 ⟨rfl, rfl⟩
  go_wp2_with fail
  go_ret2
  exact ⟨B1.out, rfl⟩

/-- toNumber at any text. -/
theorem to_any (B : Nat) (H O X : Nat → Nat) (EV : Nat → Value) (s : ByteArray) (hsz : s.size ≤ 2147483648) (w : World) (hB : B ≤ w.heap.size) (hT : Tabs B H O X w) (hE : Errs B EV w) : Calls Tryd.prog 21 #[.string s] w (ToP EV (numR H O X s) w) := by
  unfold numR
  by_cases h0 : s.size = 0
  · rw [if_pos h0]; exact to_empty EV s h0 w
  rw [if_neg h0]
  by_cases hus : hp s ⟨#[95]⟩ = true
  · rw [if_pos hus]; exact to_under EV s h0 hus w
  rw [if_neg hus]
  replace hus : hp s ⟨#[95]⟩ = false := by simpa using hus
  by_cases hd : 1 < cnt 46 s
  · rw [if_pos hd]; exact to_dots EV s h0 (by omega) hus hd w
  rw [if_neg hd]
  obtain ⟨n, hn⟩ : ∃ n, n = strip (tp (tp s ⟨#[43]⟩) ⟨#[45]⟩) := ⟨_, rfl⟩
  have h2 : (tp (tp s ⟨#[43]⟩) ⟨#[45]⟩).size ≤ s.size := Nat.le_trans (tp_size _ _) (tp_size _ _)
  have hnz : n.size ≤ s.size := by rw [hn]; exact Nat.le_trans (strip_size _) h2
  have hno : (95 : UInt8) ∉ n.data.toList := by rw [hn]; exact strip_no _
  rw [← hn]
  have hu : ∀ b B', Bs b B' → ∀ t : ByteArray, t.size ≤ 2147483648 → ∀ W, Below w.heap.size w W → Calls Tryd.prog 33 #[.string t, .int .i64 B', .int .i64 64] W (NumE (.int .u64 (vl (puE b t) : Nat)) (kd (puE b t)) EV W) := fun b B' hb t ht W hW => uint_any B EV b B' hb t (by omega) W (Nat.le_trans hB hW.size) (hE.keep hW hB)
  have hi : ∀ b B', Bs b B' → ∀ t : ByteArray, t.size ≤ 2147483648 → ∀ W, Below w.heap.size w W → Calls Tryd.prog 32 #[.string (⟨#[45]⟩ ++ t), .int .i64 B', .int .i64 64] W (NumE (.int .i64 (-(vl (inE (puE b t)) : Nat) : Int)) (kd (inE (puE b t))) EV W) := fun b B' hb t ht W hW => int_any B EV b B' hb t (by omega) W (Nat.le_trans hB hW.size) (hE.keep hW hB)
  have hf : ∀ neg (t : ByteArray), t.size ≤ 2147483648 → (95 : UInt8) ∉ t.data.toList → ∀ W, Below w.heap.size w W → Calls Tryd.prog 19 #[.string (sgd neg t), .int .i64 64] W (NumE (.float .f64 (parF H O X (sgd neg t)).1) (parF H O X (sgd neg t)).2 EV W) := fun neg t ht hno W hW => float_any B H O X EV (sgd neg t) (by have := sgd_size neg t; omega) (sgd_no hno) W (Nat.le_trans hB hW.size) (hT.keep hW hB) (hE.keep hW hB)
  have b16 : Bs 16 16 := .inr (.inr (.inr ⟨rfl, rfl⟩))
  have b8 : Bs 8 8 := .inr (.inl ⟨rfl, rfl⟩)
  have b2 : Bs 2 2 := .inl ⟨rfl, rfl⟩
  have b10 : Bs 10 10 := .inr (.inr (.inl ⟨rfl, rfl⟩))
  have hd1 : cnt 46 s ≤ 1 := by omega
  have htp : ∀ p, (tp n p).size ≤ 2147483648 := fun p => Nat.le_trans (tp_size n p) (by omega)
  unfold numM
  by_cases hhex : hp n ⟨#[48, 120]⟩ = true
  · rw [if_pos hhex]
    cases hneg : hp s ⟨#[45]⟩
    · exact to_hex_pos EV s _ _ n _ h0 (by omega) hus _ hd1 rfl hneg rfl rfl (by omega) hn.symm hhex rfl _ _ w (hu 16 16 b16 _ (htp _))
    · exact to_hex_neg EV s _ _ n _ h0 (by omega) hus _ hd1 rfl hneg rfl rfl (by omega) hn.symm hhex rfl (by have := htp ⟨#[48, 120]⟩; omega) _ _ w (hi 16 16 b16 _ (htp _))
  rw [if_neg hhex]
  replace hhex : hp n ⟨#[48, 120]⟩ = false := by simpa using hhex
  by_cases hoct : hp n ⟨#[48, 111]⟩ = true
  · rw [if_pos hoct]
    cases hneg : hp s ⟨#[45]⟩
    · exact to_oct_pos EV s _ _ n _ h0 (by omega) hus _ hd1 rfl hneg rfl rfl (by omega) hn.symm hhex hoct rfl _ _ w (hu 8 8 b8 _ (htp _))
    · exact to_oct_neg EV s _ _ n _ h0 (by omega) hus _ hd1 rfl hneg rfl rfl (by omega) hn.symm hhex hoct rfl (by have := htp ⟨#[48, 111]⟩; omega) _ _ w (hi 8 8 b8 _ (htp _))
  rw [if_neg hoct]
  replace hoct : hp n ⟨#[48, 111]⟩ = false := by simpa using hoct
  by_cases hbin : hp n ⟨#[48, 98]⟩ = true
  · rw [if_pos hbin]
    cases hneg : hp s ⟨#[45]⟩
    · exact to_bin_pos EV s _ _ n _ h0 (by omega) hus _ hd1 rfl hneg rfl rfl (by omega) hn.symm hhex hoct hbin rfl _ _ w (hu 2 2 b2 _ (htp _))
    · exact to_bin_neg EV s _ _ n _ h0 (by omega) hus _ hd1 rfl hneg rfl rfl (by omega) hn.symm hhex hoct hbin rfl (by have := htp ⟨#[48, 98]⟩; omega) _ _ w (hi 2 2 b2 _ (htp _))
  rw [if_neg hbin]
  replace hbin : hp n ⟨#[48, 98]⟩ = false := by simpa using hbin
  by_cases hz : hp n ⟨#[48]⟩ = true ∧ 1 < n.size ∧ cnt 46 s = 0
  · rw [if_pos hz]
    obtain ⟨z1, z2, z3⟩ := hz
    cases hneg : hp s ⟨#[45]⟩
    · exact to_zero_pos EV s _ _ n h0 (by omega) hus _ hd1 rfl hneg rfl rfl (by omega) hn.symm hhex hoct hbin z1 z2 z3 _ _ w (hu 8 8 b8 _ (by omega))
    · exact to_zero_neg EV s _ _ n h0 (by omega) hus _ hd1 rfl hneg rfl rfl (by omega) hn.symm hhex hoct hbin z1 z2 z3 (by omega) _ _ w (hi 8 8 b8 _ (by omega))
  rw [if_neg hz]
  by_cases hd2 : cnt 46 s = 1
  · rw [if_pos hd2]
    cases hneg : hp s ⟨#[45]⟩
    · exact to_float_pos EV s _ _ n h0 (by omega) hus _ hd1 rfl hneg rfl rfl (by omega) hn.symm hhex hoct hbin hd2 _ _ w (hf false n (by omega) hno)
    · exact to_float_neg EV s _ _ n h0 (by omega) hus _ hd1 rfl hneg rfl rfl (by omega) hn.symm hhex hoct hbin hd2 (by omega) _ _ w (hf true n (by omega) hno)
  rw [if_neg hd2]
  have hd0 : cnt 46 s = 0 := by omega
  have hzz : hp n ⟨#[48]⟩ = false ∨ (hp n ⟨#[48]⟩ = true ∧ n.size ≤ 1) := by
    by_cases z1 : hp n ⟨#[48]⟩ = true
    · exact .inr ⟨z1, Nat.not_lt.1 fun z2 => hz ⟨z1, z2, hd0⟩⟩
    · exact .inl (by simpa using z1)
  cases hneg : hp s ⟨#[45]⟩
  · exact to_dec_pos EV s _ _ n h0 (by omega) hus _ hd1 rfl hneg rfl rfl (by omega) hn.symm hhex hoct hbin hd0 hzz _ _ w (hu 10 10 b10 _ (by omega))
  · exact to_dec_neg EV s _ _ n h0 (by omega) hus _ hd1 rfl hneg rfl rfl (by omega) hn.symm hhex hoct hbin hd0 hzz (by omega) _ _ w (hi 10 10 b10 _ (by omega))

/-- A number's value is an integer, an unsigned one, or a float. -/
def Vk (v : Value) : Prop := (∃ a, v = iV a) ∨ (∃ a, v = uV a) ∨ ∃ x, v = fV x
theorem outN_val {k : Nat} {typ text typ' text' : ByteArray} {v v' : Value} (h : outN k typ v text = .num typ' v' text') : k = 0 ∧ typ = typ' ∧ v = v' ∧ text = text' := by
  unfold outN at h
  split at h
  · next hk => injection h with h1 h2 h3; exact ⟨hk, h1, h2, h3⟩
  · cases h
theorem numN_val {neg : Bool} {b : Nat} {typ m typ' text' : ByteArray} {v' : Value} (h : numN neg b typ m = .num typ' v' text') : Vk v' ∧ typ = typ' := by
  unfold numN at h
  split at h
  · obtain ⟨_, h1, h2, _⟩ := outN_val h; exact ⟨.inl ⟨_, h2.symm⟩, h1⟩
  · obtain ⟨_, h1, h2, _⟩ := outN_val h; exact ⟨.inr (.inl ⟨_, h2.symm⟩), h1⟩
theorem numR_val {H O X : Nat → Nat} {s typ text : ByteArray} {v : Value} (h : numR H O X s = .num typ v text) : Vk v ∧ (typ = tHex ∨ typ = tOct ∨ typ = tBin ∨ typ = tFlt ∨ typ = tDec) := by
  unfold numR at h
  split at h
  · cases h
  split at h
  · cases h
  split at h
  · cases h
  unfold numM at h
  split at h
  · have := numN_val h; exact ⟨this.1, .inl this.2.symm⟩
  split at h
  · have := numN_val h; exact ⟨this.1, .inr (.inl this.2.symm)⟩
  split at h
  · have := numN_val h; exact ⟨this.1, .inr (.inr (.inl this.2.symm))⟩
  split at h
  · have := numN_val h; exact ⟨this.1, .inr (.inl this.2.symm)⟩
  split at h
  · obtain ⟨_, h1, h2, _⟩ := outN_val h; exact ⟨.inr (.inr ⟨_, h2.symm⟩), .inr (.inr (.inr (.inl h1.symm)))⟩
  · have := numN_val h; exact ⟨this.1, .inr (.inr (.inr (.inr this.2.symm)))⟩
/-- A number, or one too great. -/
def Isnum (r : Nr) : Prop := (∃ typ v text, r = .num typ v text) ∨ r = .err 1
end Go.Proofs.YtlkbhmmelejmjaaDoor.NumAll

/- Numbers: token.ToNumber, impl.ToNumber and isNumber at any text. -/
namespace Go.Proofs.YtlkbhmmelejmjaaDoor.NumTell
open Go.RowKit Go.Proofs.YtlkbhmmelejmjaaDoorW.PrintWords Go.Proofs.YtlkbhmmelejmjaaDoor.NumErr Go.Proofs.YtlkbhmmelejmjaaDoor.NumAny Go.Proofs.YtlkbhmmelejmjaaDoor.NumAll Go.Proofs.YtlkbhmmelejmjaaDoor.FltAtof
set_option linter.unusedVariables false
set_option linter.unusedSimpArgs false
attribute [local go_sem ↓] Go.wp_at_zero Go.wp_at_succ

theorem run_store_float {P : Program} {a : Addr} {m : Mode} {w : World} (k : FloatKind) (x : Nat) : (store a (.float k x) m).run P w = stored P w a (.float k x) m := run_store P w a _ m rfl
attribute [local go_sem] run_store_float

def TnQ (b : Nat) (e : Ending) (w' : World) : Nr → Prop
  | .num typ v text => ∃ p, e = .returned (.pointer (some ⟨p, 0, none⟩)) ∧ b ≤ p ∧ w'.heap[p]? = some (.cells #[.string typ, v, .string text] 43 (0, 0))
  | _ => e = .returned (.pointer none)
def TnP (r : Nr) (w : World) (e : Ending) (w' : World) : Prop := Below w.heap.size w w' ∧ TnQ w.heap.size e w' r

set_option maxRecDepth 100000 in
theorem tn_of (EV : Nat → Value) (s : ByteArray) (r : Nr) (w : World) (C : Calls Tryd.prog 21 #[.string s] w (ToP EV r w)) : Calls Tryd.prog 15 #[.string s] w (TnP r w) := by
  replace C := Aside0.mk C
  unfold ToP at C
  cases r with
  | none =>
    simp only [ToQ] at C
    go_enter Tryd.func15, Tryd.ntmps15
    go_wp2_with fail
    refine C.out.mono ?_
    rintro e w1 ⟨hb, rfl⟩
    go_wp2_with fail
    go_ret
    exact ⟨hb, rfl⟩
  | err k =>
    simp only [ToQ] at C
    go_enter Tryd.func15, Tryd.ntmps15
    go_wp2_with fail
    refine C.out.mono ?_
    rintro e w1 ⟨hb, N, fn, ss, rfl, h1, h2⟩
    replace h1 := Aside0.mk h1
    replace h2 := Aside0.mk h2
    go_wp2_with fail
    go_ret
    exact ⟨hb, rfl⟩
  | num typ v text =>
    simp only [ToQ] at C
    go_enter Tryd.func15, Tryd.ntmps15
    go_wp2_with fail
    refine C.out.mono ?_
    rintro e w1 ⟨hb, p, rfl, h1, h2⟩
    replace h1 := Aside0.mk h1
    replace h2 := Aside0.mk h2
    go_wp2_with fail
    go_ret
    exact ⟨hb, p, rfl, h1.out, h2.out⟩

/-- A number as data. -/
def numV (is : Bool) (typ text : ByteArray) (kind i u : Int) (f : Nat) : Value := .agg #[.bool is, .string typ, .string text, .int .i64 kind, .int .i64 i, .int .u64 u, .float .f64 f]
def NumOf (v : Value) (typ text : ByteArray) (d : Value) : Prop := (∃ a, v = iV a ∧ d = numV true typ text 1 a 0 0) ∨ (∃ a, v = uV a ∧ d = numV true typ text 2 0 a 0) ∨ (∃ x, v = fV x ∧ d = numV true typ text 3 0 0 x)
def ImQ (d : Value) : Nr → Prop
  | .num typ v text => NumOf v typ text d
  | _ => d = numV false ⟨#[]⟩ ⟨#[]⟩ 0 0 0 0
def ImP (r : Nr) (w : World) (e : Ending) (w' : World) : Prop := Below w.heap.size w w' ∧ ∃ d, e = .returned d ∧ ImQ d r

theorem ta_u_i (a : Int) (W : World) : (Instr.typeAssert (uV a) 20 2 true).run Tryd.prog W = .ok (.tuple #[.int .i64 0, .bool false]) W := by kernel_rfl
theorem ta_u_u (a : Int) (W : World) : (Instr.typeAssert (uV a) 20 22 true).run Tryd.prog W = .ok (.tuple #[.int .u64 a, .bool true]) W := by kernel_rfl
theorem ta_i_i (a : Int) (W : World) : (Instr.typeAssert (iV a) 20 2 true).run Tryd.prog W = .ok (.tuple #[.int .i64 a, .bool true]) W := by kernel_rfl
theorem ta_f_i (x : Nat) (W : World) : (Instr.typeAssert (fV x) 20 2 true).run Tryd.prog W = .ok (.tuple #[.int .i64 0, .bool false]) W := by kernel_rfl
theorem ta_f_u (x : Nat) (W : World) : (Instr.typeAssert (fV x) 20 22 true).run Tryd.prog W = .ok (.tuple #[.int .u64 0, .bool false]) W := by kernel_rfl
theorem ta_f_f (x : Nat) (W : World) : (Instr.typeAssert (fV x) 20 23 true).run Tryd.prog W = .ok (.tuple #[.float .f64 x, .bool true]) W := by kernel_rfl

theorem set7_blk (w : World) (B : Nat) (typ text : ByteArray) (kind i u : Int) (f : Nat) (h : w.heap[B]? = some (.cells #[.bool false, .string ⟨#[]⟩, .string ⟨#[]⟩, .int .i64 0, .int .i64 0, .int .u64 0, .float .f64 0] 25 (0, 0))) : (World.setCell (World.setCell (World.setCell (World.setCell (World.setCell (World.setCell (World.setCell w ⟨B, 0, none⟩ (.bool true)) ⟨B, 1, none⟩ (.string typ)) ⟨B, 2, none⟩ (.string text)) ⟨B, 3, none⟩ (.int .i64 kind)) ⟨B, 4, none⟩ (.int .i64 i)) ⟨B, 5, none⟩ (.int .u64 u)) ⟨B, 6, none⟩ (.float .f64 f)).heap[B]? = some (.cells #[.bool true, .string typ, .string text, .int .i64 kind, .int .i64 i, .int .u64 u, .float .f64 f] 25 (0, 0)) := by
  have h' := (blk_set (blk_set (blk_set (blk_set (blk_set (blk_set (blk_set h 0 (.bool true)) 1 (.string typ)) 2 (.string text)) 3 (.int .i64 kind)) 4 (.int .i64 i)) 5 (.int .u64 u)) 6 (.float .f64 f))
  rw [h']
  simp only [List.setIfInBounds_toArray, List.set_cons_zero, List.set_cons_succ]
theorem set7_below (w0 w : World) (b B : Nat) (typ text : ByteArray) (kind i u : Int) (f : Nat) (h : Below b w0 w) (hb : b ≤ B) : Below b w0 (World.setCell (World.setCell (World.setCell (World.setCell (World.setCell (World.setCell (World.setCell w ⟨B, 0, none⟩ (.bool true)) ⟨B, 1, none⟩ (.string typ)) ⟨B, 2, none⟩ (.string text)) ⟨B, 3, none⟩ (.int .i64 kind)) ⟨B, 4, none⟩ (.int .i64 i)) ⟨B, 5, none⟩ (.int .u64 u)) ⟨B, 6, none⟩ (.float .f64 f)) := (Below.setCell (Below.setCell (Below.setCell (Below.setCell (Below.setCell (Below.setCell (Below.setCell h hb _) hb _) hb _) hb _) hb _) hb _) hb _)

def NumP (typ : ByteArray) (v : Value) (text : ByteArray) (w : World) (e : Ending) (w' : World) : Prop := ∃ p, e = .returned (.pointer (some ⟨p, 0, none⟩)) ∧ w.heap.size ≤ p ∧ w'.heap[p]? = some (.cells #[.string typ, v, .string text] 43 (0, 0)) ∧ Below w.heap.size w w'
def NumD (typ text : ByteArray) (kind i u : Int) (f : Nat) (w : World) (e : Ending) (w' : World) : Prop := e = .returned (numV true typ text kind i u f) ∧ Below w.heap.size w w'

set_option maxHeartbeats 4000000 in
set_option maxRecDepth 100000 in
theorem impl_uint (s typ text : ByteArray) (a : Int) (w : World) (C : ∀ W, Below w.heap.size w W → Calls Tryd.prog 15 #[.string s] W (NumP typ (.iface 22 (.int .u64 a)) text W)) : Calls Tryd.prog 7 #[.string s] w (NumD typ text 2 0 a 0 w) := by
  replace C := Aside0.mk C
  have ta0 := ta_u_i a
  have ta1 := ta_u_u a
  unfold uV at ta0 ta1
  go_enter Tryd.func7, Tryd.ntmps7
  go_wp2_with fail
  refine (C.out _ (by first | exact Below.refl _ _ | exact (Below.refl _ _).alloc (Nat.le_refl _) _)).mono ?_
  rintro e w1 ⟨p, rfl, h1, h2, h3⟩
  have hz := blk_below (blk_new w (.cells #[.bool false, .string ⟨#[]⟩, .string ⟨#[]⟩, .int .i64 0, .int .i64 0, .int .u64 0, .float .f64 0] 25)) h3
  have z0 := blk_cell hz 0
  have zf0 := blk_frozen hz 0
  have z1 := blk_cell hz 1
  have zf1 := blk_frozen hz 1
  have z2 := blk_cell hz 2
  have zf2 := blk_frozen hz 2
  have z3 := blk_cell hz 3
  have zf3 := blk_frozen hz 3
  have z4 := blk_cell hz 4
  have zf4 := blk_frozen hz 4
  have z5 := blk_cell hz 5
  have zf5 := blk_frozen hz 5
  have z6 := blk_cell hz 6
  have zf6 := blk_frozen hz 6
  have x0 := fun o => blk_cell (blk_alloc h2 o) 0
  have x1 := fun o => blk_cell (blk_alloc h2 o) 1
  have x2 := fun o => blk_cell (blk_alloc h2 o) 2
  have y0 := blk_cell h2 0
  have y1 := blk_cell h2 1
  have y2 := blk_cell h2 2
  simp only [List.getElem?_toArray, List.getElem?_cons_succ, List.getElem?_cons_zero] at x0 x1 x2 y0 y1 y2 z0 z1 z2 z3 z4 z5 z6
  have lt := blk_lt h2
  have lt0 := blk_lt hz
  have hsz : w.heap.size + 1 ≤ w1.heap.size := lt0
  have H2 := Aside0.mk h2
  have H3 := Aside0.mk (((Below.refl w.heap.size w).alloc (Nat.le_refl _) _).trans (h3.mono (by simp)))
  have HZ := Aside0.mk hz
  clear h2 h3 h1 hz
  go_wp2_with fail
  go_region_held3 (fun w' => w'.cell? ⟨p, 0, none⟩ = some (.string typ) ∧ w'.cell? ⟨p, 2, none⟩ = some (.string text)) (go_keep) (fail)
  all_goals
    go_wp2_with fail
    have hblk := blk_drew (blk_alloc (set7_blk w1 w.heap.size typ text 2 (0) (a) (0) HZ.out) (.cells #[.bool true, .string typ, .string text, .int .i64 (2), .int .i64 (0), .int .u64 (a), .float .f64 (0)] 25))
    have hbel := ((set7_below w w1 w.heap.size w.heap.size typ text 2 (0) (a) (0) H3.out (Nat.le_refl _)).alloc (by have := H3.out.size; simp; omega) (.cells #[.bool true, .string typ, .string text, .int .i64 (2), .int .i64 (0), .int .u64 (a), .float .f64 (0)] 25)).drew
    exact bodyPost_ret (results_single rfl (.cell w.heap.size 25 _ (0, 0) _ rfl hblk Tryd.underlying25 rfl (by kernel_rfl) .nil)) rfl ⟨rfl, hbel⟩

set_option maxHeartbeats 4000000 in
set_option maxRecDepth 100000 in
theorem impl_int (s typ text : ByteArray) (a : Int) (w : World) (C : ∀ W, Below w.heap.size w W → Calls Tryd.prog 15 #[.string s] W (NumP typ (.iface 2 (.int .i64 a)) text W)) : Calls Tryd.prog 7 #[.string s] w (NumD typ text 1 a 0 0 w) := by
  replace C := Aside0.mk C
  have ta0 := ta_i_i a
  unfold iV at ta0
  go_enter Tryd.func7, Tryd.ntmps7
  go_wp2_with fail
  refine (C.out _ (by first | exact Below.refl _ _ | exact (Below.refl _ _).alloc (Nat.le_refl _) _)).mono ?_
  rintro e w1 ⟨p, rfl, h1, h2, h3⟩
  have hz := blk_below (blk_new w (.cells #[.bool false, .string ⟨#[]⟩, .string ⟨#[]⟩, .int .i64 0, .int .i64 0, .int .u64 0, .float .f64 0] 25)) h3
  have z0 := blk_cell hz 0
  have zf0 := blk_frozen hz 0
  have z1 := blk_cell hz 1
  have zf1 := blk_frozen hz 1
  have z2 := blk_cell hz 2
  have zf2 := blk_frozen hz 2
  have z3 := blk_cell hz 3
  have zf3 := blk_frozen hz 3
  have z4 := blk_cell hz 4
  have zf4 := blk_frozen hz 4
  have z5 := blk_cell hz 5
  have zf5 := blk_frozen hz 5
  have z6 := blk_cell hz 6
  have zf6 := blk_frozen hz 6
  have x0 := fun o => blk_cell (blk_alloc h2 o) 0
  have x1 := fun o => blk_cell (blk_alloc h2 o) 1
  have x2 := fun o => blk_cell (blk_alloc h2 o) 2
  have y0 := blk_cell h2 0
  have y1 := blk_cell h2 1
  have y2 := blk_cell h2 2
  simp only [List.getElem?_toArray, List.getElem?_cons_succ, List.getElem?_cons_zero] at x0 x1 x2 y0 y1 y2 z0 z1 z2 z3 z4 z5 z6
  have lt := blk_lt h2
  have lt0 := blk_lt hz
  have hsz : w.heap.size + 1 ≤ w1.heap.size := lt0
  have H2 := Aside0.mk h2
  have H3 := Aside0.mk (((Below.refl w.heap.size w).alloc (Nat.le_refl _) _).trans (h3.mono (by simp)))
  have HZ := Aside0.mk hz
  clear h2 h3 h1 hz
  go_wp2_with fail
  go_region_held3 (fun w' => w'.cell? ⟨p, 0, none⟩ = some (.string typ) ∧ w'.cell? ⟨p, 2, none⟩ = some (.string text)) (go_keep) (fail)
  all_goals
    go_wp2_with fail
    have hblk := blk_drew (blk_alloc (set7_blk w1 w.heap.size typ text 1 (a) (0) (0) HZ.out) (.cells #[.bool true, .string typ, .string text, .int .i64 (1), .int .i64 (a), .int .u64 (0), .float .f64 (0)] 25))
    have hbel := ((set7_below w w1 w.heap.size w.heap.size typ text 1 (a) (0) (0) H3.out (Nat.le_refl _)).alloc (by have := H3.out.size; simp; omega) (.cells #[.bool true, .string typ, .string text, .int .i64 (1), .int .i64 (a), .int .u64 (0), .float .f64 (0)] 25)).drew
    exact bodyPost_ret (results_single rfl (.cell w.heap.size 25 _ (0, 0) _ rfl hblk Tryd.underlying25 rfl (by kernel_rfl) .nil)) rfl ⟨rfl, hbel⟩

set_option maxHeartbeats 4000000 in
set_option maxRecDepth 100000 in
theorem impl_flt (s typ text : ByteArray) (x : Nat) (w : World) (C : ∀ W, Below w.heap.size w W → Calls Tryd.prog 15 #[.string s] W (NumP typ (.iface 23 (.float .f64 x)) text W)) : Calls Tryd.prog 7 #[.string s] w (NumD typ text 3 0 0 x w) := by
  replace C := Aside0.mk C
  have ta0 := ta_f_i x
  have ta1 := ta_f_u x
  have ta2 := ta_f_f x
  unfold fV at ta0 ta1 ta2
  go_enter Tryd.func7, Tryd.ntmps7
  go_wp2_with fail
  refine (C.out _ (by first | exact Below.refl _ _ | exact (Below.refl _ _).alloc (Nat.le_refl _) _)).mono ?_
  rintro e w1 ⟨p, rfl, h1, h2, h3⟩
  have hz := blk_below (blk_new w (.cells #[.bool false, .string ⟨#[]⟩, .string ⟨#[]⟩, .int .i64 0, .int .i64 0, .int .u64 0, .float .f64 0] 25)) h3
  have z0 := blk_cell hz 0
  have zf0 := blk_frozen hz 0
  have z1 := blk_cell hz 1
  have zf1 := blk_frozen hz 1
  have z2 := blk_cell hz 2
  have zf2 := blk_frozen hz 2
  have z3 := blk_cell hz 3
  have zf3 := blk_frozen hz 3
  have z4 := blk_cell hz 4
  have zf4 := blk_frozen hz 4
  have z5 := blk_cell hz 5
  have zf5 := blk_frozen hz 5
  have z6 := blk_cell hz 6
  have zf6 := blk_frozen hz 6
  have x0 := fun o => blk_cell (blk_alloc h2 o) 0
  have x1 := fun o => blk_cell (blk_alloc h2 o) 1
  have x2 := fun o => blk_cell (blk_alloc h2 o) 2
  have y0 := blk_cell h2 0
  have y1 := blk_cell h2 1
  have y2 := blk_cell h2 2
  simp only [List.getElem?_toArray, List.getElem?_cons_succ, List.getElem?_cons_zero] at x0 x1 x2 y0 y1 y2 z0 z1 z2 z3 z4 z5 z6
  have lt := blk_lt h2
  have lt0 := blk_lt hz
  have hsz : w.heap.size + 1 ≤ w1.heap.size := lt0
  have H2 := Aside0.mk h2
  have H3 := Aside0.mk (((Below.refl w.heap.size w).alloc (Nat.le_refl _) _).trans (h3.mono (by simp)))
  have HZ := Aside0.mk hz
  clear h2 h3 h1 hz
  go_wp2_with fail
  go_region_held3 (fun w' => w'.cell? ⟨p, 0, none⟩ = some (.string typ) ∧ w'.cell? ⟨p, 2, none⟩ = some (.string text)) (go_keep) (fail)
  all_goals
    go_wp2_with fail
    have hblk := blk_drew (blk_alloc (set7_blk w1 w.heap.size typ text 3 (0) (0) (x) HZ.out) (.cells #[.bool true, .string typ, .string text, .int .i64 (3), .int .i64 (0), .int .u64 (0), .float .f64 (x)] 25))
    have hbel := ((set7_below w w1 w.heap.size w.heap.size typ text 3 (0) (0) (x) H3.out (Nat.le_refl _)).alloc (by have := H3.out.size; simp; omega) (.cells #[.bool true, .string typ, .string text, .int .i64 (3), .int .i64 (0), .int .u64 (0), .float .f64 (x)] 25)).drew
    exact bodyPost_ret (results_single rfl (.cell w.heap.size 25 _ (0, 0) _ rfl hblk Tryd.underlying25 rfl (by kernel_rfl) .nil)) rfl ⟨rfl, hbel⟩

theorem set7_zero (w : World) (B : Nat) (h : w.heap[B]? = some (.cells #[.bool false, .string ⟨#[]⟩, .string ⟨#[]⟩, .int .i64 0, .int .i64 0, .int .u64 0, .float .f64 0] 25 (0, 0))) : (World.setCell (World.setCell (World.setCell (World.setCell (World.setCell (World.setCell (World.setCell w ⟨B, 0, none⟩ (.bool false)) ⟨B, 1, none⟩ (.string ⟨#[]⟩)) ⟨B, 2, none⟩ (.string ⟨#[]⟩)) ⟨B, 3, none⟩ (.int .i64 0)) ⟨B, 4, none⟩ (.int .i64 0)) ⟨B, 5, none⟩ (.int .u64 0)) ⟨B, 6, none⟩ (.float .f64 0)).heap[B]? = some (.cells #[.bool false, .string ⟨#[]⟩, .string ⟨#[]⟩, .int .i64 0, .int .i64 0, .int .u64 0, .float .f64 0] 25 (0, 0)) := by
  have h' := (blk_set (blk_set (blk_set (blk_set (blk_set (blk_set (blk_set h 0 (.bool false)) 1 (.string ⟨#[]⟩)) 2 (.string ⟨#[]⟩)) 3 (.int .i64 0)) 4 (.int .i64 0)) 5 (.int .u64 0)) 6 (.float .f64 0))
  rw [h']
  simp only [List.setIfInBounds_toArray, List.set_cons_zero, List.set_cons_succ]
theorem set7_zbelow (w0 w : World) (b B : Nat) (h : Below b w0 w) (hb : b ≤ B) : Below b w0 (World.setCell (World.setCell (World.setCell (World.setCell (World.setCell (World.setCell (World.setCell w ⟨B, 0, none⟩ (.bool false)) ⟨B, 1, none⟩ (.string ⟨#[]⟩)) ⟨B, 2, none⟩ (.string ⟨#[]⟩)) ⟨B, 3, none⟩ (.int .i64 0)) ⟨B, 4, none⟩ (.int .i64 0)) ⟨B, 5, none⟩ (.int .u64 0)) ⟨B, 6, none⟩ (.float .f64 0)) := (Below.setCell (Below.setCell (Below.setCell (Below.setCell (Below.setCell (Below.setCell (Below.setCell h hb _) hb _) hb _) hb _) hb _) hb _) hb _)

def NonD (w : World) (e : Ending) (w' : World) : Prop := e = .returned (numV false ⟨#[]⟩ ⟨#[]⟩ 0 0 0 0) ∧ Below w.heap.size w w'
set_option maxHeartbeats 4000000 in
set_option maxRecDepth 100000 in
theorem impl_none (s : ByteArray) (w : World) (C : ∀ W, Below w.heap.size w W → Calls Tryd.prog 15 #[.string s] W (fun e w' => Below W.heap.size W w' ∧ e = .returned (.pointer none))) : Calls Tryd.prog 7 #[.string s] w (NonD w) := by
  replace C := Aside0.mk C
  go_enter Tryd.func7, Tryd.ntmps7
  go_wp2_with fail
  refine (C.out _ (by first | exact Below.refl _ _ | exact (Below.refl _ _).alloc (Nat.le_refl _) _)).mono ?_
  rintro e w1 ⟨h3, rfl⟩
  have hz := blk_below (blk_new w (.cells #[.bool false, .string ⟨#[]⟩, .string ⟨#[]⟩, .int .i64 0, .int .i64 0, .int .u64 0, .float .f64 0] 25)) h3
  have z0 := blk_cell hz 0
  have zf0 := blk_frozen hz 0
  have z1 := blk_cell hz 1
  have zf1 := blk_frozen hz 1
  have z2 := blk_cell hz 2
  have zf2 := blk_frozen hz 2
  have z3 := blk_cell hz 3
  have zf3 := blk_frozen hz 3
  have z4 := blk_cell hz 4
  have zf4 := blk_frozen hz 4
  have z5 := blk_cell hz 5
  have zf5 := blk_frozen hz 5
  have z6 := blk_cell hz 6
  have zf6 := blk_frozen hz 6
  simp only [List.getElem?_toArray, List.getElem?_cons_succ, List.getElem?_cons_zero] at z0 z1 z2 z3 z4 z5 z6
  have lt0 := blk_lt hz
  have H3 := Aside0.mk (((Below.refl w.heap.size w).alloc (Nat.le_refl _) _).trans (h3.mono (by simp)))
  have HZ := Aside0.mk hz
  clear h3 hz
  go_wp2_with fail
  exact bodyPost_ret (results_single rfl (.cell w.heap.size 25 _ (0, 0) _ rfl (set7_zero w1 w.heap.size HZ.out) Tryd.underlying25 rfl (by kernel_rfl) .nil)) rfl ⟨rfl, set7_zbelow w w1 w.heap.size w.heap.size H3.out (Nat.le_refl _)⟩

/-- impl.ToNumber at any text. -/
theorem impl_of (s : ByteArray) (r : Nr) (hv : ∀ typ v text, r = .num typ v text → Vk v) (w : World) (C : ∀ W, Below w.heap.size w W → Calls Tryd.prog 15 #[.string s] W (TnP r W)) : Calls Tryd.prog 7 #[.string s] w (ImP r w) := by
  cases r with
  | none => exact (impl_none s w fun W hW => C W hW).mono fun e w' h => ⟨h.2, _, h.1, rfl⟩
  | err k => exact (impl_none s w fun W hW => C W hW).mono fun e w' h => ⟨h.2, _, h.1, rfl⟩
  | num typ v text =>
    have D : ∀ W, Below w.heap.size w W → Calls Tryd.prog 15 #[.string s] W (NumP typ v text W) := fun W hW => (C W hW).mono fun e w' ⟨hb, p, h1, h2, h3⟩ => ⟨p, h1, h2, h3, hb⟩
    rcases hv typ v text rfl with ⟨a, rfl⟩ | ⟨a, rfl⟩ | ⟨x, rfl⟩
    · exact (impl_int s typ text a w D).mono fun e w' h => ⟨h.2, _, h.1, .inl ⟨a, rfl, rfl⟩⟩
    · exact (impl_uint s typ text a w D).mono fun e w' h => ⟨h.2, _, h.1, .inr (.inl ⟨a, rfl, rfl⟩)⟩
    · exact (impl_flt s typ text x w D).mono fun e w' h => ⟨h.2, _, h.1, .inr (.inr ⟨x, rfl, rfl⟩)⟩

/-! ### any text -/
theorem tn_any (B : Nat) (H O X : Nat → Nat) (EV : Nat → Value) (s : ByteArray) (hsz : s.size ≤ 2147483648) (w : World) (hB : B ≤ w.heap.size) (hT : Tabs B H O X w) (hE : Errs B EV w) : Calls Tryd.prog 15 #[.string s] w (TnP (numR H O X s) w) := tn_of EV s _ w (to_any B H O X EV s hsz w hB hT hE)
theorem im_any (B : Nat) (H O X : Nat → Nat) (EV : Nat → Value) (s : ByteArray) (hsz : s.size ≤ 2147483648) (w : World) (hB : B ≤ w.heap.size) (hT : Tabs B H O X w) (hE : Errs B EV w) : Calls Tryd.prog 7 #[.string s] w (ImP (numR H O X s) w) :=
  impl_of s _ (fun typ v text h => (numR_val h).1) w fun W hW => tn_any B H O X EV s hsz W (Nat.le_trans hB hW.size) (hT.keep hW hB) (hE.keep hW hB)
end Go.Proofs.YtlkbhmmelejmjaaDoor.NumTell

/- Digits, runs of digits, and what a float's text is (spec.scHex, nbDigits, nbRun, nbFloat). -/
namespace Go.Proofs.YtlkbhmmelejmjaaDoor.AsNum
open Go.RowKit Go.Proofs.YtlkbhmmelejmjaaDoorW.PrintWords
set_option linter.unusedVariables false
set_option linter.unusedSimpArgs false

theorem first_any (T : ByteArray) : ∃ c : Int, ∀ h, ((T[0]'h).toNat : Int) = c := by
  by_cases h : 0 < T.size
  · exact ⟨((T[0]'h).toNat : Int), fun _ => rfl⟩
  · exact ⟨0, fun h' => absurd h' h⟩
theorem ext_one (s : ByteArray) : (s.extract 1 s.size).data.toList = s.data.toList.drop 1 := by
  rw [ByteArray.data_extract, Array.toList_extract]
  show (s.data.toList.drop 1).take (s.size - 1) = _
  exact List.take_of_length_le (by rw [List.length_drop, ← Lib.size_eq]; exact Nat.le_refl _)
theorem ext_from (s : ByteArray) (n : Nat) : (s.extract n s.size).data.toList = s.data.toList.drop n := by
  rw [ByteArray.data_extract, Array.toList_extract]
  show (s.data.toList.drop n).take (s.size - n) = _
  exact List.take_of_length_le (by rw [List.length_drop, ← Lib.size_eq]; exact Nat.le_refl _)
theorem empty_iff (s : ByteArray) : s.size = 0 → s.data.toList = [] := fun h => List.length_eq_zero_iff.1 ((Lib.size_eq s).symm.trans h)
theorem cons_of (s : ByteArray) (h : 0 < s.size) : s.data.toList = s[0] :: s.data.toList.drop 1 := by
  have hl : 0 < s.data.toList.length := by rw [← Lib.size_eq]; exact h
  have : s[0] = s.data.toList[0] := rfl
  rw [this]
  exact (List.drop_zero (l := s.data.toList)).symm.trans (List.drop_eq_getElem_cons hl)
theorem emp_t (s : ByteArray) (h : s.size = 0) : s.toList.isEmpty = true := by
  rw [Lib.toList_data, empty_iff s h]; rfl
theorem emp_f (s : ByteArray) (h : 0 < s.size) : s.toList.isEmpty = false := by
  rw [Lib.toList_data, cons_of s h]; rfl

/-- Digits alone. -/
def Dg (L : List UInt8) : Prop := ∀ c ∈ L, 48 ≤ c.toNat ∧ c.toNat ≤ 57
def RunP (s : ByteArray) (w : World) (e : Ending) (w' : World) : Prop := w = w' ∧ ∃ n : Nat, e = .returned (.int .i64 n) ∧ n ≤ s.size ∧ Dg (s.data.toList.take n)
set_option maxRecDepth 100000 in
theorem run_walk (s : ByteArray) (hs : s.size ≤ 140737488351232) (w : World) : Calls Tryd.prog 17 #[.string s] w (RunP s w) := by
  go_enter Tryd.func17, Tryd.ntmps17
  go_wp2_with fail
  go_loop [3] (fun v => ∃ i : Nat, i ≤ s.size ∧ v = .int .i64 i ∧ Aside0 (Dg (s.data.toList.take i))) (fun v => s.size - (intOf v).toNat)
  case atStart => exact ⟨0, Nat.zero_le _, rfl, ⟨fun c hc => by simp at hc⟩⟩
  case round =>
    obtain ⟨i, hi, rfl, HD⟩ := hrel
    by_cases hlt : i < s.size
    · obtain ⟨c, hc⟩ : ∃ c : Int, ∀ h, ((s[i]'h).toNat : Int) = c := ⟨((s[i]'hlt).toNat : Int), fun h => rfl⟩
      have d0 : decide ((i : Int) < (s.size : Int)) = true := decide_eq_true (by omega)
      have HC := Aside0.mk (hc hlt)
      by_cases h1 : 48 ≤ c
      · have d1 : decide (48 ≤ c) = true := decide_eq_true h1
        have H1 := Aside0.mk h1
        clear h1
        by_cases h2 : c ≤ 57
        · have d2 : decide (c ≤ 57) = true := decide_eq_true h2
          have H2 := Aside0.mk h2
          clear h2
          go_wp2_with fail
          go_round
          case rel =>
            refine ⟨i + 1, by omega, by go_num, ⟨fun x hx => ?_⟩⟩
            rw [List.take_add_one, List.getElem?_eq_getElem (by rw [← Lib.size_eq]; exact hlt)] at hx
            rcases List.mem_append.1 hx with hx | hx
            · exact HD.out x hx
            · have hx : x = s[i] := List.mem_singleton.1 hx
              have := HC.out
              have := H1.out
              have := H2.out
              rw [hx]
              omega
          case measure => simp [intOf]; omega
        · have d2 : decide (c ≤ 57) = false := decide_eq_false h2
          clear h2
          go_wp2_with fail
          go_ret
          exact ⟨rfl, i, rfl, hi, HD.out⟩
      · have d1 : decide (48 ≤ c) = false := decide_eq_false h1
        clear h1
        go_wp2_with fail
        go_ret
        exact ⟨rfl, i, rfl, hi, HD.out⟩
    · obtain rfl : i = s.size := by omega
      go_wp2_with fail
      go_ret
      exact ⟨rfl, _, rfl, hi, HD.out⟩

/-- A digit of base 16. -/
def hexV (c : Int) : Int := if 48 ≤ c ∧ c ≤ 57 then c - 48 else if 97 ≤ c ∧ c ≤ 102 then c - 87 else if 65 ≤ c ∧ c ≤ 70 then c - 55 else -1
theorem hexV_in (c : Int) : -1 ≤ hexV c ∧ hexV c ≤ 15 := by
  unfold hexV
  repeat' split
  all_goals omega
def HexP (c : Int) (w : World) (e : Ending) (w' : World) : Prop := w = w' ∧ e = .returned (.int .i32 (hexV c))
set_option maxRecDepth 100000 in
theorem hex_walk (c : Int) (h0 : 0 ≤ c) (h1 : c ≤ 2147483647) (w : World) : Calls Tryd.prog 22 #[.int .i32 c] w (HexP c w) := by
  have hv : ∀ x, hexV c = x → ∀ e w', (w = w' ∧ e = .returned (.int .i32 x)) → HexP c w e w' := fun x hx e w' h => ⟨h.1, by rw [hx]; exact h.2⟩
  by_cases a1 : 48 ≤ c
  · by_cases a2 : c ≤ 57
    · refine Calls.mono ?_ (hv (c - 48) (by unfold hexV; rw [if_pos ⟨a1, a2⟩]))
      clear hv
      go_enter Tryd.func22, Tryd.ntmps22
      go_wp2
      go_ret
      exact ⟨rfl, rfl⟩
    · by_cases a3 : 97 ≤ c
      · by_cases a4 : c ≤ 102
        · refine Calls.mono ?_ (hv (c - 87) (by unfold hexV; rw [if_neg (by omega), if_pos ⟨a3, a4⟩]))
          clear hv
          go_enter Tryd.func22, Tryd.ntmps22
          go_wp2
          go_ret
          exact ⟨rfl, by rw [show c - 87 = c - 97 + 10 by omega]; rfl⟩
        · refine Calls.mono ?_ (hv (-1) (by unfold hexV; rw [if_neg (by omega), if_neg (by omega), if_neg (by omega)]))
          clear hv
          have a5 : 65 ≤ c := by omega
          have a6 : ¬ c ≤ 70 := by omega
          go_enter Tryd.func22, Tryd.ntmps22
          go_wp2
          go_ret
          exact ⟨rfl, rfl⟩
      · by_cases a5 : 65 ≤ c
        · by_cases a6 : c ≤ 70
          · refine Calls.mono ?_ (hv (c - 55) (by unfold hexV; rw [if_neg (by omega), if_neg (by omega), if_pos ⟨a5, a6⟩]))
            clear hv
            go_enter Tryd.func22, Tryd.ntmps22
            go_wp2
            go_ret
            exact ⟨rfl, by rw [show c - 55 = c - 65 + 10 by omega]; rfl⟩
          · refine Calls.mono ?_ (hv (-1) (by unfold hexV; rw [if_neg (by omega), if_neg (by omega), if_neg (by omega)]))
            clear hv
            go_enter Tryd.func22, Tryd.ntmps22
            go_wp2
            go_ret
            exact ⟨rfl, rfl⟩
        · refine Calls.mono ?_ (hv (-1) (by unfold hexV; rw [if_neg (by omega), if_neg (by omega), if_neg (by omega)]))
          clear hv
          go_enter Tryd.func22, Tryd.ntmps22
          go_wp2
          go_ret
          exact ⟨rfl, rfl⟩
  · refine Calls.mono ?_ (hv (-1) (by unfold hexV; rw [if_neg (by omega), if_neg (by omega), if_neg (by omega)]))
    clear hv
    have a3 : ¬ 97 ≤ c := by omega
    have a5 : ¬ 65 ≤ c := by omega
    go_enter Tryd.func22, Tryd.ntmps22
    go_wp2
    go_ret
    exact ⟨rfl, rfl⟩
end Go.Proofs.YtlkbhmmelejmjaaDoor.AsNum

/- nbDigits. -/
namespace Go.Proofs.YtlkbhmmelejmjaaDoor.AsDig
open Go.RowKit Go.Proofs.YtlkbhmmelejmjaaDoorW.PrintWords Go.Proofs.YtlkbhmmelejmjaaDoor.AsNum
set_option linter.unusedVariables false
set_option linter.unusedSimpArgs false
attribute [local go_sem ↓] Go.wp_at_zero Go.wp_at_succ

/-- The number of digits of a base, as 64 bits hold it. -/
def digF (b : Int) : List UInt8 → Int → Option Int
  | [], n => some n
  | c :: r, n => if hexV c.toNat < 0 ∨ b ≤ hexV c.toNat ∨ (18446744073709551615 - hexV c.toNat) / b < n then none else digF b r (n * b + hexV c.toNat)
theorem digF_step (b n d : Int) (x : UInt8) (r : List UInt8) (h : d = hexV x.toNat) : digF b (x :: r) n = if d < 0 ∨ b ≤ d ∨ (18446744073709551615 - d) / b < n then none else digF b r (n * b + d) := by subst h; rfl
def DigP (b : Int) (s : ByteArray) (w : World) (e : Ending) (w' : World) : Prop := Below w.heap.size w w' ∧ ∃ (n : Int) (ok : Bool), e = .returned (.tuple #[.int .u64 n, .bool ok]) ∧ (ok = true → s.size ≠ 0 ∧ 0 ≤ n ∧ n ≤ 18446744073709551615 ∧ digF b s.data.toList 0 = some n)
set_option maxHeartbeats 4000000 in
set_option maxRecDepth 100000 in
theorem dig_walk (b : Int) (hb : 2 ≤ b) (hb2 : b ≤ 16) (s : ByteArray) (hs : s.size ≤ 140737488351232) (w : World) : Calls Tryd.prog 16 #[.string s, .int .u64 b] w (DigP b s w) := by
  have CH := Aside0.mk (fun c h0 h1 W => hex_walk c h0 h1 W)
  go_enter Tryd.func16, Tryd.ntmps16
  go_wp2_with fail
  go_loopg [6, 8, 9] s.size (fun kq v6 v8 v9 w' => ∃ (k : Nat) (n : Int), k ≤ s.size ∧ v6 = .int .u64 n ∧ 0 ≤ n ∧ n ≤ 18446744073709551615 ∧ w' = w.iter s k ∧ Aside0 (kq + k = s.size ∧ digF b (s.data.toList.drop k) n = digF b s.data.toList 0))
  case atStart => exact ⟨0, 0, by omega, rfl, by omega, by omega, rfl, ⟨by omega, rfl⟩⟩
  case round =>
    obtain ⟨k, n, hk, rfl, hn0, hn1, rfl, HK⟩ := hrel
    by_cases hkn : k < s.size
    · by_cases hlow : (s[k]'hkn).toNat < 128
      · obtain ⟨c, hc⟩ : ∃ c : Nat, c = (s[k]'hkn).toNat := ⟨_, rfl⟩
        obtain ⟨d, hd⟩ : ∃ d : Int, d = hexV c := ⟨_, rfl⟩
        have hdi := hexV_in (c : Int)
        rw [← hd] at hdi
        obtain ⟨hdi0, hdi1⟩ := hdi
        have hnx : ∀ ty, (Instr.next (.pointer (some ⟨w.heap.size, 0, none⟩)) true ty).run Tryd.prog (w.iter s k) = .ok (.tuple #[.bool true, .int .i64 k, .int .i32 c]) (w.iter s (k + 1)) := fun ty => by
          rw [run_next_any w s _ ty hkn, decode_ascii s k hkn hlow, ← hc]
        have hdr : digF b (s.data.toList.drop k) n = if d < 0 ∨ b ≤ d ∨ (18446744073709551615 - d) / b < n then none else digF b (s.data.toList.drop (k + 1)) (n * b + d) := by
          rw [List.drop_eq_getElem_cons (by rw [← Lib.size_eq]; exact hkn)]
          exact digF_step b n d _ _ (by rw [hd, hc]; rfl)
        have HDR := Aside0.mk hdr
        have CC := CH.out (c : Int) (by omega) (by omega)
        unfold HexP at CC
        rw [← hd] at CC
        replace CC := Aside0.mk CC
        clear hdr hd hc hlow
        go_wp2_with fail
        refine (CC.out _).mono ?_
        rintro e w1 ⟨rfl, rfl⟩
        by_cases h1 : d < 0
        · go_wp2_with fail
          go_ret2
          exact ⟨(Below.refl _ _).alloc (Nat.le_refl _) _, 0, false, rfl, fun h => by cases h⟩
        by_cases h2 : b ≤ d
        · go_wp2_with fail
          go_ret2
          exact ⟨(Below.refl _ _).alloc (Nat.le_refl _) _, 0, false, rfl, fun h => by cases h⟩
        by_cases h3 : (18446744073709551615 - d) / b < n
        · go_wp2_with fail
          go_ret2
          exact ⟨(Below.refl _ _).alloc (Nat.le_refl _) _, 0, false, rfl, fun h => by cases h⟩
        · have m1 : n * b ≤ 18446744073709551615 - d := Int.mul_le_of_le_ediv (by omega) (by omega)
          have m0 : 0 ≤ n * b := Int.mul_nonneg hn0 (by omega)
          have e1 : IntKind.u64.wrap (n * b) = n * b := by rw [IntKind.wrap_u64]; exact Int.emod_eq_of_lt m0 (by omega)
          have e2 : IntKind.u64.wrap (n * b + d) = n * b + d := by rw [IntKind.wrap_u64]; exact Int.emod_eq_of_lt (by omega) (by omega)
          have M := Aside0.mk (And.intro m0 (And.intro m1 (And.intro e1 e2)))
          clear m0 m1 e1 e2
          go_wp2_with fail
          go_roundg (gk - 1)
          case measure => have := HK.out.1; omega
          case rel =>
            obtain ⟨m0, m1, e1, e2⟩ := M.out
            refine ⟨k + 1, n * b + d, by omega, by rw [e1, e2], by omega, by omega, rfl, ⟨by have := HK.out.1; omega, ?_⟩⟩
            rw [← HK.out.2, HDR.out, if_neg (by omega)]
      · obtain ⟨v, hv⟩ : ∃ v : Nat, v = (Utf8.decode s k).1 := ⟨_, rfl⟩
        obtain ⟨z, hz⟩ : ∃ z : Nat, z = (Utf8.decode s k).2 := ⟨_, rfl⟩
        have hh := (decode_high s k hkn (by omega)).1
        have hl := decode_le s k
        rw [← hv] at hh hl
        have hnx : ∀ ty, (Instr.next (.pointer (some ⟨w.heap.size, 0, none⟩)) true ty).run Tryd.prog (w.iter s k) = .ok (.tuple #[.bool true, .int .i64 k, .int .i32 v]) (w.iter s (k + z)) := fun ty => by
          rw [run_next_any w s _ ty hkn, ← hv, ← hz]
        have CC := CH.out (v : Int) (by omega) (by omega)
        unfold HexP at CC
        rw [show hexV (v : Int) = -1 by unfold hexV; rw [if_neg (by omega), if_neg (by omega), if_neg (by omega)]] at CC
        replace CC := Aside0.mk CC
        clear hv hz hlow
        go_wp2_with fail
        refine (CC.out _).mono ?_
        rintro e w1 ⟨rfl, rfl⟩
        go_wp2_with fail
        go_ret2
        exact ⟨(Below.refl _ _).alloc (Nat.le_refl _) _, 0, false, rfl, fun h => by cases h⟩
    · obtain rfl : k = s.size := by omega
      have hnx : ∀ ty, (Instr.next (.pointer (some ⟨w.heap.size, 0, none⟩)) true ty).run Tryd.prog (w.iter s s.size) = _ := fun ty => run_next_end w s s.size ty (Nat.lt_irrefl _)
      by_cases hz : s.size = 0
      · have hze := emp_t s hz
        have HZ := Aside0.mk hz
        clear hz
        go_wp2_with fail
        go_ret2
        exact ⟨(Below.refl _ _).alloc (Nat.le_refl _) _, n, _, rfl, fun h => by revert h; simp [hze]⟩
      · have hze := emp_f s (by omega)
        have HF := HK.out.2
        rw [show s.data.toList.drop s.size = [] by rw [Lib.size_eq]; exact List.drop_length] at HF
        replace HF := Aside0.mk HF
        go_wp2_with fail
        go_ret2
        exact ⟨(Below.refl _ _).alloc (Nat.le_refl _) _, n, _, rfl, fun h => ⟨hz, hn0, hn1, HF.out.symm⟩⟩
end Go.Proofs.YtlkbhmmelejmjaaDoor.AsDig

/- nbFloat: what a float's text is. -/
namespace Go.Proofs.YtlkbhmmelejmjaaDoor.AsFlo
open Go.RowKit Go.Proofs.YtlkbhmmelejmjaaDoorW.PrintWords Go.Proofs.YtlkbhmmelejmjaaDoor.AsNum
set_option linter.unusedVariables false
set_option linter.unusedSimpArgs false

/-- An exponent's text, or none. -/
def ExpG (D : List UInt8) : Prop := D = [] ∨ ∃ c r q, D = c :: r ∧ (c.toNat = 101 ∨ c.toNat = 69) ∧ (r = q ∨ ∃ g : UInt8, (g.toNat = 43 ∨ g.toNat = 45) ∧ r = g :: q) ∧ Dg q ∧ q ≠ [] ∧ q.length ≤ 3
/-- Digits, a point and digits, ahead of more. -/
def Hd (L V : List UInt8) : Prop := ∃ a p b, L = a ++ p :: (b ++ V) ∧ p.toNat = 46 ∧ Dg a ∧ a ≠ [] ∧ (a.length = 1 ∨ ∀ x r, a = x :: r → x.toNat ≠ 48) ∧ Dg b ∧ b ≠ []
def FloG (L : List UInt8) : Prop := ∃ V, Hd L V ∧ ExpG V
def FlP (t : ByteArray) (w : World) (e : Ending) (w' : World) : Prop := w = w' ∧ ∃ b, e = .returned (.bool b) ∧ (b = true → FloG t.data.toList)

theorem cons_is {s : ByteArray} {c : Int} (h : 0 < s.size) (hc : ∀ h, ((s[0]'h).toNat : Int) = c) : ∃ x r, s.data.toList = x :: r ∧ (x.toNat : Int) = c ∧ (s.extract 1 s.size).data.toList = r := ⟨s[0], _, cons_of s h, hc h, ext_one s⟩
theorem all_dg {s : ByteArray} {k : Nat} (h : ¬ (k : Int) < (s.size : Int)) (hd : Dg (s.data.toList.take k)) : Dg s.data.toList := by
  rw [List.take_of_length_le (by rw [← Lib.size_eq]; omega)] at hd
  exact hd
theorem exp_of {V U : ByteArray} {c : Int} {k : Nat} (h : 0 < V.size) (hc : ∀ h, ((V[0]'h).toNat : Int) = c) (he : c = 101 ∨ c = 69) (hU : U = V.extract 1 V.size ∨ (∃ g : Int, (g = 43 ∨ g = 45) ∧ 0 < (V.extract 1 V.size).size ∧ (∀ h, (((V.extract 1 V.size)[0]'h).toNat : Int) = g) ∧ U = (V.extract 1 V.size).extract 1 (V.extract 1 V.size).size)) (hk0 : k ≠ 0) (hk3 : k ≤ 3) (hku : ¬ (k : Int) < (U.size : Int)) (hle : k ≤ U.size) (hd : Dg (U.data.toList.take k)) : ExpG V.data.toList := by
  obtain ⟨x, r, h1, h2, h3⟩ := cons_is h hc
  have hsz := Lib.size_eq U
  refine .inr ⟨x, r, U.data.toList, h1, by omega, ?_, all_dg hku hd, fun hn => ?_, by omega⟩
  · rcases hU with rfl | ⟨g, hg, hp, hgc, rfl⟩
    · exact .inl h3.symm
    · obtain ⟨y, q, g1, g2, g3⟩ := cons_is hp hgc
      exact .inr ⟨y, by omega, by rw [g3, ← h3, g1]⟩
  · rw [hn] at hsz
    have : U.size = 0 := hsz
    omega
theorem hd_of {t U V W : ByteArray} {n k : Nat} (hn : n ≤ t.size) (hd : Dg (t.data.toList.take n)) (hg : n ≠ 0 ∧ (n = 1 ∨ ∀ x r, t.data.toList = x :: r → x.toNat ≠ 48)) (hU : U.data.toList = t.data.toList.drop n) (h : 0 < U.size) (hc : ∀ h, ((U[0]'h).toNat : Int) = 46) (hV : V = U.extract 1 U.size) (hk : k ≤ V.size) (hk0 : k ≠ 0) (hd2 : Dg (V.data.toList.take k)) (hW : W.data.toList = U.data.toList.drop (k + 1)) : Hd t.data.toList W.data.toList := by
  obtain ⟨x, r, h1, h2, h3⟩ := cons_is h hc
  have hts := Lib.size_eq t
  have hvs := Lib.size_eq V
  have ht : t.data.toList = t.data.toList.take n ++ t.data.toList.drop n := (List.take_append_drop n _).symm
  have hv : V.data.toList = r := by rw [hV]; exact h3
  have hw : W.data.toList = V.data.toList.drop k := by rw [hW, h1, hv]; rfl
  refine ⟨t.data.toList.take n, x, V.data.toList.take k, ?_, by omega, hd, fun he => ?_, ?_, hd2, fun he => ?_⟩
  · rw [hw, List.take_append_drop, hv, ← h1, hU]; exact ht
  · have := congrArg List.length he
    rw [List.length_take] at this
    have h0 : ([] : List UInt8).length = 0 := rfl
    omega
  · rcases hg.2 with h | h
    · left; rw [List.length_take]; omega
    · right
      intro y q hy
      rw [hy] at ht
      exact h y _ ht
  · have := congrArg List.length he
    rw [List.length_take] at this
    have h0 : ([] : List UInt8).length = 0 := rfl
    omega

set_option maxHeartbeats 8000000 in
set_option maxRecDepth 100000 in
theorem flo_walk (t : ByteArray) (hs : t.size ≤ 140737488351232) (w : World) : Calls Tryd.prog 18 #[.string t] w (FlP t w) := by
  have CR := Aside0.mk run_walk
  obtain ⟨c0, hc0⟩ := first_any t
  go_enter Tryd.func18, Tryd.ntmps18
  go_wp2_with fail
  refine (CR.out t hs _).mono ?_
  rintro e w' ⟨rfl, n, rfl, hn, hd⟩
  have HD := Aside0.mk hd
  clear hd
  by_cases hn0 : n = 0
  · subst hn0
    go_wp2_with fail
    go_ret
    exact ⟨rfl, false, rfl, fun h => by cases h⟩
  have q0 : ((n : Int) == 0) = false := beq_eq_false_iff_ne.mpr (by omega)
  by_cases hbad : 1 < n ∧ c0 = 48
  · have d1 : decide ((1 : Int) < (n : Int)) = true := decide_eq_true (by omega)
    have q48 : (c0 == 48) = true := by rw [hbad.2]; rfl
    have hz0 : 0 < t.size := by omega
    clear hbad
    go_wp2_with fail
    go_ret
    exact ⟨rfl, false, rfl, fun h => by cases h⟩
  have HG : Aside0 (n ≠ 0 ∧ (n = 1 ∨ ∀ x r, t.data.toList = x :: r → x.toNat ≠ 48)) := ⟨hn0, by
    by_cases h1 : n = 1
    · exact .inl h1
    · refine .inr fun x r hx h48 => hbad ⟨by omega, ?_⟩
      have h0 : 0 < t.size := by omega
      have := cons_of t h0
      rw [this] at hx
      injection hx with hx _
      have := hc0 h0
      rw [hx] at this
      omega⟩
  have hgo : (decide ((1 : Int) < (n : Int)) = false) ∨ (decide ((1 : Int) < (n : Int)) = true ∧ (c0 == 48) = false ∧ 0 < t.size) := by
    by_cases h1 : 1 < n
    · exact .inr ⟨decide_eq_true (by omega), beq_eq_false_iff_ne.mpr fun h => hbad ⟨h1, h⟩, by omega⟩
    · exact .inl (decide_eq_false (by omega))
  clear hbad hn0
  rcases hgo with d1 | ⟨d1, q48, hz0⟩
  all_goals
    go_upto_region 6 with (fail)
    obtain ⟨U, hU⟩ : ∃ U, U = t.extract n t.size := ⟨_, rfl⟩
    have hus : U.size ≤ 140737488351232 := by rw [hU, ByteArray.size_extract]; omega
    have HUL := Aside0.mk (show U.data.toList = t.data.toList.drop n by rw [hU]; exact ext_from t n)
    simp only [← hU]
    clear hU
    go_cut [29] (fun v29 wc => ∃ x : Bool, v29 = .bool x ∧ Aside0 (x = true → 0 < U.size ∧ ∀ h, ((U[0]'h).toNat : Int) = 46) ∧ w = wc)
    case first =>
      by_cases hu : U.size = 0
      · have hz := emp_t U hu
        clear hu
        go_wp2_with fail
        go_meet
        case rel => exact ⟨false, rfl, ⟨fun h => by cases h⟩, rfl⟩
      · have hp : 0 < U.size := by omega
        have hz := emp_f U hp
        obtain ⟨c1, hc1⟩ := first_any U
        by_cases h46 : c1 = 46
        · subst h46
          go_wp2_with fail
          go_meet
          case rel => exact ⟨true, rfl, ⟨fun _ => ⟨hp, hc1⟩⟩, rfl⟩
        · have q46 : (c1 == 46) = false := beq_eq_false_iff_ne.mpr h46
          clear h46
          go_wp2_with fail
          go_meet
          case rel => exact ⟨false, rfl, ⟨fun h => by cases h⟩, rfl⟩
    case rest =>
      obtain ⟨x, rfl, HX, rfl⟩ := hcut
      go_upto_if 29 with (fail)
      go_cut [0, 4] (fun v0 v4 wc => ∃ (V : ByteArray) (m : Bool), v0 = .string V ∧ v4 = .bool m ∧ V.size ≤ 140737488351232 ∧ Aside0 (m = true → Hd t.data.toList V.data.toList) ∧ w = wc)
      case first =>
        cases x
        · go_wp2_with fail
          go_meet
          case rel => exact ⟨U, false, rfl, rfl, hus, ⟨fun h => by cases h⟩, rfl⟩
        · obtain ⟨hp, hc1⟩ := HX.out rfl
          have hp1 : 1 ≤ U.size := hp
          have HC1 := Aside0.mk hc1
          clear hc1
          go_wp2_with fail
          obtain ⟨V, hV⟩ : ∃ V, V = U.extract 1 U.size := ⟨_, rfl⟩
          have hvs : V.size = U.size - 1 := by rw [hV, ByteArray.size_extract]; omega
          rw [← hV]
          refine (CR.out V (by omega) _).mono ?_
          rintro e w' ⟨rfl, k, rfl, hk, hd2⟩
          have HD2 := Aside0.mk hd2
          have HV := Aside0.mk hV
          have HVS := Aside0.mk hvs
          clear hd2 hV hvs
          by_cases hk0 : k = 0
          · subst hk0
            go_wp2_with fail
            go_ret
            exact ⟨rfl, false, rfl, fun h => by cases h⟩
          · have qk : ((k : Int) == 0) = false := beq_eq_false_iff_ne.mpr (by omega)
            have hk1 : k + 1 ≤ U.size := by have := HVS.out; omega
            have HK0 := Aside0.mk hk0
            clear hk0
            go_wp2_with fail
            go_meet
            case rel =>
              refine ⟨_, true, rfl, rfl, ?_, ⟨fun _ => hd_of hn HD.out HG.out HUL.out hp HC1.out HV.out hk HK0.out HD2.out (by rw [Nat.add_comm k 1]; exact ext_from U (1 + k))⟩, rfl⟩
              rw [ByteArray.size_extract]; omega
      case rest =>
        obtain ⟨V, m, rfl, rfl, hvs, HM, rfl⟩ := hcut
        clear HX HUL HD HG hus
        go_upto_region 11 with (fail)
        go_cut [50] (fun v50 wc => ∃ (x : Bool) (g : Int), v50 = .bool x ∧ Aside0 (x = true → 0 < V.size ∧ (g = 101 ∨ g = 69) ∧ ∀ h, ((V[0]'h).toNat : Int) = g) ∧ w = wc)
        case first =>
          by_cases hu : V.size = 0
          · have hz := emp_t V hu
            clear hu
            go_wp2_with fail
            go_meet
            case rel => exact ⟨false, 0, rfl, ⟨fun h => by cases h⟩, rfl⟩
          · have hp : 0 < V.size := by omega
            have hz := emp_f V hp
            obtain ⟨c1, hc1⟩ := first_any V
            by_cases h1 : c1 = 101
            · subst h1
              go_wp2_with fail
              go_meet
              case rel => exact ⟨true, 101, rfl, ⟨fun _ => ⟨hp, .inl rfl, hc1⟩⟩, rfl⟩
            have q1 : (c1 == 101) = false := beq_eq_false_iff_ne.mpr h1
            clear h1
            by_cases h2 : c1 = 69
            · subst h2
              go_wp2_with fail
              go_meet
              case rel => exact ⟨true, 69, rfl, ⟨fun _ => ⟨hp, .inr rfl, hc1⟩⟩, rfl⟩
            have q2 : (c1 == 69) = false := beq_eq_false_iff_ne.mpr h2
            clear h2
            go_wp2_with fail
            go_meet
            case rel => exact ⟨false, 0, rfl, ⟨fun h => by cases h⟩, rfl⟩
        case rest =>
          obtain ⟨x, g, rfl, HX, rfl⟩ := hcut
          cases x
          case false =>
            by_cases hu : V.size = 0
            · have hz := emp_t V hu
              have HE := Aside0.mk (empty_iff V hu)
              clear hu
              cases m
              · go_wp2_with fail
                go_ret
                exact ⟨rfl, false, rfl, fun h => by cases h⟩
              · go_wp2_with fail
                go_ret
                exact ⟨rfl, _, rfl, fun _ => ⟨_, HM.out (by first | rfl | trivial), .inl HE.out⟩⟩
            · have hz := emp_f V (by omega)
              clear hu
              cases m
              all_goals
                go_wp2_with fail
                go_ret
                exact ⟨rfl, false, rfl, fun h => by cases h⟩
          case true =>
            obtain ⟨hp, hg, hgc⟩ := HX.out rfl
            have hp1 : 1 ≤ V.size := hp
            have HG := Aside0.mk (And.intro hg hgc)
            clear hg hgc HX
            go_upto_region 13 with (fail)
            obtain ⟨U, hU⟩ : ∃ U, U = V.extract 1 V.size := ⟨_, rfl⟩
            have hus : U.size ≤ 140737488351232 := by rw [hU, ByteArray.size_extract]; omega
            have HU := Aside0.mk hU
            simp only [← hU]
            clear hU
            go_cut [64] (fun v64 wc => ∃ (x : Bool) (g : Int), v64 = .bool x ∧ Aside0 (x = true → 0 < U.size ∧ (g = 43 ∨ g = 45) ∧ ∀ h, ((U[0]'h).toNat : Int) = g) ∧ w = wc)
            case first =>
              by_cases hu : U.size = 0
              · have hz := emp_t U hu
                clear hu
                go_wp2_with fail
                go_meet
                case rel => exact ⟨false, 0, rfl, ⟨fun h => by cases h⟩, rfl⟩
              · have hp : 0 < U.size := by omega
                have hz := emp_f U hp
                obtain ⟨c1, hc1⟩ := first_any U
                by_cases h1 : c1 = 43
                · subst h1
                  go_wp2_with fail
                  go_meet
                  case rel => exact ⟨true, 43, rfl, ⟨fun _ => ⟨hp, .inl rfl, hc1⟩⟩, rfl⟩
                have q1 : (c1 == 43) = false := beq_eq_false_iff_ne.mpr h1
                clear h1
                by_cases h2 : c1 = 45
                · subst h2
                  go_wp2_with fail
                  go_meet
                  case rel => exact ⟨true, 45, rfl, ⟨fun _ => ⟨hp, .inr rfl, hc1⟩⟩, rfl⟩
                have q2 : (c1 == 45) = false := beq_eq_false_iff_ne.mpr h2
                clear h2
                go_wp2_with fail
                go_meet
                case rel => exact ⟨false, 0, rfl, ⟨fun h => by cases h⟩, rfl⟩
            case rest =>
              obtain ⟨y, g', rfl, HY, rfl⟩ := hcut
              have hTT : ∃ T : ByteArray, T.size ≤ 140737488351232 ∧ (y = false → T = U) ∧ (y = true → T = U.extract 1 U.size) ∧ (T = V.extract 1 V.size ∨ (∃ g : Int, (g = 43 ∨ g = 45) ∧ 0 < (V.extract 1 V.size).size ∧ (∀ h, (((V.extract 1 V.size)[0]'h).toNat : Int) = g) ∧ T = (V.extract 1 V.size).extract 1 (V.extract 1 V.size).size)) := by
                cases y
                · exact ⟨U, hus, fun _ => rfl, (fun h => by cases h), .inl HU.out⟩
                · obtain ⟨y1, y2, y3⟩ := HY.out rfl
                  refine ⟨U.extract 1 U.size, by rw [ByteArray.size_extract]; omega, (fun h => by cases h), fun _ => rfl, .inr ⟨g', y2, ?_⟩⟩
                  rw [← HU.out]
                  exact ⟨y1, y3, rfl⟩
              obtain ⟨T, hts, hy0, hy1, hTV⟩ := hTT
              have HTV := Aside0.mk hTV
              clear hTV
              have fin : ∀ k : Nat, k ≤ T.size → Dg (T.data.toList.take k) → k ≠ 0 → k ≤ 3 → ¬ (k : Int) < (T.size : Int) → m = true → FloG t.data.toList := fun k h1 h2 h3 h4 h5 hm => ⟨_, HM.out hm, exp_of hp HG.out.2 HG.out.1 HTV.out h3 h4 h5 h1 h2⟩
              have FIN := Aside0.mk fin
              clear fin
              have HY1 := Aside0.mk (fun h => (HY.out h).1)
              cases y
              case false =>
                obtain rfl := hy0 rfl
                clear hy0 hy1 HY
                go_wp2_with fail
                refine (CR.out T (by omega) _).mono ?_
                rintro e w' ⟨rfl, k, rfl, hk, hd2⟩
                have HD2 := Aside0.mk hd2
                clear hd2
                by_cases hk0 : k = 0
                · subst hk0
                  go_wp2_with fail
                  go_ret
                  exact ⟨rfl, false, rfl, fun h => by cases h⟩
                have qk : ((k : Int) == 0) = false := beq_eq_false_iff_ne.mpr (by omega)
                by_cases hk3 : 3 < k
                · have d3 : decide ((3 : Int) < (k : Int)) = true := decide_eq_true (by omega)
                  go_wp2_with fail
                  go_ret
                  exact ⟨rfl, false, rfl, fun h => by cases h⟩
                have d3 : decide ((3 : Int) < (k : Int)) = false := decide_eq_false (by omega)
                by_cases hkl : (k : Int) < (T.size : Int)
                · have d4 : decide ((k : Int) < (T.size : Int)) = true := decide_eq_true hkl
                  go_wp2_with fail
                  go_ret
                  exact ⟨rfl, false, rfl, fun h => by cases h⟩
                · have d4 : decide ((k : Int) < (T.size : Int)) = false := decide_eq_false hkl
                  have d5 : decide (k < T.size) = false := decide_eq_false (by omega)
                  have d6 : ¬ k < T.size := by omega
                  have HK := Aside0.mk (And.intro hk0 (And.intro hk3 hkl))
                  clear hk0 hk3 hkl
                  go_wp2_with fail
                  go_ret
                  exact ⟨rfl, m, rfl, FIN.out k hk HD2.out HK.out.1 (by have := HK.out.2.1; omega) HK.out.2.2⟩
              case true =>
                have hp1 : 1 ≤ U.size := HY1.out rfl
                obtain hTe := hy1 rfl
                clear hy0 hy1 HY
                go_upto_region 15 with (fail)
                simp only [← hTe]
                clear hTe
                go_wp2_with fail
                refine (CR.out T (by omega) _).mono ?_
                rintro e w' ⟨rfl, k, rfl, hk, hd2⟩
                have HD2 := Aside0.mk hd2
                clear hd2
                by_cases hk0 : k = 0
                · subst hk0
                  go_wp2_with fail
                  go_ret
                  exact ⟨rfl, false, rfl, fun h => by cases h⟩
                have qk : ((k : Int) == 0) = false := beq_eq_false_iff_ne.mpr (by omega)
                by_cases hk3 : 3 < k
                · have d3 : decide ((3 : Int) < (k : Int)) = true := decide_eq_true (by omega)
                  go_wp2_with fail
                  go_ret
                  exact ⟨rfl, false, rfl, fun h => by cases h⟩
                have d3 : decide ((3 : Int) < (k : Int)) = false := decide_eq_false (by omega)
                by_cases hkl : (k : Int) < (T.size : Int)
                · have d4 : decide ((k : Int) < (T.size : Int)) = true := decide_eq_true hkl
                  go_wp2_with fail
                  go_ret
                  exact ⟨rfl, false, rfl, fun h => by cases h⟩
                · have d4 : decide ((k : Int) < (T.size : Int)) = false := decide_eq_false hkl
                  have d5 : decide (k < T.size) = false := decide_eq_false (by omega)
                  have d6 : ¬ k < T.size := by omega
                  have HK := Aside0.mk (And.intro hk0 (And.intro hk3 hkl))
                  clear hk0 hk3 hkl
                  go_wp2_with fail
                  go_ret
                  exact ⟨rfl, m, rfl, FIN.out k hk HD2.out HK.out.1 (by have := HK.out.2.1; omega) HK.out.2.2⟩
end Go.Proofs.YtlkbhmmelejmjaaDoor.AsFlo

/- AsNumber. -/
namespace Go.Proofs.YtlkbhmmelejmjaaDoor.AsWalk
open Go.RowKit Go.Proofs.YtlkbhmmelejmjaaDoorW.PrintWords Go.Proofs.YtlkbhmmelejmjaaDoor.AsNum Go.Proofs.YtlkbhmmelejmjaaDoor.AsDig Go.Proofs.YtlkbhmmelejmjaaDoor.AsFlo Go.Proofs.YtlkbhmmelejmjaaDoor.NumErr Go.Proofs.YtlkbhmmelejmjaaDoor.FltAtof Go.Proofs.YtlkbhmmelejmjaaDoor.FltParse
set_option linter.unusedVariables false
set_option linter.unusedSimpArgs false
attribute [local go_sem ↓] Go.wp_at_zero Go.wp_at_succ
theorem run_store_float {P : Program} {a : Addr} {m : Mode} {w : World} (k : FloatKind) (x : Nat) : (store a (.float k x) m).run P w = stored P w a (.float k x) m := run_store P w a _ m rfl
attribute [local go_sem] run_store_float
theorem unary_negf (k : FloatKind) (x : Nat) : Op.unary .neg (.float k x) = pure (.float k (Op.negFloat k x)) := rfl
attribute [local go_sem] unary_negf

/-- A number of the specification's. -/
def nbV (k b : Int) (m : Bool) (z : Int) (x : Nat) : Value := .agg #[.int .i64 k, .int .i64 b, .bool m, .int .u64 z, .float .f64 x]
def nb0 : Obj := .cells #[.int .i64 0, .int .i64 0, .bool false, .int .u64 0, .float .f64 0] 30 (0, 0)
def set5 (w : World) (B : Nat) (k b : Int) (m : Bool) (z : Int) (x : Nat) : World := World.setCell (World.setCell (World.setCell (World.setCell (World.setCell w ⟨B, 0, none⟩ (.int .i64 k)) ⟨B, 1, none⟩ (.int .i64 b)) ⟨B, 2, none⟩ (.bool m)) ⟨B, 3, none⟩ (.int .u64 z)) ⟨B, 4, none⟩ (.float .f64 x)
theorem set5_blk (w : World) (B : Nat) (k b : Int) (m : Bool) (z : Int) (x : Nat) (h : w.heap[B]? = some nb0) : (set5 w B k b m z x).heap[B]? = some (.cells #[.int .i64 k, .int .i64 b, .bool m, .int .u64 z, .float .f64 x] 30 (0, 0)) := by
  have h' := (blk_set (blk_set (blk_set (blk_set (blk_set h 0 (.int .i64 k)) 1 (.int .i64 b)) 2 (.bool m)) 3 (.int .u64 z)) 4 (.float .f64 x))
  unfold set5
  rw [h']
  simp only [List.setIfInBounds_toArray, List.set_cons_zero, List.set_cons_succ]
theorem set5_below (w0 w : World) (p B : Nat) (k b : Int) (m : Bool) (z : Int) (x : Nat) (h : Below p w0 w) (hb : p ≤ B) : Below p w0 (set5 w B k b m z x) := (Below.setCell (Below.setCell (Below.setCell (Below.setCell (Below.setCell h hb _) hb _) hb _) hb _) hb _)
/-- What stores into such a block ask. -/
theorem nb_facts {w : World} {B : Nat} (h : w.heap[B]? = some nb0) : (w.cell? ⟨B, 0, none⟩ = some (.int .i64 0) ∧ w.cell? ⟨B, 1, none⟩ = some (.int .i64 0) ∧ w.cell? ⟨B, 2, none⟩ = some (.bool false) ∧ w.cell? ⟨B, 3, none⟩ = some (.int .u64 0) ∧ w.cell? ⟨B, 4, none⟩ = some (.float .f64 0)) := by
  have z0 := blk_cell h 0
  have z1 := blk_cell h 1
  have z2 := blk_cell h 2
  have z3 := blk_cell h 3
  have z4 := blk_cell h 4
  simp only [List.getElem?_toArray, List.getElem?_cons_succ, List.getElem?_cons_zero] at z0 z1 z2 z3 z4
  exact ⟨z0, z1, z2, z3, z4⟩
def AsO (w : World) (e : Ending) (w' : World) : Prop := Below w.heap.size w w' ∧ e = .returned (nbV 0 0 false 0 0)
/-- A sign, or none, ahead. -/
def SgT (mi : Bool) (S T : List UInt8) : Prop := (mi = false ∧ S = T) ∨ ∃ c, S = c :: T ∧ ((mi = true ∧ c.toNat = 45) ∨ (mi = false ∧ c.toNat = 43))
/-- What AsNumber tells of a text. -/
def AsF (H O X : Nat → Nat) (s : ByteArray) (k b : Int) (mi : Bool) (z : Int) (x : Nat) : Prop :=
  k = 0 ∨
  (k = 1 ∧ (b = 8 ∨ b = 16) ∧ mi = false ∧ ∃ c d r, s.data.toList = c :: d :: r ∧ c.toNat = 48 ∧ ((b = 8 ∧ d.toNat = 111) ∨ (b = 16 ∧ d.toNat = 120)) ∧ r ≠ [] ∧ digF b r 0 = some z) ∨
  (k = 1 ∧ b = 10 ∧ ∃ T : List UInt8, SgT mi s.data.toList T ∧ Dg T ∧ T ≠ [] ∧ (T.length = 1 ∨ ∀ y r, T = y :: r → y.toNat ≠ 48) ∧ digF 10 T 0 = some z ∧ (mi = true → z ≤ 9223372036854775808)) ∨
  (k = 2 ∧ b = 10 ∧ z = 0 ∧ ∃ t : ByteArray, SgT mi s.data.toList t.data.toList ∧ FloG t.data.toList ∧ (parF H O X t).2 = 0 ∧ x = if mi then Op.negFloat .f64 (parF H O X t).1 else (parF H O X t).1)
def AsP (H O X : Nat → Nat) (s : ByteArray) (w : World) (e : Ending) (w' : World) : Prop := Below w.heap.size w w' ∧ ∃ k b mi z x, e = .returned (nbV k b mi z x) ∧ AsF H O X s k b mi z x ∧ (k ≠ 0 → s.size ≤ 100 ∧ 0 ≤ z ∧ z ≤ 18446744073709551615)
theorem as_zero {H O X : Nat → Nat} {s : ByteArray} {w : World} {e : Ending} {w' : World} (h : AsO w e w') : AsP H O X s w e w' := ⟨h.1, 0, 0, false, 0, 0, h.2, .inl rfl, fun h => absurd rfl h⟩
theorem dg_no {L : List UInt8} (h : Dg L) : ∀ c ∈ L, c.toNat ≠ 95 := fun c hc => by have := h c hc; omega
theorem flo_no {L : List UInt8} (h : FloG L) : ∀ c ∈ L, c.toNat ≠ 95 := by
  obtain ⟨V, ⟨a, p, b, rfl, hp, ha, _, _, hb, _⟩, hV⟩ := h
  intro c hc
  simp only [List.mem_append, List.mem_cons] at hc
  rcases hc with hc | rfl | hc | hc
  · exact dg_no ha c hc
  · omega
  · exact dg_no hb c hc
  · rcases hV with rfl | ⟨c1, r, q, rfl, h1, h2, hq, _, _⟩
    · cases hc
    · rcases List.mem_cons.1 hc with rfl | hc
      · omega
      · rcases h2 with rfl | ⟨g, hg, rfl⟩
        · exact dg_no hq c hc
        · rcases List.mem_cons.1 hc with rfl | hc
          · omega
          · exact dg_no hq c hc
theorem two_is {s : ByteArray} {a b : Int} (h : 2 < s.size) (h0 : ∀ h, ((s[0]'h).toNat : Int) = a) (h1 : ∀ h, ((s[1]'h).toNat : Int) = b) : ∃ c d r, s.data.toList = c :: d :: r ∧ (c.toNat : Int) = a ∧ (d.toNat : Int) = b ∧ (s.extract 2 s.size).data.toList = r ∧ r ≠ [] := by
  have hl := Lib.size_eq s
  match hs : s.data.toList with
  | [] => rw [hs] at hl; have h0 : ([] : List UInt8).length = 0 := rfl; omega
  | [x] => rw [hs] at hl; have h0 : [x].length = 1 := rfl; omega
  | [x, y] => rw [hs] at hl; have h0 : [x, y].length = 2 := rfl; omega
  | x :: y :: z :: r =>
    refine ⟨x, y, z :: r, rfl, ?_, ?_, by rw [ext_from, hs]; rfl, by simp⟩
    · have := h0 (by omega)
      have e : s[0]'(by omega) = s.data.toList[0]'(by rw [← hl]; omega) := rfl
      rw [e] at this
      simp only [hs] at this
      exact this
    · have := h1 (by omega)
      have e : s[1]'(by omega) = s.data.toList[1]'(by rw [← hl]; omega) := rfl
      rw [e] at this
      simp only [hs] at this
      exact this

set_option maxHeartbeats 1000000 in
set_option maxRecDepth 100000 in
theorem as_long (s : ByteArray) (hs : 100 < s.size) (w : World) : Calls Tryd.prog 11 #[.string s] w (AsO w) := by
  have d0 : decide ((100 : Int) < (s.size : Int)) = true := decide_eq_true (by omega)
  go_enter Tryd.func11, Tryd.ntmps11
  go_upto_region 1 with (fail)
  generalize hW : w.alloc _ = W
  have hz : W.heap[w.heap.size]? = some nb0 := by rw [← hW]; exact blk_new w _
  have hB : Below w.heap.size w W := by rw [← hW]; exact (Below.refl _ _).alloc (Nat.le_refl _) _
  obtain ⟨z0, z1, z2, z3, z4⟩ := nb_facts hz
  have f0 := blk_frozen hz 0
  have f1 := blk_frozen hz 1
  have f2 := blk_frozen hz 2
  have f3 := blk_frozen hz 3
  have f4 := blk_frozen hz 4
  have HZ := Aside0.mk hz
  have HB := Aside0.mk hB
  clear hz hB hW
  go_wp2_with fail
  exact bodyPost_ret (results_single rfl (.cell w.heap.size 30 _ (0, 0) _ rfl (set5_blk W w.heap.size 0 0 false 0 0 HZ.out) Tryd.underlying30 rfl (by kernel_rfl) .nil)) rfl (And.intro (set5_below w W w.heap.size w.heap.size 0 0 false 0 0 HB.out (Nat.le_refl _)) rfl)

set_option maxHeartbeats 1000000 in
set_option maxRecDepth 100000 in
theorem as_based (H O X : Nat → Nat) (s : ByteArray) (hs : s.size ≤ 100) (h2 : 2 < s.size) (c : Int) (h0 : ∀ h, ((s[0]'h).toNat : Int) = 48) (h1 : ∀ h, ((s[1]'h).toNat : Int) = c) (hc : c = 111 ∨ c = 120) (w : World) : Calls Tryd.prog 11 #[.string s] w (AsP H O X s w) := by
  have d0 : decide ((100 : Int) < (s.size : Int)) = false := decide_eq_false (by omega)
  have d2 : decide ((2 : Int) < (s.size : Int)) = true := decide_eq_true (by omega)
  have l2 : 2 ≤ s.size := by omega
  have l1 : 1 < s.size := by omega
  have l0 : 0 < s.size := by omega
  have CD := Aside0.mk dig_walk
  have HT := Aside0.mk (two_is h2 h0 h1)
  clear h2
  obtain ⟨U, hU⟩ : ∃ U, U = s.extract 2 s.size := ⟨_, rfl⟩
  have hus : U.size ≤ 140737488351232 := by rw [hU, ByteArray.size_extract]; omega
  have HU := Aside0.mk hU
  clear hU
  rcases hc with rfl | rfl
  · go_enter Tryd.func11, Tryd.ntmps11
    go_upto_region 1 with (fail)
    generalize hW : w.alloc _ = W
    have hz : W.heap[w.heap.size]? = some nb0 := by rw [← hW]; exact blk_new w _
    have hB : Below w.heap.size w W := by rw [← hW]; exact (Below.refl _ _).alloc (Nat.le_refl _) _
    clear hW
    have HZ := Aside0.mk hz
    have HB := Aside0.mk hB
    clear hz hB
    go_wp2_with fail
    rw [← HU.out]
    refine (CD.out _ (by omega) (by omega) U hus _).mono ?_
    rintro e w1 ⟨b1, n, ok, rfl, hok⟩
    have hz := blk_below HZ.out b1
    have hB := HB.out.trans (b1.mono HB.out.size)
    obtain ⟨z0, z1, z2, z3, z4⟩ := nb_facts hz
    have f0 := blk_frozen hz 0
    have f1 := blk_frozen hz 1
    have f2 := blk_frozen hz 2
    have f3 := blk_frozen hz 3
    have f4 := blk_frozen hz 4
    have HZ1 := Aside0.mk hz
    have HB1 := Aside0.mk hB
    have HOK := Aside0.mk hok
    clear hz hB b1 hok
    cases ok
    case false =>
      go_wp2_with fail
      exact bodyPost_ret (results_single rfl (.cell w.heap.size 30 _ (0, 0) _ rfl (set5_blk w1 w.heap.size 0 0 false 0 0 HZ1.out) Tryd.underlying30 rfl (by kernel_rfl) .nil)) rfl (as_zero ⟨set5_below w w1 w.heap.size w.heap.size 0 0 false 0 0 HB1.out (Nat.le_refl _), rfl⟩)
    case true =>
      go_wp2_with fail
      obtain ⟨e1, e2, e3, e4⟩ := HOK.out (by first | rfl | trivial)
      obtain ⟨c, d, r, g1, g2, g3, g4, g5⟩ := HT.out
      rw [← HU.out] at g4
      rw [g4] at e4
      exact bodyPost_ret (results_single rfl (.cell w.heap.size 30 _ (0, 0) _ rfl (set5_blk w1 w.heap.size 1 8 false n 0 HZ1.out) Tryd.underlying30 rfl (by kernel_rfl) .nil)) rfl ⟨set5_below w w1 w.heap.size w.heap.size 1 8 false n 0 HB1.out (Nat.le_refl _), 1, 8, false, n, 0, rfl, .inr (.inl ⟨rfl, .inl rfl, rfl, c, d, r, g1, by omega, .inl ⟨rfl, by omega⟩, g5, e4⟩), fun _ => ⟨hs, e2, e3⟩⟩
  · go_enter Tryd.func11, Tryd.ntmps11
    go_upto_region 1 with (fail)
    generalize hW : w.alloc _ = W
    have hz : W.heap[w.heap.size]? = some nb0 := by rw [← hW]; exact blk_new w _
    have hB : Below w.heap.size w W := by rw [← hW]; exact (Below.refl _ _).alloc (Nat.le_refl _) _
    clear hW
    have HZ := Aside0.mk hz
    have HB := Aside0.mk hB
    clear hz hB
    go_wp2_with fail
    rw [← HU.out]
    refine (CD.out _ (by omega) (by omega) U hus _).mono ?_
    rintro e w1 ⟨b1, n, ok, rfl, hok⟩
    have hz := blk_below HZ.out b1
    have hB := HB.out.trans (b1.mono HB.out.size)
    obtain ⟨z0, z1, z2, z3, z4⟩ := nb_facts hz
    have f0 := blk_frozen hz 0
    have f1 := blk_frozen hz 1
    have f2 := blk_frozen hz 2
    have f3 := blk_frozen hz 3
    have f4 := blk_frozen hz 4
    have HZ1 := Aside0.mk hz
    have HB1 := Aside0.mk hB
    have HOK := Aside0.mk hok
    clear hz hB b1 hok
    cases ok
    case false =>
      go_wp2_with fail
      exact bodyPost_ret (results_single rfl (.cell w.heap.size 30 _ (0, 0) _ rfl (set5_blk w1 w.heap.size 0 0 false 0 0 HZ1.out) Tryd.underlying30 rfl (by kernel_rfl) .nil)) rfl (as_zero ⟨set5_below w w1 w.heap.size w.heap.size 0 0 false 0 0 HB1.out (Nat.le_refl _), rfl⟩)
    case true =>
      go_wp2_with fail
      obtain ⟨e1, e2, e3, e4⟩ := HOK.out (by first | rfl | trivial)
      obtain ⟨c, d, r, g1, g2, g3, g4, g5⟩ := HT.out
      rw [← HU.out] at g4
      rw [g4] at e4
      exact bodyPost_ret (results_single rfl (.cell w.heap.size 30 _ (0, 0) _ rfl (set5_blk w1 w.heap.size 1 16 false n 0 HZ1.out) Tryd.underlying30 rfl (by kernel_rfl) .nil)) rfl ⟨set5_below w w1 w.heap.size w.heap.size 1 16 false n 0 HB1.out (Nat.le_refl _), 1, 16, false, n, 0, rfl, .inr (.inl ⟨rfl, .inr rfl, rfl, c, d, r, g1, by omega, .inr ⟨rfl, by omega⟩, g5, e4⟩), fun _ => ⟨hs, e2, e3⟩⟩
end Go.Proofs.YtlkbhmmelejmjaaDoor.AsWalk
