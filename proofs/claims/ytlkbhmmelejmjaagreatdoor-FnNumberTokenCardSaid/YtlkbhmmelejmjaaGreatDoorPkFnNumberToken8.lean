/- Parts of the proof of FnNumberToken, one behind the other: ErrShelf, NumErr, NumInt. Each part says ahead of itself what it proves. -/
import Derived.Shelf.LaysC
import Derived.Shelf.Strconv.ToError
import Derived.Shelf.Strconv.ToErrorRange
import Derived.Test.YtlkbhmmelejmjaaGreatDoorProg
import Derived.Test.YtlkbhmmelejmjaaGreatDoorPkFnNumberToken7
import Derived.Lib.IfaceEq
import Derived.Deep.RegionWith

/-
  DERIVED: THE SHELF's CONTRACTS AT THIS DUMP, IN PLAIN WORDS (tools/lay-plain.mjs out of 'TryzErrp.lean', which tools/lay-shelf.mjs wrote): THE SAME DECLARATIONS UNDER THE SAME NAMES: 'import', 'namespace', 'open', 'def', 'theorem' AND NOTHING ELSE: no command of the shelf's: FOR A HAND-IN. Each laying: the table of numbers ('.._ren') and one theorem, a field a fact of the dump's own or the kernel's comparison; each contract: ONE APPLICATION.
-/
namespace Go.Proofs
open Go.Shelf
def Tryz.laysC245_ren : Go.Shelf.Ren := ⟨fun | 245 => 86 | 279 => 101 | 280 => 102 | 281 => 103 | 282 => 104 | 316 => 120 | 171 => 122 | 205 => 121 | 243 => 138 | 246 => 153 | 283 => 158 | 284 => 159 | 285 => 160 | 286 => 161 | 129 => 142 | 317 => 164 | 318 => 146 | 319 => 165 | 320 => 166 | 337 => 167 | 338 => 168 | n => n, fun | 9 => 9 | 3 => 3 | 75 => 79 | 167 => 119 | 4 => 4 | 168 => 113 | 210 => 116 | 37 => 123 | 0 => 0 | 127 => 156 | 145 => 159 | 143 => 157 | 2 => 2 | 171 => 187 | 53 => 34 | 5 => 5 | 173 => 189 | 212 => 196 | 51 => 140 | 20 => 20 | 213 => 197 | 46 => 112 | 232 => 200 | 233 => 201 | 80 => 202 | n => n, fun | 15 => 3 | 16 => 2 | 17 => 12 | 18 => 13 | 19 => 14 | n => n⟩
theorem Tryz.laysC245 : Go.Proofs.LaysC.n245 Tryz.prog Tryz.laysC245_ren := {
  mixed := by kernel_rfl
  f129 := Tryz.func142.trans (congrArg some (by kernel_rfl))
  f171 := Tryz.func122.trans (congrArg some (by kernel_rfl))
  f205 := Tryz.func121.trans (congrArg some (by kernel_rfl))
  f243 := Tryz.func138.trans (congrArg some (by kernel_rfl))
  f245 := Tryz.func86.trans (congrArg some (by kernel_rfl))
  f246 := Tryz.func153.trans (congrArg some (by kernel_rfl))
  f279 := Tryz.func101.trans (congrArg some (by kernel_rfl))
  f280 := Tryz.func102.trans (congrArg some (by kernel_rfl))
  f281 := Tryz.func103.trans (congrArg some (by kernel_rfl))
  f282 := Tryz.func104.trans (congrArg some (by kernel_rfl))
  f283 := Tryz.func158.trans (congrArg some (by kernel_rfl))
  f284 := Tryz.func159.trans (congrArg some (by kernel_rfl))
  f285 := Tryz.func160.trans (congrArg some (by kernel_rfl))
  f286 := Tryz.func161.trans (congrArg some (by kernel_rfl))
  f316 := Tryz.func120.trans (congrArg some (by kernel_rfl))
  f317 := Tryz.func164.trans (congrArg some (by kernel_rfl))
  f318 := Tryz.func146.trans (congrArg some (by kernel_rfl))
  f319 := Tryz.func165.trans (congrArg some (by kernel_rfl))
  f320 := Tryz.func166.trans (congrArg some (by kernel_rfl))
  f337 := Tryz.func167.trans (congrArg some (by kernel_rfl))
  f338 := Tryz.func168.trans (congrArg some (by kernel_rfl))
  t0 := Tryz.underlying0
  a0 := Tryz.isAgg0
  z0 := Tryz.sizeOf0
  v0 := Tryz.zeroValue0
  t2 := Tryz.underlying2
  a2 := Tryz.isAgg2
  z2 := Tryz.sizeOf2
  v2 := Tryz.zeroValue2
  t3 := Tryz.underlying3
  a3 := Tryz.isAgg3
  z3 := Tryz.sizeOf3
  v3 := Tryz.zeroValue3
  t4 := Tryz.underlying4
  a4 := Tryz.isAgg4
  z4 := Tryz.sizeOf4
  v4 := Tryz.zeroValue4
  t5 := Tryz.underlying5
  a5 := Tryz.isAgg5
  z5 := Tryz.sizeOf5
  v5 := Tryz.zeroValue5
  t9 := Tryz.underlying9
  a9 := Tryz.isAgg9
  z9 := Tryz.sizeOf9
  v9 := Tryz.zeroValue9
  t20 := Tryz.underlying20
  a20 := Tryz.isAgg20
  z20 := Tryz.sizeOf20
  v20 := Tryz.zeroValue20
  t37 := Tryz.underlying123
  a37 := Tryz.isAgg123
  z37 := Tryz.sizeOf123
  v37 := Tryz.zeroValue123
  t46 := Tryz.underlying112
  a46 := Tryz.isAgg112
  z46 := Tryz.sizeOf112
  v46 := Tryz.zeroValue112
  t51 := Tryz.underlying140
  a51 := Tryz.isAgg140
  z51 := Tryz.sizeOf140
  v51 := Tryz.zeroValue140
  t53 := Tryz.underlying34
  a53 := Tryz.isAgg34
  z53 := Tryz.sizeOf34
  v53 := Tryz.zeroValue34
  t75 := Tryz.underlying79
  a75 := Tryz.isAgg79
  z75 := Tryz.sizeOf79
  v75 := Tryz.zeroValue79
  t127 := Tryz.underlying156
  a127 := Tryz.isAgg156
  z127 := Tryz.sizeOf156
  v127 := Tryz.zeroValue156
  t143 := Tryz.underlying157
  a143 := Tryz.isAgg157
  z143 := Tryz.sizeOf157
  v143 := Tryz.zeroValue157
  t145 := Tryz.underlying159
  a145 := Tryz.isAgg159
  z145 := Tryz.sizeOf159
  v145 := Tryz.zeroValue159
  t167 := Tryz.underlying119
  a167 := Tryz.isAgg119
  z167 := Tryz.sizeOf119
  v167 := Tryz.zeroValue119
  t168 := Tryz.underlying113
  a168 := Tryz.isAgg113
  z168 := Tryz.sizeOf113
  v168 := Tryz.zeroValue113
  t171 := Tryz.underlying187
  a171 := Tryz.isAgg187
  z171 := Tryz.sizeOf187
  v171 := Tryz.zeroValue187
  t173 := Tryz.underlying189
  a173 := Tryz.isAgg189
  z173 := Tryz.sizeOf189
  v173 := Tryz.zeroValue189
  t210 := Tryz.underlying116
  a210 := Tryz.isAgg116
  z210 := Tryz.sizeOf116
  v210 := Tryz.zeroValue116
  t212 := Tryz.underlying196
  a212 := Tryz.isAgg196
  z212 := Tryz.sizeOf196
  v212 := Tryz.zeroValue196
  t213 := Tryz.underlying197
  a213 := Tryz.isAgg197
  z213 := Tryz.sizeOf197
  t232 := Tryz.underlying200
  a232 := Tryz.isAgg200
  z232 := Tryz.sizeOf200
  v232 := Tryz.zeroValue200
  t233 := Tryz.underlying201
  a233 := Tryz.isAgg201
  z233 := Tryz.sizeOf201
  v233 := Tryz.zeroValue201
  g15 := by kernel_rfl
  g16 := by kernel_rfl
  g17 := by kernel_rfl
  g18 := by kernel_rfl
  g19 := by kernel_rfl
  t80 := Tryz.underlying202
  a80 := Tryz.isAgg202
  z80 := Tryz.sizeOf202
  v80 := Tryz.zeroValue202
  i0 := by kernel_rfl
  i2 := by kernel_rfl
  i3 := by kernel_rfl
  i4 := by kernel_rfl
  i5 := by kernel_rfl
  i9 := by kernel_rfl
  i20 := by kernel_rfl
  i37 := by kernel_rfl
  i46 := by kernel_rfl
  i51 := by kernel_rfl
  i53 := by kernel_rfl
  i75 := by kernel_rfl
  i80 := by kernel_rfl
  i127 := by kernel_rfl
  i143 := by kernel_rfl
  i145 := by kernel_rfl
  i167 := by kernel_rfl
  i168 := by kernel_rfl
  i171 := by kernel_rfl
  i173 := by kernel_rfl
  i210 := by kernel_rfl
  i212 := by kernel_rfl
  i232 := by kernel_rfl
  i233 := by kernel_rfl
  m15 := by kernel_rfl
  m16 := by kernel_rfl
  m17 := by kernel_rfl
  m18 := by kernel_rfl
  m19 := by kernel_rfl
  c0 := by kernel_rfl
  c2 := by kernel_rfl
  c3 := by kernel_rfl
  c4 := by kernel_rfl
  c5 := by kernel_rfl
  c9 := by kernel_rfl
  c20 := by kernel_rfl
  c37 := by kernel_rfl
  c46 := by kernel_rfl
  c51 := by kernel_rfl
  c53 := by kernel_rfl
  c75 := by kernel_rfl
  c80 := by kernel_rfl
  c127 := by kernel_rfl
  c143 := by kernel_rfl
  c145 := by kernel_rfl
  c167 := by kernel_rfl
  c168 := by kernel_rfl
  c171 := by kernel_rfl
  c173 := by kernel_rfl
  c210 := by kernel_rfl
  c212 := by kernel_rfl
  c213 := by kernel_rfl
  c232 := by kernel_rfl
  c233 := by kernel_rfl }
open Go.RowKit in
/-- strconv.toError, at the inner package's ErrSyntax: 'syntaxError(fn, s)' as an error: A *NumError IN A NEW BLOCK. (LAID: no walk: one application.) -/
theorem Tryz.strconv_toError_syntax (fn s : ByteArray) (base bits : Int) (ev : Value) (w : World) (hlim : s.size ≤ 281474976710656) (hv : w.cell? ⟨3, 0, none⟩ = some ev) (hev : ev = .nilIface ∨ ∃ te pe, ev = .iface te pe) :
    Calls Tryz.prog 86 #[.string fn, .string s, .int .i64 base, .int .i64 bits, .iface 119 (.int .i64 2)] w fun e w' => ∃ N, e = .returned (.iface 113 (.pointer (some ⟨N, 0, none⟩))) ∧ w.heap.size ≤ N ∧ w'.heap[N]? = some (.cells #[.string fn, .string s, ev] 116 (0, 0)) ∧ Below w.heap.size w w' := Any.strconv_toError_syntax Tryz.laysC245 fn s base bits ev w hlim hv hev
open Go.RowKit in
/-- strconv.toError, at the inner package's ErrRange: 'rangeError(fn, s)' as an error: A *NumError IN A NEW BLOCK. (LAID: no walk: one application.) -/
theorem Tryz.strconv_toError_range (fn s : ByteArray) (base bits : Int) (ev : Value) (w : World) (hlim : s.size ≤ 281474976710656) (hv : w.cell? ⟨2, 0, none⟩ = some ev) (hev : ev = .nilIface ∨ ∃ te pe, ev = .iface te pe) :
    Calls Tryz.prog 86 #[.string fn, .string s, .int .i64 base, .int .i64 bits, .iface 119 (.int .i64 1)] w fun e w' => ∃ N, e = .returned (.iface 113 (.pointer (some ⟨N, 0, none⟩))) ∧ w.heap.size ≤ N ∧ w'.heap[N]? = some (.cells #[.string fn, .string s, ev] 116 (0, 0)) ∧ Below w.heap.size w w' := Any.strconv_toError_range Tryz.laysC245 fn s base bits ev w hlim hv hev
end Go.Proofs

/- The errors of package strconv; ParseFloat, ParseUint and ParseInt with their errors. -/
namespace Go.Proofs.YtlkbhmmelejmjaaGreatDoor.NumErr
open Go.RowKit Go.Proofs.YtlkbhmmelejmjaaGreatDoorW.PrintWords Go.Proofs.YtlkbhmmelejmjaaGreatDoor.FltAtof Go.Proofs.YtlkbhmmelejmjaaGreatDoor.FltParse Go.Proofs.YtlkbhmmelejmjaaGreatDoor.NumParse Go.Proofs.YtlkbhmmelejmjaaGreatDoor.NumStrip
set_option linter.unusedVariables false
set_option linter.unusedSimpArgs false


/-- What ErrRange (1) and ErrSyntax (2) hold. -/
structure Errs (B : Nat) (EV : Nat → Value) (w : World) : Prop where
  r : 2 < B ∧ w.cell? ⟨2, 0, none⟩ = some (EV 1)
  s : 3 < B ∧ w.cell? ⟨3, 0, none⟩ = some (EV 2)
  p : ∀ k, ∃ a, EV k = .iface 157 (.pointer (some a))
theorem Errs.keep {B p : Nat} {EV : Nat → Value} {w w' : World} (h : Errs B EV w) (hb : Below p w w') (hp : B ≤ p) : Errs B EV w' :=
  ⟨⟨h.r.1, (hb.cell (p := ⟨2, 0, none⟩) (Nat.lt_of_lt_of_le h.r.1 hp)).trans h.r.2⟩, ⟨h.s.1, (hb.cell (p := ⟨3, 0, none⟩) (Nat.lt_of_lt_of_le h.s.1 hp)).trans h.s.2⟩, h.p⟩

def ErP (EV : Nat → Value) (k : Nat) (fn s : ByteArray) (w : World) (e : Ending) (w' : World) : Prop := ∃ N, e = .returned (.iface 113 (.pointer (some ⟨N, 0, none⟩))) ∧ w.heap.size ≤ N ∧ w'.heap[N]? = some (.cells #[.string fn, .string s, EV k] 116 (0, 0)) ∧ Below w.heap.size w w'
theorem toErr (B : Nat) (EV : Nat → Value) (k : Nat) (hk : k = 1 ∨ k = 2) (fn s : ByteArray) (base bs : Int) (hs : s.size ≤ 281474976710656) (w : World) (hE : Errs B EV w) : Calls Tryz.prog 86 #[.string fn, .string s, .int .i64 base, .int .i64 bs, erN k] w (ErP EV k fn s w) := by
  rcases hk with rfl | rfl
  · obtain ⟨a, ha⟩ := hE.p 1
    exact Tryz.strconv_toError_range fn s base bs (EV 1) w hs hE.r.2 (.inr ⟨_, _, ha⟩)
  · obtain ⟨a, ha⟩ := hE.p 2
    exact Tryz.strconv_toError_syntax fn s base bs (EV 2) w hs hE.s.2 (.inr ⟨_, _, ha⟩)

/-- A number (k = 0), or the error of a kind. -/
def NumE (okv : Value) (k : Nat) (EV : Nat → Value) (w : World) (e : Ending) (w' : World) : Prop :=
  Below w.heap.size w w' ∧ ((k = 0 ∧ e = .returned (.tuple #[okv, .nilIface])) ∨ (k ≠ 0 ∧ ∃ v N fn s, e = .returned (.tuple #[v, .iface 113 (.pointer (some ⟨N, 0, none⟩))]) ∧ w.heap.size ≤ N ∧ w'.heap[N]? = some (.cells #[.string fn, .string s, EV k] 116 (0, 0))))

theorem parF_k (H O X : Nat → Nat) (s : ByteArray) : (parF H O X s).2 = 0 ∨ (parF H O X s).2 = 1 ∨ (parF H O X s).2 = 2 := by
  have hslow : ∀ T, (slowF T).2 = 0 ∨ (slowF T).2 = 1 ∨ (slowF T).2 = 2 := fun T => by
    unfold slowF
    cases FltTextP.setF (FltTextP.sgn T).2 with
    | none => exact .inr (.inr rfl)
    | some t =>
      by_cases h : t.n = 0
      · simp [h]
      · simp only [h, if_false]
        cases FltBitsP.over t
        · exact .inl rfl
        · exact .inr (.inl rfl)
  have hb : ∀ b : Bool, (if b then 1 else 0 : Nat) = 0 ∨ (if b then 1 else 0 : Nat) = 1 ∨ (if b then 1 else 0 : Nat) = 2 := fun b => by cases b <;> simp
  have hnum : ∀ ng T r, (numF H O X ng T r).2 = 0 ∨ (numF H O X ng T r).2 = 1 ∨ (numF H O X ng T r).2 = 2 := fun ng T r => by
    unfold numF
    split
    · exact hb _
    split
    · exact .inl rfl
    split
    · exact .inr (.inl rfl)
    split
    · exact .inl rfl
    split
    · split
      · exact .inl rfl
      · exact hb _
    split
    · exact hb _
    · exact hslow _
  unfold parF
  split
  · split
    · exact .inl rfl
    · exact .inr (.inr rfl)
  · split
    · exact .inr (.inr rfl)
    · split
      · exact hnum _ _ _
      · exact .inr (.inr rfl)

set_option maxRecDepth 100000 in
/-- strconv.ParseFloat. -/
theorem float_any (B : Nat) (H O X : Nat → Nat) (EV : Nat → Value) (s : ByteArray) (hsz : s.size ≤ 2200000000) (hus : ∀ i (h : i < s.size), s[i].toNat ≠ 95) (w : World) (hB : B ≤ w.heap.size) (hT : Tabs B H O X w) (hE : Errs B EV w) : Calls Tryz.prog 47 #[.string s, .int .i64 64] w (NumE (.float .f64 (parF H O X s).1) (parF H O X s).2 EV w) := by
  by_cases hk : (parF H O X s).2 = 0
  · exact (float_ok B H O X s hsz hus w hB hT hk).mono fun e w' h => ⟨h.1, .inl ⟨hk, h.2⟩⟩
  · have hk2 : (parF H O X s).2 = 1 ∨ (parF H O X s).2 = 2 := by
      rcases parF_k H O X s with h | h | h
      · exact absurd h hk
      · exact .inl h
      · exact .inr h
    have C := parse_walk B H O X s hsz hus w hB hT
    unfold PaP at C
    obtain ⟨v, hv⟩ : ∃ v, v = (parF H O X s).1 := ⟨_, rfl⟩
    obtain ⟨k, hkk⟩ : ∃ k, k = (parF H O X s).2 := ⟨_, rfl⟩
    rw [← hv, ← hkk] at C ⊢
    rw [← hkk] at hk hk2
    have C := Aside0.mk C
    have hEr : erN k = .iface 119 (.int .i64 (k : Int)) := if_neg hk
    have D := Aside0.mk (fun (W : World) (hb : Below w.heap.size w W) => toErr B EV k hk2 ⟨#[80, 97, 114, 115, 101, 70, 108, 111, 97, 116]⟩ s 0 64 (by omega) W (hE.keep hb hB))
    rw [hEr] at C D
    clear hus hT hv hE hkk hEr
    replace hk := Aside0.mk hk
    replace hk2 := Aside0.mk hk2
    go_enter Tryz.func47, Tryz.ntmps47
    go_wp2_with (first | (go_at_call 85; refine C.out.mono ?_; rintro e w1 ⟨hb3, rfl⟩; have HB3 := Aside0.mk hb3; clear hb3) | (go_at_call 86; refine (D.out _ HB3.out).mono ?_; rintro e w2 ⟨N, rfl, h1, h2, h3⟩; have H1 := Aside0.mk h1; have H2 := Aside0.mk h2; have H3 := Aside0.mk h3; clear h1 h2 h3))
    all_goals go_ret2
    all_goals exact ⟨HB3.out.trans (H3.out.mono HB3.out.size), .inr ⟨hk.out, _, _, _, _, rfl, Nat.le_trans HB3.out.size H1.out, H2.out⟩⟩
end Go.Proofs.YtlkbhmmelejmjaaGreatDoor.NumErr

/- ParseUint and ParseInt of package strconv, with their errors. -/
namespace Go.Proofs.YtlkbhmmelejmjaaGreatDoor.NumInt
open Go.RowKit Go.Proofs.YtlkbhmmelejmjaaGreatDoorW.PrintWords Go.Proofs.YtlkbhmmelejmjaaGreatDoor.FltAtof Go.Proofs.YtlkbhmmelejmjaaGreatDoor.FltParse Go.Proofs.YtlkbhmmelejmjaaGreatDoor.NumParse Go.Proofs.YtlkbhmmelejmjaaGreatDoor.NumStrip Go.Proofs.YtlkbhmmelejmjaaGreatDoor.NumErr
set_option linter.unusedVariables false
set_option linter.unusedSimpArgs false


/-- The kind of the error: 0 none, 1 too great, 2 no number. -/
def kd : En → Nat
  | .ok _ => 0
  | .range => 1
  | .bad => 2
def vl : En → Nat
  | .ok n => n
  | _ => 0
/-- What the digits of a base spell; no digits are no number. -/
def puE (b : Nat) (t : ByteArray) : En := if t.size = 0 then .bad else pu b 0 t.data.toList
def Bs (b : Nat) (B : Int) : Prop := (b = 2 ∧ B = 2) ∨ (b = 8 ∧ B = 8) ∨ (b = 10 ∧ B = 10) ∨ (b = 16 ∧ B = 16)
def PUe (q : En) (w : World) (e : Ending) (w' : World) : Prop := e = .returned (uTup 119 q) ∧ Below w.heap.size w w'

set_option maxRecDepth 100000 in
theorem parse_any (b : Nat) (B : Int) (hb : Bs b B) (t : ByteArray) (hmax : t.size ≤ 9223372036854775806) (w : World) : Calls Tryz.prog 115 #[.string t, .int .i64 B, .int .i64 64] w (PUe (puE b t) w) := by
  by_cases h0 : t.size = 0
  · have ht : t = ⟨#[]⟩ := ByteArray.ext (Array.eq_empty_of_size_eq_zero h0)
    have hq : puE b t = .bad := if_pos h0
    rw [hq]
    subst ht
    unfold PUe uTup
    clear hq h0 hb
    go_enter Tryz.func115, Tryz.ntmps115
    go_wp2_with fail
    go_ret2
    exact ⟨rfl, Below.refl _ _⟩
  · have hq : puE b t = pu b 0 t.data.toList := if_neg h0
    rw [hq]
    rcases hb with ⟨rfl, rfl⟩ | ⟨rfl, rfl⟩ | ⟨rfl, rfl⟩ | ⟨rfl, rfl⟩
    · exact parse_2 t h0 hmax w
    · exact parse_8 t h0 hmax w
    · exact parse_10 t h0 hmax w
    · exact parse_16 t h0 hmax w

theorem tup_ok (n : Nat) : uTup 119 (.ok n) = .tuple #[.int .u64 n, .nilIface] := rfl
theorem tup_syn : uTup 119 .bad = .tuple #[.int .u64 0, erN 2] := rfl
theorem tup_ran : uTup 119 .range = .tuple #[.int .u64 18446744073709551615, erN 1] := rfl

def Un (q : En) (EV : Nat → Value) (w : World) (e : Ending) (w' : World) : Prop := NumE (.int .u64 (vl q : Nat)) (kd q) EV w e w'
set_option maxRecDepth 100000 in
/-- strconv.ParseUint. -/
theorem uint_any (Bk : Nat) (EV : Nat → Value) (b : Nat) (B : Int) (hb : Bs b B) (t : ByteArray) (hs : t.size ≤ 281474976710656) (w : World) (hB : Bk ≤ w.heap.size) (hE : Errs Bk EV w) : Calls Tryz.prog 94 #[.string t, .int .i64 B, .int .i64 64] w (Un (puE b t) EV w) := by
  have C := parse_any b B hb t (by omega) w
  unfold PUe at C
  unfold Un
  generalize puE b t = q at C
  have D : Aside0 (∀ (k : Nat), k = 1 ∨ k = 2 → ∀ (W : World) (hbl : Below w.heap.size w W), Calls Tryz.prog 86 #[.string ⟨#[80, 97, 114, 115, 101, 85, 105, 110, 116]⟩, .string t, .int .i64 B, .int .i64 64, erN k] W (ErP EV k ⟨#[80, 97, 114, 115, 101, 85, 105, 110, 116]⟩ t W)) := ⟨fun k hk W hbl => toErr Bk EV k hk _ t B 64 hs W (hE.keep hbl hB)⟩
  clear hE hb
  cases q with
  | ok n =>
    rw [tup_ok] at C
    obtain ⟨v, hv⟩ : ∃ v, v = (n : Int) := ⟨_, rfl⟩
    show Calls _ _ _ _ (NumE (.int .u64 (n : Int)) 0 EV w)
    rw [← hv] at C ⊢
    have C := Aside0.mk C
    clear hv
    go_enter Tryz.func94, Tryz.ntmps94
    go_wp2_with (first | (go_at_call 115; refine C.out.mono ?_; rintro e w1 ⟨rfl, hb3⟩; have HB3 := Aside0.mk hb3; clear hb3))
    go_ret2
    exact ⟨HB3.out, .inl ⟨rfl, rfl⟩⟩
  | bad =>
    rw [tup_syn, show erN 2 = .iface 119 (.int .i64 2) from rfl] at C
    have C := Aside0.mk C
    have D := Aside0.mk (D.out 2 (.inr rfl))
    rw [show erN 2 = .iface 119 (.int .i64 2) from rfl] at D
    show Calls _ _ _ _ (NumE (.int .u64 0) 2 EV w)
    go_enter Tryz.func94, Tryz.ntmps94
    go_wp2_with (first | (go_at_call 115; refine C.out.mono ?_; rintro e w1 ⟨rfl, hb3⟩; have HB3 := Aside0.mk hb3; clear hb3) | (go_at_call 86; refine (D.out _ HB3.out).mono ?_; rintro e w2 ⟨N, rfl, h1, h2, h3⟩; have H1 := Aside0.mk h1; have H2 := Aside0.mk h2; have H3 := Aside0.mk h3; clear h1 h2 h3))
    all_goals go_ret2
    all_goals exact ⟨HB3.out.trans (H3.out.mono HB3.out.size), .inr ⟨by decide, _, _, _, _, rfl, Nat.le_trans HB3.out.size H1.out, H2.out⟩⟩
  | range =>
    rw [tup_ran, show erN 1 = .iface 119 (.int .i64 1) from rfl] at C
    have C := Aside0.mk C
    have D := Aside0.mk (D.out 1 (.inl rfl))
    rw [show erN 1 = .iface 119 (.int .i64 1) from rfl] at D
    show Calls _ _ _ _ (NumE (.int .u64 0) 1 EV w)
    go_enter Tryz.func94, Tryz.ntmps94
    go_wp2_with (first | (go_at_call 115; refine C.out.mono ?_; rintro e w1 ⟨rfl, hb3⟩; have HB3 := Aside0.mk hb3; clear hb3) | (go_at_call 86; refine (D.out _ HB3.out).mono ?_; rintro e w2 ⟨N, rfl, h1, h2, h3⟩; have H1 := Aside0.mk h1; have H2 := Aside0.mk h2; have H3 := Aside0.mk h3; clear h1 h2 h3))
    all_goals go_ret2
    all_goals exact ⟨HB3.out.trans (H3.out.mono HB3.out.size), .inr ⟨by decide, _, _, _, _, rfl, Nat.le_trans HB3.out.size H1.out, H2.out⟩⟩

/-- What a number of 64 bits behind a minus is. -/
def inE : En → En
  | .ok n => if 9223372036854775808 < n then .range else .ok n
  | .range => .range
  | .bad => .bad
def Ie (q : En) (w : World) (e : Ending) (w' : World) : Prop := Below w.heap.size w w' ∧ match q with
  | .ok n => e = .returned (.tuple #[.int .i64 (-(n : Int)), .nilIface])
  | .range => ∃ v, e = .returned (.tuple #[v, .iface 119 (.int .i64 1)])
  | .bad => e = .returned (.tuple #[.int .i64 0, .iface 119 (.int .i64 2)])
theorem neq21 (W : World) : (binOp .neq 79 (.iface 119 (.int .i64 2)) (.iface 119 (.int .i64 1))).run Tryz.prog W = .ok (.bool true) W := by kernel_rfl
theorem neq11 (W : World) : (binOp .neq 79 (.iface 119 (.int .i64 1)) (.iface 119 (.int .i64 1))).run Tryz.prog W = .ok (.bool false) W := by kernel_rfl

set_option maxHeartbeats 4000000 in
set_option maxRecDepth 100000 in
theorem int_in (b : Nat) (B : Int) (hb : Bs b B) (r : ByteArray) (hs : r.size ≤ 140737488351232) (w : World) : Calls Tryz.prog 114 #[.string (⟨#[45]⟩ ++ r), .int .i64 B, .int .i64 64] w (Ie (inE (puE b r)) w) := by
  have C := parse_any b B hb r (by omega)
  unfold PUe at C
  generalize puE b r = q at C
  obtain ⟨t, ht⟩ : ∃ t : ByteArray, t = ⟨#[45]⟩ ++ r := ⟨_, rfl⟩
  rw [← ht]
  have hd : t.data.toList = 45 :: r.data.toList := by rw [ht, ByteArray.data_append]; simp
  have hsz : t.size = r.size + 1 := by rw [Lib.size_eq, hd, Lib.size_eq]; rfl
  have hemp : t.toList.isEmpty = false := by rw [Lib.toList_data, hd]; rfl
  have hx : t.extract 1 t.size = r := by
    rw [Lib.extract_eq, hd, hsz, Nat.add_sub_cancel]
    rw [List.drop_succ_cons, List.drop_zero, List.take_of_length_le (by rw [← Lib.size_eq]; exact Nat.le_refl _)]
  have h45 : ∀ h, ((t[0]'h).toNat : Int) = 45 := fun h => by
    have : t[0]'h = t.data.toList[0]'(by rw [← Lib.size_eq]; exact h) := rfl
    rw [this]; simp [hd]
  have hs0 : 0 < t.size := by omega
  have hs1 : 1 ≤ t.size := by omega
  clear hd hsz ht hb
  have n21 := neq21
  have n11 := neq11
  cases q with
  | ok n =>
    simp only [tup_ok] at C
    obtain ⟨a, ha⟩ : ∃ a, a = (n : Int) := ⟨_, rfl⟩
    rw [← ha] at C
    have C := Aside0.mk C
    have h0 : 0 ≤ a := by omega
    by_cases h63 : 9223372036854775808 < n
    · have h63' : 9223372036854775808 < a := by omega
      rw [show inE (.ok n) = .range from if_pos h63]
      unfold Ie
      clear ha h63
      go_enter Tryz.func114, Tryz.ntmps114
      go_wp2_with fail
      refine (C.out _).mono ?_
      rintro e w1 ⟨rfl, hbl⟩
      have HB := Aside0.mk hbl
      clear hbl
      go_wp2_with fail
      go_ret2
      exact ⟨HB.out, _, rfl⟩
    · have h63' : ¬ 9223372036854775808 < a := by omega
      have HW : Aside0 (wrap64 (-wrap64 a) = -(n : Int)) := ⟨by unfold wrap64; omega⟩
      rw [show inE (.ok n) = .ok n from if_neg h63]
      unfold Ie
      clear ha h63
      go_enter Tryz.func114, Tryz.ntmps114
      go_wp2_with fail
      refine (C.out _).mono ?_
      rintro e w1 ⟨rfl, hbl⟩
      have HB := Aside0.mk hbl
      clear hbl
      go_wp2_with fail
      go_ret2
      refine ⟨HB.out, ?_⟩
      show Ending.returned (.tuple #[.int .i64 (wrap64 (-wrap64 a)), .nilIface]) = _
      rw [HW.out]
  | bad =>
    simp only [tup_syn, show erN 2 = .iface 119 (.int .i64 2) from rfl] at C
    have C := Aside0.mk C
    show Calls _ _ _ _ (Ie .bad w)
    unfold Ie
    go_enter Tryz.func114, Tryz.ntmps114
    go_wp2_with fail
    refine (C.out _).mono ?_
    rintro e w1 ⟨rfl, hbl⟩
    have HB := Aside0.mk hbl
    clear hbl
    go_wp2_with fail
    go_ret2
    exact ⟨HB.out, rfl⟩
  | range =>
    simp only [tup_ran, show erN 1 = .iface 119 (.int .i64 1) from rfl] at C
    have C := Aside0.mk C
    show Calls _ _ _ _ (Ie .range w)
    unfold Ie
    go_enter Tryz.func114, Tryz.ntmps114
    go_wp2_with fail
    refine (C.out _).mono ?_
    rintro e w1 ⟨rfl, hbl⟩
    have HB := Aside0.mk hbl
    clear hbl
    go_wp2_with fail
    go_ret2
    exact ⟨HB.out, _, rfl⟩

set_option maxRecDepth 100000 in
/-- strconv.ParseInt of a text behind a minus. -/
theorem int_any (Bk : Nat) (EV : Nat → Value) (b : Nat) (B : Int) (hb : Bs b B) (r : ByteArray) (hs : r.size ≤ 140737488351232) (w : World) (hB : Bk ≤ w.heap.size) (hE : Errs Bk EV w) : Calls Tryz.prog 93 #[.string (⟨#[45]⟩ ++ r), .int .i64 B, .int .i64 64] w (NumE (.int .i64 (-(vl (inE (puE b r)) : Nat) : Int)) (kd (inE (puE b r))) EV w) := by
  have C := int_in b B hb r hs w
  have hsz : (⟨#[45]⟩ ++ r : ByteArray).size ≤ 281474976710656 := by
    rw [ByteArray.size_append]
    have : (ByteArray.mk #[45]).size = 1 := rfl
    omega
  generalize inE (puE b r) = q at C
  generalize (⟨#[45]⟩ ++ r : ByteArray) = t at C hsz
  have D : Aside0 (∀ (k : Nat), k = 1 ∨ k = 2 → ∀ (W : World) (hbl : Below w.heap.size w W), Calls Tryz.prog 86 #[.string ⟨#[80, 97, 114, 115, 101, 73, 110, 116]⟩, .string t, .int .i64 B, .int .i64 64, erN k] W (ErP EV k ⟨#[80, 97, 114, 115, 101, 73, 110, 116]⟩ t W)) := ⟨fun k hk W hbl => toErr Bk EV k hk _ t B 64 hsz W (hE.keep hbl hB)⟩
  clear hE hb
  unfold Ie at C
  cases q with
  | ok n =>
    show Calls _ _ _ _ (NumE (.int .i64 (-(n : Int))) 0 EV w)
    obtain ⟨v, hv⟩ : ∃ v, v = -(n : Int) := ⟨_, rfl⟩
    simp only [← hv] at C ⊢
    have C := Aside0.mk C
    clear hv
    go_enter Tryz.func93, Tryz.ntmps93
    go_wp2_with (first | (go_at_call 114; refine C.out.mono ?_; rintro e w1 ⟨hb3, rfl⟩; have HB3 := Aside0.mk hb3; clear hb3))
    go_ret2
    exact ⟨HB3.out, .inl ⟨rfl, rfl⟩⟩
  | bad =>
    have C := Aside0.mk C
    have D := Aside0.mk (D.out 2 (.inr rfl))
    rw [show erN 2 = .iface 119 (.int .i64 2) from rfl] at D
    show Calls _ _ _ _ (NumE (.int .i64 (-0)) 2 EV w)
    go_enter Tryz.func93, Tryz.ntmps93
    go_wp2_with (first | (go_at_call 114; refine C.out.mono ?_; rintro e w1 ⟨hb3, rfl⟩; have HB3 := Aside0.mk hb3; clear hb3) | (go_at_call 86; refine (D.out _ HB3.out).mono ?_; rintro e w2 ⟨N, rfl, h1, h2, h3⟩; have H1 := Aside0.mk h1; have H2 := Aside0.mk h2; have H3 := Aside0.mk h3; clear h1 h2 h3))
    all_goals go_ret2
    all_goals exact ⟨HB3.out.trans (H3.out.mono HB3.out.size), .inr ⟨by decide, _, _, _, _, rfl, Nat.le_trans HB3.out.size H1.out, H2.out⟩⟩
  | range =>
    have C := Aside0.mk C
    have D := Aside0.mk (D.out 1 (.inl rfl))
    rw [show erN 1 = .iface 119 (.int .i64 1) from rfl] at D
    show Calls _ _ _ _ (NumE (.int .i64 (-0)) 1 EV w)
    go_enter Tryz.func93, Tryz.ntmps93
    go_wp2_with (first | (go_at_call 114; refine C.out.mono ?_; rintro e w1 ⟨hb3, v, rfl⟩; have HB3 := Aside0.mk hb3; clear hb3) | (go_at_call 86; refine (D.out _ HB3.out).mono ?_; rintro e w2 ⟨N, rfl, h1, h2, h3⟩; have H1 := Aside0.mk h1; have H2 := Aside0.mk h2; have H3 := Aside0.mk h3; clear h1 h2 h3))
    all_goals go_ret2
    all_goals exact ⟨HB3.out.trans (H3.out.mono HB3.out.size), .inr ⟨by decide, _, _, _, _, rfl, Nat.le_trans HB3.out.size H1.out, H2.out⟩⟩
end Go.Proofs.YtlkbhmmelejmjaaGreatDoor.NumInt
