/-
  DERIVED: THE SHELF's CONTRACTS AT THIS DUMP, IN PLAIN WORDS (tools/lay-plain.mjs out of 'TrydpShelf.lean', which tools/lay-shelf.mjs wrote): THE SAME DECLARATIONS UNDER THE SAME NAMES: 'import', 'namespace', 'open', 'def', 'theorem' AND NOTHING ELSE: no command of the shelf's: FOR A HAND-IN. Each laying: the table of numbers ('.._ren') and one theorem, a field a fact of the dump's own or the kernel's comparison; each contract: ONE APPLICATION.
-/
import Derived.Shelf.LaysM
import Derived.Shelf.LaysC
import Derived.Shelf.Strconv.ParseInt10
import Derived.Shelf.Strconv.ParseInt10At64
import Derived.Shelf.Strconv.ParseInt10At32
import Derived.Shelf.Strconv.ParseInt10At16
import Derived.Shelf.Strconv.ParseInt10At8
import Derived.Shelf.Strconv.ParseInt10All
import Derived.Shelf.Strconv.ParseIntPublic10
import Derived.Test.YtmildhkegpmacaaDoorProg
namespace Go.Proofs
open Go.Shelf
def Tryd.laysC174_ren : Go.Shelf.Ren := ⟨fun | 174 => 105 | 247 => 138 | 245 => 139 | 287 => 151 | 279 => 152 | 280 => 153 | 281 => 154 | 282 => 155 | 321 => 159 | 322 => 160 | 316 => 161 | 171 => 162 | 205 => 104 | 243 => 165 | 246 => 168 | 283 => 170 | 284 => 171 | 285 => 172 | 286 => 173 | 129 => 175 | 317 => 174 | 318 => 176 | 319 => 177 | 320 => 178 | 337 => 179 | 338 => 180 | n => n, fun | 9 => 9 | 3 => 3 | 2 => 2 | 75 => 75 | 85 => 154 | 4 => 4 | 167 => 189 | 5 => 5 | 53 => 178 | 175 => 190 | 46 => 141 | 168 => 192 | 37 => 40 | 0 => 0 | 210 => 198 | 21 => 21 | 127 => 179 | 145 => 182 | 143 => 180 | 171 => 204 | 173 => 207 | 212 => 210 | 51 => 211 | 20 => 20 | 213 => 212 | 232 => 216 | 233 => 217 | 80 => 150 | n => n, fun | 15 => 6 | 16 => 7 | 17 => 8 | 18 => 9 | 19 => 10 | n => n⟩
theorem Tryd.laysC174 : Go.Proofs.LaysC.n174 Tryd.prog Tryd.laysC174_ren := {
  mixed := by kernel_rfl
  f129 := Tryd.func175.trans (congrArg some (by kernel_rfl))
  f171 := Tryd.func162.trans (congrArg some (by kernel_rfl))
  f174 := Tryd.func105.trans (congrArg some (by kernel_rfl))
  f205 := Tryd.func104.trans (congrArg some (by kernel_rfl))
  f243 := Tryd.func165.trans (congrArg some (by kernel_rfl))
  f245 := Tryd.func139.trans (congrArg some (by kernel_rfl))
  f246 := Tryd.func168.trans (congrArg some (by kernel_rfl))
  f247 := Tryd.func138.trans (congrArg some (by kernel_rfl))
  f279 := Tryd.func152.trans (congrArg some (by kernel_rfl))
  f280 := Tryd.func153.trans (congrArg some (by kernel_rfl))
  f281 := Tryd.func154.trans (congrArg some (by kernel_rfl))
  f282 := Tryd.func155.trans (congrArg some (by kernel_rfl))
  f283 := Tryd.func170.trans (congrArg some (by kernel_rfl))
  f284 := Tryd.func171.trans (congrArg some (by kernel_rfl))
  f285 := Tryd.func172.trans (congrArg some (by kernel_rfl))
  f286 := Tryd.func173.trans (congrArg some (by kernel_rfl))
  f287 := Tryd.func151.trans (congrArg some (by kernel_rfl))
  f316 := Tryd.func161.trans (congrArg some (by kernel_rfl))
  f317 := Tryd.func174.trans (congrArg some (by kernel_rfl))
  f318 := Tryd.func176.trans (congrArg some (by kernel_rfl))
  f319 := Tryd.func177.trans (congrArg some (by kernel_rfl))
  f320 := Tryd.func178.trans (congrArg some (by kernel_rfl))
  f321 := Tryd.func159.trans (congrArg some (by kernel_rfl))
  f322 := Tryd.func160.trans (congrArg some (by kernel_rfl))
  f337 := Tryd.func179.trans (congrArg some (by kernel_rfl))
  f338 := Tryd.func180.trans (congrArg some (by kernel_rfl))
  t0 := Tryd.underlying0
  a0 := Tryd.isAgg0
  z0 := Tryd.sizeOf0
  v0 := Tryd.zeroValue0
  t2 := Tryd.underlying2
  a2 := Tryd.isAgg2
  z2 := Tryd.sizeOf2
  v2 := Tryd.zeroValue2
  t3 := Tryd.underlying3
  a3 := Tryd.isAgg3
  z3 := Tryd.sizeOf3
  v3 := Tryd.zeroValue3
  t4 := Tryd.underlying4
  a4 := Tryd.isAgg4
  z4 := Tryd.sizeOf4
  v4 := Tryd.zeroValue4
  t5 := Tryd.underlying5
  a5 := Tryd.isAgg5
  z5 := Tryd.sizeOf5
  v5 := Tryd.zeroValue5
  t9 := Tryd.underlying9
  a9 := Tryd.isAgg9
  z9 := Tryd.sizeOf9
  v9 := Tryd.zeroValue9
  t20 := Tryd.underlying20
  a20 := Tryd.isAgg20
  z20 := Tryd.sizeOf20
  v20 := Tryd.zeroValue20
  t21 := Tryd.underlying21
  a21 := Tryd.isAgg21
  z21 := Tryd.sizeOf21
  v21 := Tryd.zeroValue21
  t37 := Tryd.underlying40
  a37 := Tryd.isAgg40
  z37 := Tryd.sizeOf40
  v37 := Tryd.zeroValue40
  t46 := Tryd.underlying141
  a46 := Tryd.isAgg141
  z46 := Tryd.sizeOf141
  v46 := Tryd.zeroValue141
  t51 := Tryd.underlying211
  a51 := Tryd.isAgg211
  z51 := Tryd.sizeOf211
  v51 := Tryd.zeroValue211
  t53 := Tryd.underlying178
  a53 := Tryd.isAgg178
  z53 := Tryd.sizeOf178
  v53 := Tryd.zeroValue178
  t75 := Tryd.underlying75
  a75 := Tryd.isAgg75
  z75 := Tryd.sizeOf75
  v75 := Tryd.zeroValue75
  t85 := Tryd.underlying154
  a85 := Tryd.isAgg154
  z85 := Tryd.sizeOf154
  v85 := Tryd.zeroValue154
  t127 := Tryd.underlying179
  a127 := Tryd.isAgg179
  z127 := Tryd.sizeOf179
  v127 := Tryd.zeroValue179
  t143 := Tryd.underlying180
  a143 := Tryd.isAgg180
  z143 := Tryd.sizeOf180
  v143 := Tryd.zeroValue180
  t145 := Tryd.underlying182
  a145 := Tryd.isAgg182
  z145 := Tryd.sizeOf182
  v145 := Tryd.zeroValue182
  t167 := Tryd.underlying189
  a167 := Tryd.isAgg189
  z167 := Tryd.sizeOf189
  v167 := Tryd.zeroValue189
  t168 := Tryd.underlying192
  a168 := Tryd.isAgg192
  z168 := Tryd.sizeOf192
  v168 := Tryd.zeroValue192
  t171 := Tryd.underlying204
  a171 := Tryd.isAgg204
  z171 := Tryd.sizeOf204
  v171 := Tryd.zeroValue204
  t173 := Tryd.underlying207
  a173 := Tryd.isAgg207
  z173 := Tryd.sizeOf207
  v173 := Tryd.zeroValue207
  t175 := Tryd.underlying190
  a175 := Tryd.isAgg190
  z175 := Tryd.sizeOf190
  v175 := Tryd.zeroValue190
  t210 := Tryd.underlying198
  a210 := Tryd.isAgg198
  z210 := Tryd.sizeOf198
  v210 := Tryd.zeroValue198
  t212 := Tryd.underlying210
  a212 := Tryd.isAgg210
  z212 := Tryd.sizeOf210
  v212 := Tryd.zeroValue210
  t213 := Tryd.underlying212
  a213 := Tryd.isAgg212
  z213 := Tryd.sizeOf212
  t232 := Tryd.underlying216
  a232 := Tryd.isAgg216
  z232 := Tryd.sizeOf216
  v232 := Tryd.zeroValue216
  t233 := Tryd.underlying217
  a233 := Tryd.isAgg217
  z233 := Tryd.sizeOf217
  v233 := Tryd.zeroValue217
  g15 := by kernel_rfl
  g16 := by kernel_rfl
  g17 := by kernel_rfl
  g18 := by kernel_rfl
  g19 := by kernel_rfl
  t80 := Tryd.underlying150
  a80 := Tryd.isAgg150
  z80 := Tryd.sizeOf150
  v80 := Tryd.zeroValue150
  i0 := by kernel_rfl
  i2 := by kernel_rfl
  i3 := by kernel_rfl
  i4 := by kernel_rfl
  i5 := by kernel_rfl
  i9 := by kernel_rfl
  i20 := by kernel_rfl
  i21 := by kernel_rfl
  i37 := by kernel_rfl
  i46 := by kernel_rfl
  i51 := by kernel_rfl
  i53 := by kernel_rfl
  i75 := by kernel_rfl
  i80 := by kernel_rfl
  i85 := by kernel_rfl
  i127 := by kernel_rfl
  i143 := by kernel_rfl
  i145 := by kernel_rfl
  i167 := by kernel_rfl
  i168 := by kernel_rfl
  i171 := by kernel_rfl
  i173 := by kernel_rfl
  i175 := by kernel_rfl
  i210 := by kernel_rfl
  i212 := by kernel_rfl
  i232 := by kernel_rfl
  i233 := by kernel_rfl
  m15 := by kernel_rfl
  m16 := by kernel_rfl
  m17 := by kernel_rfl
  m18 := by kernel_rfl
  m19 := by kernel_rfl
  c0 := by kernel_rfl
  c2 := by kernel_rfl
  c3 := by kernel_rfl
  c4 := by kernel_rfl
  c5 := by kernel_rfl
  c9 := by kernel_rfl
  c20 := by kernel_rfl
  c21 := by kernel_rfl
  c37 := by kernel_rfl
  c46 := by kernel_rfl
  c51 := by kernel_rfl
  c53 := by kernel_rfl
  c75 := by kernel_rfl
  c80 := by kernel_rfl
  c85 := by kernel_rfl
  c127 := by kernel_rfl
  c143 := by kernel_rfl
  c145 := by kernel_rfl
  c167 := by kernel_rfl
  c168 := by kernel_rfl
  c171 := by kernel_rfl
  c173 := by kernel_rfl
  c175 := by kernel_rfl
  c210 := by kernel_rfl
  c212 := by kernel_rfl
  c213 := by kernel_rfl
  c232 := by kernel_rfl
  c233 := by kernel_rfl }
open Go.RowKit in
/-- strconv.ParseInt(s, 10, 64), AT EVERY STRING THAT SPELLS AN int64 ('Lib.parseIntB 64 s.data.toList = .ok v'): v, AND NO ERROR. (LAID: no walk: one application.) -/
theorem Tryd.strconv_ParseInt_10_at64_ok (s : ByteArray) (hmax : s.size ≤ 9223372036854775806) (v : Int) (h : Lib.parseIntB 64 s.data.toList = .ok v) (w : World) :
    Calls Tryd.prog 105 #[.string s, .int .i64 10, .int .i64 64] w fun e w' => e = .returned (.tuple #[.int .i64 v, .nilIface]) ∧ (w' = w ∨ ∃ t, w' = Lib.bytesWorld w 5 t) := Any.strconv_ParseInt_10_at64_ok Tryd.laysC174 s hmax v h w
open Go.RowKit in
/-- strconv.ParseInt("", 10, 64): 0, and an error in a new block. -/
theorem Tryd.strconv_ParseInt_10_at64_none (ev : Value) (w : World) (hv : w.cell? ⟨6, 0, none⟩ = some ev) (hev : ev = .nilIface ∨ ∃ te pe, ev = .iface te pe) :
    Calls Tryd.prog 105 #[.string ⟨#[]⟩, .int .i64 10, .int .i64 64] w fun e w' => ∃ N, e = .returned (.tuple #[.int .i64 (0), .iface 192 (.pointer (some ⟨N, 0, none⟩))]) ∧ w.heap.size ≤ N ∧ w'.heap[N]? = some (.cells #[.string ⟨#[80, 97, 114, 115, 101, 73, 110, 116]⟩, .string ⟨#[]⟩, ev] 198 (0, 0)) ∧ Below w.heap.size w w' :=
  Any.strconv_ParseInt_10_at64_syntax Tryd.laysC174 ⟨#[]⟩ (by decide) (by decide +kernel) ev w hv hev
end Go.Proofs
