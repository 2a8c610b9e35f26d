/- Parts of the proof of FnQuotesWords, one behind the other: FltFast2, FltNum, FltExact, FltSpecial, FltAtof. Each part says ahead of itself what it proves. -/
import Derived.Test.YtlkbhmmelejmjaaGreatDoorPkFnQuotesWords4
import Derived.WalkLawsBesides
import Derived.Test.YtlkbhmmelejmjaaGreatDoorPkFnQuotesWords5
import Derived.Test.YtlkbhmmelejmjaaGreatDoorPkFnQuotesWords2

/- The fast road of floats, walked: prescale, uscale, parseFloat64. -/
namespace Go.Proofs.YtlkbhmmelejmjaaGreatDoor.FltFast2
open Go.RowKit Go.Proofs.YtlkbhmmelejmjaaGreatDoorW.PrintWords Go.Proofs.YtlkbhmmelejmjaaGreatDoor.FltKnown Go.Proofs.YtlkbhmmelejmjaaGreatDoor.FltDec Go.Proofs.YtlkbhmmelejmjaaGreatDoor.FltFast
set_option linter.unusedVariables false
set_option linter.unusedSimpArgs false

/-- The table of powers of ten, below block B. -/
def TT (B : Nat) (H O : Nat → Int) (w : World) : Prop := 10 < B ∧ ∀ k, k < 696 → w.cell? ⟨10, k * 2, none⟩ = some (.int .u64 (H k)) ∧ w.cell? ⟨10, k * 2 + 1, none⟩ = some (.int .u64 (O k))
theorem TT.keep {B p : Nat} {H O : Nat → Int} {w w' : World} (h : TT B H O w) (hb : Below p w w') (hp : B ≤ p) : TT B H O w' :=
  ⟨h.1, fun k hk => ⟨(hb.cell (p := ⟨10, _, none⟩) (Nat.lt_of_lt_of_le h.1 hp)).trans (h.2 k hk).1, (hb.cell (p := ⟨10, _, none⟩) (Nat.lt_of_lt_of_le h.1 hp)).trans (h.2 k hk).2⟩⟩
/-- A scaler at block q. -/
structure Scl (w : World) (q : Nat) (a b c : Int) : Prop where
  hi : w.cell? ⟨q, 0, none⟩ = some (.int .u64 a)
  lo : w.cell? ⟨q, 1, none⟩ = some (.int .u64 b)
  sh : w.cell? ⟨q, 2, none⟩ = some (.int .i64 c)
  fz : ∀ o, w.frozen? ⟨q, o, none⟩ = false
theorem Scl.set0 {w : World} {q : Nat} {a b c : Int} (h : Scl w q a b c) (x : Int) : Scl (w.setCell ⟨q, 0, none⟩ (.int .u64 x)) q x b c :=
  ⟨World.cell?_setCell_same _ _ _ h.hi, (other w (by omega) _).trans h.lo, (other w (by omega) _).trans h.sh, fun o => by rw [World.frozen?_setCell]; exact h.fz o⟩
theorem Scl.set1 {w : World} {q : Nat} {a b c : Int} (h : Scl w q a b c) (x : Int) : Scl (w.setCell ⟨q, 1, none⟩ (.int .u64 x)) q a x c :=
  ⟨(other w (by omega) _).trans h.hi, World.cell?_setCell_same _ _ _ h.lo, (other w (by omega) _).trans h.sh, fun o => by rw [World.frozen?_setCell]; exact h.fz o⟩
theorem Scl.set2 {w : World} {q : Nat} {a b c : Int} (h : Scl w q a b c) (x : Int) : Scl (w.setCell ⟨q, 2, none⟩ (.int .i64 x)) q a b x :=
  ⟨(other w (by omega) _).trans h.hi, (other w (by omega) _).trans h.lo, World.cell?_setCell_same _ _ _ h.sh, fun o => by rw [World.frozen?_setCell]; exact h.fz o⟩
def PreP (q : Nat) (a b c : Int) (w : World) (e : Ending) (w' : World) : Prop := e = .returned (.tuple #[]) ∧ Scl w' q a b c ∧ Below q w w'

set_option maxHeartbeats 4000000 in
set_option maxRecDepth 100000 in
theorem prescale_walk (B q k : Nat) (H O : Nat → Int) (e p lp a b c : Int) (hB : B ≤ q) (hk : p + 348 = (k : Int)) (hk2 : k < 696) (he0 : -100000 ≤ e) (he1 : e ≤ 100000) (hl0 : -100000 ≤ lp) (hl1 : lp ≤ 100000) (w : World) (hs : Scl w q a b c) (ht : TT B H O w) : Calls Tryz.prog 144 #[.pointer (some ⟨q, 0, none⟩), .int .i64 e, .int .i64 p, .int .i64 lp] w (PreP q (H k) (O k) (-(e + lp + 3)) w) := by
  have h0 := hs.hi
  have h1 := hs.lo
  have h2 := hs.sh
  have hz := hs.fz
  have t0 := (ht.2 k hk2).1
  have t1 := (ht.2 k hk2).2
  have hq : 10 < q := Nat.lt_of_lt_of_le ht.1 hB
  have HS := Aside0.mk hs
  have hp : p = (k : Int) - 348 := by omega
  subst hp
  clear hk ht hs
  have a1 : wrap64 ((k : Int) - 348 + 348) = (k : Int) := by unfold wrap64; omega
  go_enter Tryz.func144, Tryz.ntmps144
  go_wp2_with fail
  go_end0
  exact ⟨rfl, ((HS.out.set0 _).set1 _).set2 _, (((Below.refl q w).setCell (p := ⟨q, 0, none⟩) (Nat.le_refl q) _).setCell (p := ⟨q, 1, none⟩) (Nat.le_refl q) _).setCell (p := ⟨q, 2, none⟩) (Nat.le_refl q) _⟩

def m1 (a b : Int) : Int := ((bits_Mul64.f a b).getD (0, 0)).1
def m2 (a b : Int) : Int := ((bits_Mul64.f a b).getD (0, 0)).2
theorem mul_walk (a b : Int) (w : World) : Calls Tryz.prog 154 #[.int .u64 a, .int .u64 b] w (Dr (.tuple #[.int .u64 (m1 a b), .int .u64 (m2 a b)]) w) :=
  (bits_Mul64.calls a b (m1 a b) (m2 a b) w rfl).mono fun e w' h => ⟨h.1, h.2.out⟩
def b2 (b : Bool) : Int := if b then 1 else 0
theorem b2_walk (b : Bool) (w : World) : Calls Tryz.prog 134 #[.bool b] w (Dr (.int .u64 (b2 b)) w) :=
  (strconv_bool2_uint64.calls b (b2 b) w (by unfold strconv_bool2_uint64.f b2; cases b <;> rfl)).mono fun e w' h => ⟨h.1, h.2.out⟩
theorem b2i_walk (b : Bool) (w : World) : Calls Tryz.prog 146 #[.bool b] w (Dr (.int .i64 (b2 b)) w) :=
  (strconv_bool2_int.calls b (b2 b) w (by unfold strconv_bool2_int.f b2; cases b <;> rfl)).mono fun e w' h => ⟨h.1, h.2.out⟩
theorem and63 (c : Int) (h0 : 0 ≤ c) (h1 : c < 64) : bits .and .i64 c 63 = c := by
  have : ∀ j : Fin 64, bits .and .i64 (j.1 : Int) 63 = (j.1 : Int) := by decide +kernel
  have := this ⟨c.toNat, by omega⟩
  simpa [Int.toNat_of_nonneg h0] using this

def uS (x a b : Int) (k : Nat) : Int := if (IntKind.u64.wrap (m1 x a / 2 ^ k * 2 ^ k) != m1 x a) = true then bits .or .u64 (m1 x a / 2 ^ k) 1 else bits .or .u64 (IntKind.u64.wrap (m1 x a - b2 (decide (m2 x a < m1 x b))) / 2 ^ k) (b2 (decide (1 < IntKind.u64.wrap (m2 x a - m1 x b))))
set_option maxHeartbeats 4000000 in
set_option maxRecDepth 100000 in
theorem uscale_walk (q k : Nat) (x a b : Int) (h1 : k < 64) (w : World) (hs : Scl w q a b (k : Int)) : Calls Tryz.prog 145 #[.int .u64 x, .pointer (some ⟨q, 0, none⟩)] w (Dr (.int .u64 (uS x a b k)) w) := by
  have hA := and63 (k : Int) (by omega) (by omega)
  have hi := hs.hi
  have hlo := hs.lo
  have hsh := hs.sh
  cases hT : (IntKind.u64.wrap (m1 x a / 2 ^ k * 2 ^ k) != m1 x a) with
  | true =>
    have HT := Aside0.mk hT
    go_enter Tryz.func145, Tryz.ntmps145
    go_wp2_with (first | (go_at_call 154; refine (mul_walk _ _ _).mono ?_; rintro e w1 ⟨rfl, n, rfl⟩) | (go_at_call 134; refine (b2_walk _ _).mono ?_; rintro e w1 ⟨rfl, n3, rfl⟩))
    go_ret
    refine ⟨?_, _, rfl⟩
    unfold uS
    rw [if_pos HT.out]; rfl
  | false =>
    have HT := Aside0.mk hT
    go_enter Tryz.func145, Tryz.ntmps145
    go_wp2_with (first | (go_at_call 154; refine (mul_walk _ _ _).mono ?_; rintro e w1 ⟨rfl, n, rfl⟩) | (go_at_call 134; refine (b2_walk _ _).mono ?_; rintro e w1 ⟨rfl, n3, rfl⟩))
    generalize hW0 : World.drewN w _ = W0
    replace hW0 := Aside0.mk hW0
    go_quiet ((go_at_call 134; refine Calls.quiet_of (b2_walk _ _)))
    go_wp2_with fail
    go_ret
    refine ⟨?_, ?_⟩
    · unfold uS
      rw [if_neg (by rw [HT.out]; decide)]; rfl
    · exact ⟨_, by rw [← hW0.out, World.drewN_drewN]⟩

def pLp (p : Int) : Int := wrap64 (p * 108853) / 32768
def pE (d p : Int) : Int := if 53 - l64 d - pLp p < 1074 then 53 - l64 d - pLp p else 1074
def pSh (d p : Int) : Int := -(pE d p - (64 - l64 d) + pLp p + 3)
def pU (H O : Nat → Int) (d p : Int) : Int := uS (IntKind.u64.wrap (d * 2 ^ (64 - l64 d).toNat)) (H (p + 348).toNat) (O (p + 348).toNat) (pSh d p).toNat
def pC (H O : Nat → Int) (d p : Int) : Bool := decide (36028797018963966 ≤ pU H O d p)
def pU2 (H O : Nat → Int) (d p : Int) : Int := bits .or .u64 (if pC H O d p then pU H O d p / 2 else pU H O d p) (bits .and .u64 (pU H O d p) 1)
def pR (u : Int) : Int := (IntKind.u64.wrap (IntKind.u64.wrap (u + 1) + bits .and .u64 (u / 4) 1)) / 4
def pfV (H O : Nat → Int) (d p sg : Int) : Nat := if 64 ≤ pSh d p then (bits .or .u64 sg 0).toNat else pkV (bits .or .u64 sg (pR (pU2 H O d p))) (-(pE d p - b2 (pC H O d p)))
def pfO (H O : Nat → Int) (d p sg : Int) : Bool := !decide (64 ≤ pSh d p) && pkO (bits .or .u64 sg (pR (pU2 H O d p))) (-(pE d p - b2 (pC H O d p)))
def PfP (v : Nat) (o : Bool) (w : World) (e : Ending) (w' : World) : Prop := e = .returned (.tuple #[.float .f64 v, erV o]) ∧ Below w.heap.size w w'
theorem lp_walk (p : Int) (w : World) : Calls Tryz.prog 143 #[.int .i64 p] w (Dr (.int .i64 (pLp p)) w) :=
  (strconv_log2Pow10.calls p (pLp p) w rfl).mono fun e w' h => ⟨h.1, h.2.out⟩
theorem unmin_walk (w : World) : Calls Tryz.prog 147 #[.int .u64 9007199254740992] w (Dr (.int .u64 36028797018963966) w) :=
  (strconv_unmin.calls 9007199254740992 36028797018963966 w (by unfold strconv_unmin.f; rw [IntKind.wrap_u64, IntKind.wrap_u64]; decide)).mono fun e w' h => ⟨h.1, h.2.out⟩
theorem round_walk (u : Int) (w : World) : Calls Tryz.prog 149 #[.int .u64 u] w (Dr (.int .u64 (pR u)) w) :=
  (strconv_unrounded_round.calls u (pR u) w rfl).mono fun e w' h => ⟨h.1, h.2.out⟩
theorem pLp_in (p : Int) (h0 : -345 ≤ p) (h1 : p ≤ 310) : -1200 ≤ pLp p ∧ pLp p ≤ 1200 := by
  have : wrap64 (p * 108853) = p * 108853 := by unfold wrap64; omega
  unfold pLp
  rw [this]
  omega

theorem b2i_t (w : World) : Calls Tryz.prog 146 #[.bool true] w (Dr (.int .i64 1) w) := b2i_walk true w
theorem b2i_f (w : World) : Calls Tryz.prog 146 #[.bool false] w (Dr (.int .i64 0) w) := b2i_walk false w
theorem scl_new (W : World) (n : Nat) (h : W.heap.size = n) : Scl (W.alloc (.cells #[.int .u64 0, .int .u64 0, .int .i64 0] 165)) n 0 0 0 := by
  subst h
  refine ⟨by simp, by simp, by simp, fun o => ?_⟩
  rw [frozen?_alloc_cells]
  unfold World.frozen?
  simp

set_option maxHeartbeats 4000000 in
set_option maxRecDepth 100000 in
theorem parse_walk (B : Nat) (H O : Nat → Int) (d p sg : Int) (hd0 : 0 ≤ d) (hd1 : d < 18446744073709551616) (hp0 : -345 ≤ p) (hp1 : p ≤ 310) (w : World) (hB : B ≤ w.heap.size) (ht : TT B H O w) : Calls Tryz.prog 137 #[.int .u64 d, .int .i64 p, .int .u64 sg] w (PfP (pfV H O d p sg) (pfO H O d p sg) w) := by
  have hl := l64_in d hd0 hd1
  have hlp := pLp_in p hp0 hp1
  have CL := Aside0.mk (len_walk d hd0 hd1)
  obtain ⟨b, hb⟩ : ∃ b, b = l64 d := ⟨_, rfl⟩
  rw [← hb] at hl CL
  obtain ⟨lp, hlpe⟩ : ∃ lp, lp = pLp p := ⟨_, rfl⟩
  have CP := Aside0.mk (lp_walk p)
  rw [← hlpe] at hlp CP
  have HQ := Aside0.mk (And.intro hb hlpe)
  clear hb hlpe
  obtain ⟨hl0, hl1⟩ := hl
  obtain ⟨hlp0, hlp1⟩ := hlp
  go_enter Tryz.func137, Tryz.ntmps137
  go_upto_region 4 with (first | (go_at_call 142; refine (CL.out _).mono ?_; rintro e w1 ⟨rfl, n1, rfl⟩) | (go_at_call 143; refine (CP.out _).mono ?_; rintro e w1 ⟨rfl, n2, rfl⟩))
  generalize hE : (if 53 - b - lp < 1074 then 53 - b - lp else 1074) = E
  have hE0 : E ≤ 53 - b - lp ∧ E ≤ 1074 ∧ -1300 ≤ E := by rw [← hE]; split <;> omega
  obtain ⟨hE0, hE1, hE2⟩ := hE0
  replace hE := Aside0.mk hE
  generalize hW0 : World.drewN w _ = W0
  have hsz : W0.heap.size = w.heap.size := by rw [← hW0]; rfl
  have hB0 : Below w.heap.size w W0 := by rw [← hW0]; exact Below.drewN (Below.refl _ _) _
  have ht0 := ht.keep hB0 hB
  clear hW0
  have hk : p + 348 = ((p + 348).toNat : Int) := by omega
  obtain ⟨k, hke⟩ : ∃ k : Nat, k = (p + 348).toNat := ⟨_, rfl⟩
  rw [← hke] at hk
  have hk2 : k < 696 := by omega
  have hS := scl_new W0 w.heap.size hsz
  have hB1 : Below w.heap.size w (W0.alloc (.cells #[.int .u64 0, .int .u64 0, .int .i64 0] 165)) := hB0.alloc (Nat.le_of_eq hsz.symm) _
  have CS := Aside0.mk (prescale_walk B w.heap.size k H O (E - (64 - b)) p lp 0 0 0 hB hk hk2 (by omega) (by omega) (by omega) (by omega) _ hS (ht.keep hB1 hB))
  replace hB1 := Aside0.mk hB1
  have HK := Aside0.mk (And.intro hk hke)
  clear hS hk hke ht0 ht hB0
  go_wp2_with fail
  refine CS.out.mono ?_
  rintro e w2 ⟨rfl, hs2, hb2⟩
  have h2 := hs2.sh
  have HS2 := Aside0.mk hs2
  have HB2 := Aside0.mk (hB1.out.trans hb2)
  clear hs2 hb2 CS
  obtain ⟨sh, hsh⟩ : ∃ sh, sh = -(E - (64 - b) + lp + 3) := ⟨_, rfl⟩
  rw [← hsh] at h2
  have hsh8 : 8 ≤ sh := by omega
  have HSH := Aside0.mk hsh
  clear hsh
  have hpe : pE d p = E := by unfold pE; rw [← HQ.out.1, ← HQ.out.2]; exact hE.out
  have hps : pSh d p = sh := by unfold pSh; rw [hpe, ← HQ.out.1, ← HQ.out.2]; exact HSH.out.symm
  replace hpe := Aside0.mk hpe
  replace hps := Aside0.mk hps
  by_cases h64 : 64 ≤ sh
  · have hfb := fb_run
    have e1 : pfV H O d p sg = (bits .or .u64 sg 0).toNat := by unfold pfV; rw [hps.out, if_pos h64]
    have e2 : pfO H O d p sg = false := by unfold pfO; rw [hps.out, decide_eq_true h64]; rfl
    replace e1 := Aside0.mk e1
    replace e2 := Aside0.mk e2
    go_wp2_with fail
    go_ret2
    exact ⟨by rw [e1.out, e2.out]; rfl, HB2.out⟩
  · obtain ⟨j, hj⟩ : ∃ j : Nat, sh = (j : Int) := ⟨sh.toNat, by omega⟩
    have hj2 : j < 64 := by omega
    have hs3 := HS2.out
    rw [← HSH.out, hj] at hs3
    have CU := Aside0.mk (fun x => uscale_walk w.heap.size j x (H k) (O k) hj2 w2 hs3)
    obtain ⟨U, hU⟩ : ∃ U, U = pU H O d p := ⟨_, rfl⟩
    have hU2 : U = uS (IntKind.u64.wrap (d * 2 ^ (64 - b).toNat)) (H k) (O k) j := by
      rw [hU]; unfold pU; rw [hps.out, ← HQ.out.1, ← HK.out.2, hj]; rfl
    have HU := Aside0.mk hU2
    have e1 : pfV H O d p sg = pkV (bits .or .u64 sg (pR (pU2 H O d p))) (-(E - b2 (pC H O d p))) := by unfold pfV; rw [hps.out, if_neg h64, hpe.out]
    have e2 : pfO H O d p sg = pkO (bits .or .u64 sg (pR (pU2 H O d p))) (-(E - b2 (pC H O d p))) := by unfold pfO; rw [hps.out, decide_eq_false h64, hpe.out]; rfl
    have e3 : pC H O d p = decide (36028797018963966 ≤ U) := by unfold pC; rw [hU]
    have e4 : pU2 H O d p = bits .or .u64 (if pC H O d p then U / 2 else U) (bits .and .u64 U 1) := by unfold pU2; rw [hU]
    have HE := Aside0.mk (And.intro e1 (And.intro e2 (And.intro e3 e4)))
    clear e1 e2 e3 e4 hs3 hU hU2 HS2
    cases hc : decide (36028797018963966 ≤ U) with
    | true =>
      have HC := Aside0.mk hc
      subst hj
      go_wp2_with (first | (go_at_call 145; refine (CU.out _).mono ?_; rintro e w3 ⟨rfl, n3, rfl⟩; rw [← HU.out]) | (go_at_call 147; refine (unmin_walk _).mono ?_; rintro e w4 ⟨rfl, n4, rfl⟩) | (go_at_call 146; refine (b2i_t _).mono ?_; rintro e w5 ⟨rfl, n5, rfl⟩) | (go_at_call 149; refine (round_walk _ _).mono ?_; rintro e w6 ⟨rfl, n6, rfl⟩) | (go_at_call 152; refine (pack_walk _ _ _ (by omega) (by omega)).mono ?_; rintro e w7 ⟨rfl, n7, rfl⟩))
      go_ret2
      refine ⟨?_, Below.drewN HB2.out _⟩
      rw [HE.out.1, HE.out.2.1, HE.out.2.2.2, HE.out.2.2.1, HC.out]
      rfl
    | false =>
      have HC := Aside0.mk hc
      subst hj
      go_wp2_with (first | (go_at_call 145; refine (CU.out _).mono ?_; rintro e w3 ⟨rfl, n3, rfl⟩; rw [← HU.out]) | (go_at_call 147; refine (unmin_walk _).mono ?_; rintro e w4 ⟨rfl, n4, rfl⟩) | (go_at_call 146; refine (b2i_f _).mono ?_; rintro e w5 ⟨rfl, n5, rfl⟩) | (go_at_call 149; refine (round_walk _ _).mono ?_; rintro e w6 ⟨rfl, n6, rfl⟩) | (go_at_call 152; refine (pack_walk _ _ _ (by omega) (by omega)).mono ?_; rintro e w7 ⟨rfl, n7, rfl⟩))
      go_ret2
      refine ⟨?_, Below.drewN HB2.out _⟩
      rw [HE.out.1, HE.out.2.1, HE.out.2.2.2, HE.out.2.2.1, HC.out, show E - b2 false = E from Int.sub_zero E]
      rfl
end Go.Proofs.YtlkbhmmelejmjaaGreatDoor.FltFast2

/- Floats of 64 bits (plain): a word is a sign and a rung; products, quotients and comparisons by sign and rung. -/
namespace Go.Proofs.YtlkbhmmelejmjaaGreatDoor.FltNum
open Go.RowKit Ieee
set_option linter.unusedVariables false
set_option linter.unusedSimpArgs false

abbrev D : Format := Ieee.double
theorem sw : D.signWeight = 9223372036854775808 := by decide
theorem ir : D.infRung = 9218868437227405312 := by decide
theorem bn : D.binade = 4503599627370496 := by decide
/-- What a rung stands for. -/
def rd (s : Bool) (a : Nat) : Datum :=
  if a < D.binade then .number s a D.leastPlace
  else if a < D.infRung then .number s (D.binade + a % D.binade) (D.leastPlace + (a / D.binade - 1 : Nat))
  else .infinity s
theorem read_word (s : Bool) (a : Nat) (h : a ≤ D.infRung) : D.read (D.word s a) = rd s a := by
  rw [ir] at h
  have h1 : D.word s a / D.signWeight % 2 == 1 ↔ s = true := by
    unfold Format.word
    rw [sw]
    cases s
    · simp; omega
    · simp; omega
  have h1' : (D.word s a / D.signWeight % 2 == 1) = s := by
    cases s
    · cases hq : (D.word false a / D.signWeight % 2 == 1) with
      | false => rfl
      | true => exact absurd (h1.1 hq) (by decide)
    · exact h1.2 rfl
  have h2 : D.word s a % D.signWeight = a := by
    unfold Format.word
    rw [sw]
    cases s
    · simp; omega
    · simp; omega
  unfold Format.read
  rw [h1', h2]
  unfold rd
  dsimp only
  rw [ir]
  split
  · rfl
  · split
    · rfl
    · rw [if_pos (by omega)]
/-- The rung nearest to a number. -/
def rg (mag : Nat) (place : Int) : Nat :=
  if mag = 0 then 0 else
  let last := max (place + mag.log2 - D.fractionBits) D.leastPlace
  let kept := Toward.even.cut false (mag <<< (place - last).toNat) (last - place).toNat
  min ((last - D.leastPlace).toNat * D.binade + kept) D.infRung
theorem rg_le (mag : Nat) (place : Int) : rg mag place ≤ D.infRung := by
  unfold rg
  split
  · exact Nat.zero_le _
  · exact Nat.min_le_right _ _
theorem nearest_eq (s : Bool) (mag : Nat) (place : Int) : D.nearest s mag place = D.word s (rg mag place) := by
  unfold Format.nearest rg
  split
  · rfl
  · rfl
theorem ofInt_eq (m : Int) (h : 0 ≤ m) : floatOfInt .f64 m = D.word false (rg m.toNat 0) := by
  show D.nearest (decide (m < 0)) m.natAbs 0 = _
  rw [decide_eq_false (by omega), nearest_eq, show m.natAbs = m.toNat from by omega]
theorem neg_eq (s : Bool) (a : Nat) (h : a ≤ D.infRung) : Op.negFloat .f64 (D.word s a) = D.word (!s) a := by
  rw [ir] at h
  unfold Op.negFloat
  show D.word s a ^^^ 2 ^ 63 = _
  unfold Format.word
  rw [sw]
  have key : a ^^^ 2 ^ 63 = 2 ^ 63 + a := by
    have e := Nat.two_pow_add_eq_or_of_lt (i := 63) (b := a) (by omega) 1
    rw [Nat.mul_one] at e
    rw [e]
    apply Nat.eq_of_testBit_eq
    intro i
    rw [Nat.testBit_xor, Nat.testBit_or, Nat.testBit_two_pow]
    by_cases h63 : 63 = i
    · subst h63
      rw [Nat.testBit_lt_two_pow (by omega)]
      simp
    · simp [h63]
  cases s
  · simp only [Bool.not_false, if_true, Bool.false_eq_true, if_false]
    rw [key]
  · simp only [Bool.not_true, if_true, Bool.false_eq_true, if_false]
    rw [show 9223372036854775808 + a = a ^^^ 2 ^ 63 from by rw [key], Nat.xor_assoc, Nat.xor_self, Nat.xor_zero]
/-- What of two rungs is their product, their quotient. -/
def pdt : Datum → Datum → Nat
  | .number _ m i, .number _ n j => rg (m * n) (i + j)
  | _, _ => D.infRung
def qt : Datum → Datum → Nat
  | .number _ m i, .number _ n j => rg (2 * (m <<< (D.fractionBits + 2 + n.log2 - m.log2) / n) + ((m <<< (D.fractionBits + 2 + n.log2 - m.log2)) % n != 0).toNat) (i - j - (D.fractionBits + 2 + n.log2 - m.log2 : Nat) - 1)
  | _, _ => D.infRung
theorem pdt_le (x y : Datum) : pdt x y ≤ D.infRung := by
  unfold pdt
  split
  · exact rg_le _ _
  · exact Nat.le_refl _
theorem qt_le (x y : Datum) : qt x y ≤ D.infRung := by
  unfold qt
  split
  · exact rg_le _ _
  · exact Nat.le_refl _
/-- A word that stands for a number above nought. -/
def Pos (y : Nat) : Prop := ∃ n j, D.read y = .number false n j ∧ n ≠ 0
theorem rd_cases (s : Bool) (a : Nat) : (∃ m i, rd s a = .number s m i) ∨ rd s a = .infinity s := by
  unfold rd
  split
  · exact .inl ⟨_, _, rfl⟩
  · split
    · exact .inl ⟨_, _, rfl⟩
    · exact .inr rfl
theorem rd_num {s : Bool} {a m : Nat} {i : Int} (h : rd s a = .number s m i) (t : Bool) : rd t a = .number t m i := by
  unfold rd at h ⊢
  split at h
  · next h1 => rw [if_pos h1]; injection h with _ h2 h3; rw [h2, h3]
  · next h1 =>
    rw [if_neg h1]
    split at h
    · next h2 => rw [if_pos h2]; injection h with _ h3 h4; rw [h3, h4]
    · cases h
theorem rd_inf {s : Bool} {a : Nat} (h : rd s a = .infinity s) (t : Bool) : rd t a = .infinity t := by
  unfold rd at h ⊢
  split at h
  · cases h
  · next h1 =>
    rw [if_neg h1]
    split at h
    · cases h
    · next h2 => rw [if_neg h2]
theorem mul_eq (s : Bool) (a y : Nat) (ha : a ≤ D.infRung) (hy : Pos y) : floatBits .mul .f64 (D.word s a) y = some (D.word s (pdt (rd false a) (D.read y))) := by
  obtain ⟨n, j, h1, h2⟩ := hy
  show ((D.read (D.word s a)).product (D.read y)).map D.write = _
  rw [read_word s a ha, h1]
  rcases rd_cases s a with ⟨m, i, h⟩ | h
  · rw [h, rd_num h false]
    show some (D.nearest (s ^^ false) (m * n) (i + j)) = some (D.word s (rg (m * n) (i + j)))
    rw [nearest_eq, Bool.xor_false]
  · rw [h, rd_inf h false]
    show (if n = 0 then none else some (Datum.infinity (s ^^ false))).map D.write = some (D.word s D.infRung)
    rw [if_neg h2, Bool.xor_false]
    rfl
theorem div_eq (s : Bool) (a y : Nat) (ha : a ≤ D.infRung) (hy : Pos y) : floatBits .quo .f64 (D.word s a) y = some (D.word s (qt (rd false a) (D.read y))) := by
  obtain ⟨n, j, h1, h2⟩ := hy
  show ((D.read (D.word s a)).quotient (D.fractionBits + 2) (D.read y)).map D.write = _
  rw [read_word s a ha, h1]
  rcases rd_cases s a with ⟨m, i, h⟩ | h
  · rw [h, rd_num h false]
    show (if n = 0 then (if m = 0 then none else some (Datum.infinity (s ^^ false))) else _).map D.write = _
    rw [if_neg h2]
    show some (D.nearest (s ^^ false) _ _) = _
    rw [nearest_eq, Bool.xor_false]
    rfl
  · rw [h, rd_inf h false]
    show some (D.write (Datum.infinity (s ^^ false))) = some (D.word s D.infRung)
    rw [Bool.xor_false]
    rfl
theorem cmp_lt (a b : Int) : (compare a b == Ordering.lt) = decide (a < b) := by
  show (compareOfLessAndEq a b == Ordering.lt) = _
  unfold compareOfLessAndEq
  by_cases h : a < b
  · simp [h]
  · by_cases h2 : a = b <;> simp [h, h2]
theorem cmp_gt (a b : Int) : (compare a b == Ordering.gt) = decide (b < a) := by
  show (compareOfLessAndEq a b == Ordering.gt) = _
  unfold compareOfLessAndEq
  by_cases h : a < b
  · simp [h]; omega
  · by_cases h2 : a = b
    · simp [h2]
    · simp [h, h2]; omega
theorem some_beq (x y : Ordering) : (some x == some y) = (x == y) := rfl
theorem sg_f (m k : Nat) : signed false m k = ((m <<< k : Nat) : Int) := rfl
theorem sg_t (m k : Nat) : signed true m k = -((m <<< k : Nat) : Int) := rfl
/-- Whether a rung is above 1e15. -/
def big (a : Nat) : Bool := D.order (D.word false a) 4831355200913801216 == some .gt
theorem r15 : D.read 4831355200913801216 = .number false 8000000000000000 (-3) := by decide +kernel
theorem r15n : D.read 14054727237768577024 = .number true 8000000000000000 (-3) := by decide +kernel
theorem big_pos (a : Nat) (ha : a ≤ D.infRung) : (D.order (D.word false a) 14054727237768577024 == some .lt) = false := by
  unfold Format.order
  rw [read_word _ _ ha, r15n]
  rcases rd_cases false a with ⟨m, i, h⟩ | h
  · rw [h]
    show (some (compare (signed false m _) (signed true 8000000000000000 _)) == some Ordering.lt) = false
    rw [some_beq, cmp_lt, sg_f, sg_t]
    generalize m <<< _ = p
    generalize 8000000000000000 <<< _ = q
    exact decide_eq_false (by omega)
  · rw [h]; decide
theorem big_neg (a : Nat) (ha : a ≤ D.infRung) : (D.order (D.word true a) 4831355200913801216 == some .gt) = false := by
  unfold Format.order
  rw [read_word _ _ ha, r15]
  rcases rd_cases true a with ⟨m, i, h⟩ | h
  · rw [h]
    show (some (compare (signed true m _) (signed false 8000000000000000 _)) == some Ordering.gt) = false
    rw [some_beq, cmp_gt, sg_f, sg_t]
    generalize m <<< _ = p
    generalize 8000000000000000 <<< _ = q
    exact decide_eq_false (by omega)
  · rw [h]; decide
theorem big_neg2 (a : Nat) (ha : a ≤ D.infRung) : (D.order (D.word true a) 14054727237768577024 == some .lt) = big a := by
  unfold big Format.order
  rw [read_word _ _ ha, read_word _ _ ha, r15, r15n]
  rcases rd_cases true a with ⟨m, i, h⟩ | h
  · rw [h, rd_num h false]
    show (some (compare (signed true m _) (signed true 8000000000000000 _)) == some Ordering.lt) = (some (compare (signed false m _) (signed false 8000000000000000 _)) == some Ordering.gt)
    rw [some_beq, some_beq, cmp_lt, cmp_gt, sg_f, sg_t, sg_f, sg_t]
    exact decide_eq_decide.mpr (by omega)
  · rw [h, rd_inf h false]; decide

/-- The exact road: the rung, or nothing. X: the rungs of the powers of ten. -/
def exR (X : Nat → Nat) (m x : Int) : Option Nat :=
  if m / 4503599627370496 = 0 then
    if x = 0 then some (rg m.toNat 0)
    else if 0 < x ∧ x ≤ 37 then
      if 22 < x then
        (if big (pdt (rd false (rg m.toNat 0)) (D.read (X (x - 22).toNat))) then none else some (pdt (rd false (pdt (rd false (rg m.toNat 0)) (D.read (X (x - 22).toNat)))) (D.read (X 22))))
      else (if big (rg m.toNat 0) then none else some (pdt (rd false (rg m.toNat 0)) (D.read (X x.toNat))))
    else if x < 0 ∧ -22 ≤ x then some (qt (rd false (rg m.toNat 0)) (D.read (X (-x).toNat)))
    else none
  else none
end Go.Proofs.YtlkbhmmelejmjaaGreatDoor.FltNum

/- The exact road of floats, walked: atof64exact. -/
namespace Go.Proofs.YtlkbhmmelejmjaaGreatDoor.FltExact
open Go.RowKit Go.Proofs.YtlkbhmmelejmjaaGreatDoorW.PrintWords Go.Proofs.YtlkbhmmelejmjaaGreatDoor.FltKnown Go.Proofs.YtlkbhmmelejmjaaGreatDoor.FltDec Go.Proofs.YtlkbhmmelejmjaaGreatDoor.FltFast Go.Proofs.YtlkbhmmelejmjaaGreatDoor.FltFast2 Go.Proofs.YtlkbhmmelejmjaaGreatDoor.FltBits Go.Proofs.YtlkbhmmelejmjaaGreatDoor.FltNum
set_option linter.unusedVariables false
set_option linter.unusedSimpArgs false

/-- The table of exact powers of ten, below block B. -/
def XT (B : Nat) (X : Nat → Nat) (w : World) : Prop := ∃ L o c, 9 < B ∧ L < B ∧ w.cell? ⟨9, 0, none⟩ = some (.slice (some ⟨L, o, none⟩) 23 c) ∧ ∀ k, k < 23 → w.cell? ⟨L, o + k, none⟩ = some (.float .f64 (X k))
theorem XT.keep {B p : Nat} {X : Nat → Nat} {w w' : World} (h : XT B X w) (hb : Below p w w') (hp : B ≤ p) : XT B X w' := by
  obtain ⟨L, o, c, h1, h2, h3, h4⟩ := h
  exact ⟨L, o, c, h1, h2, (hb.cell (p := ⟨9, 0, none⟩) (Nat.lt_of_lt_of_le h1 hp)).trans h3, fun k hk => (hb.cell (p := ⟨L, _, none⟩) (Nat.lt_of_lt_of_le h2 hp)).trans (h4 k hk)⟩

/-- What atof64exact gives. -/
def ExP (ng : Bool) (o : Option Nat) (w : World) (e : Ending) (w' : World) : Prop := w' = w ∧ match o with
  | some r => e = .returned (.tuple #[.float .f64 (D.word ng r), .bool true])
  | none => ∃ v, e = .returned (.tuple #[.float .f64 v, .bool false])
theorem mul_run {s : Bool} {a y F R : Nat} (ha : a ≤ D.infRung) (hy : Pos y) (hF : F = D.word s a) (hR : R = D.word s (pdt (rd false a) (D.read y))) (t : TypeId) (W : World) : (binOp .mul t (.float .f64 F) (.float .f64 y)).run Tryz.prog W = .ok (.float .f64 R) W := by
  subst hF hR
  exact run_float_arith W .mul t .f64 _ _ _ (mul_eq s a y ha hy)
theorem div_run {s : Bool} {a y F R : Nat} (ha : a ≤ D.infRung) (hy : Pos y) (hF : F = D.word s a) (hR : R = D.word s (qt (rd false a) (D.read y))) (t : TypeId) (W : World) : (binOp .quo t (.float .f64 F) (.float .f64 y)).run Tryz.prog W = .ok (.float .f64 R) W := by
  subst hF hR
  exact run_float_arith W .quo t .f64 _ _ _ (div_eq s a y ha hy)
theorem ord_hi {s : Bool} {a F : Nat} (ha : a ≤ D.infRung) (hF : F = D.word s a) : ((FloatKind.format .f64).order F 4831355200913801216 == some .gt) = (!s && big a) := by
  subst hF
  cases s
  · rfl
  · exact big_neg a ha
theorem ord_lo {s : Bool} {a F : Nat} (ha : a ≤ D.infRung) (hF : F = D.word s a) : ((FloatKind.format .f64).order F 14054727237768577024 == some .lt) = (s && big a) := by
  subst hF
  cases s
  · exact big_pos a ha
  · exact big_neg2 a ha

set_option maxHeartbeats 4000000 in
set_option maxRecDepth 100000 in
theorem exact_pos (B : Nat) (X : Nat → Nat) (m x : Int) (hm0 : 0 ≤ m) (hm1 : m < 18446744073709551616) (hx0 : -1000000 ≤ x) (hx1 : x ≤ 1000000) (w : World) (hF : FI B 6 w) (ht : XT B X w) (hX : ∀ k, k < 23 → Pos (X k)) : Calls Tryz.prog 136 #[.int .u64 m, .int .i64 x, .bool false] w (ExP false (exR X m x) w) := by
  obtain ⟨_, hf0, hf1, hf2⟩ := hF
  obtain ⟨L, o, c, hb1, hb2, hs, hc⟩ := ht
  obtain ⟨a0, ha0e⟩ : ∃ a0, a0 = rg m.toNat 0 := ⟨_, rfl⟩
  have ha0 : a0 ≤ D.infRung := by rw [ha0e]; exact rg_le _ _
  obtain ⟨G0, hG0⟩ : ∃ G0, G0 = D.word false a0 := ⟨_, rfl⟩
  obtain ⟨F0, hF0⟩ : ∃ F0, F0 = D.word false a0 := ⟨_, rfl⟩
  have hcv : floatOfInt .f64 m = G0 := by rw [hG0, ha0e]; exact ofInt_eq m hm0
  have hng : Op.unary .neg (.float .f64 G0) = pure (.float .f64 (D.word true a0)) := by show pure (Value.float .f64 (Op.negFloat .f64 G0)) = _; rw [hG0, neg_eq false a0 ha0]; rfl
  have hsame : G0 = F0 := by rw [hG0, hF0]
  rw [hsame] at hcv
  clear hng hsame
  have HX := Aside0.mk hX
  have HR := Aside0.mk (show exR X m x = _ from rfl)
  by_cases hm : m / 4503599627370496 = 0
  · have q1 : (m / 4503599627370496 != 0) = false := by rw [hm]; rfl
    have HM := Aside0.mk hm
    by_cases h0 : x = 0
    · have hR : exR X m x = some a0 := by unfold exR; rw [if_pos hm, if_pos h0, ha0e]
      rw [hR]
      have HF := Aside0.mk hF0
      clear hF0 hG0 ha0e hR
      subst h0
      go_enter Tryz.func136, Tryz.ntmps136
      go_wp2_with fail
      go_ret2
      exact ⟨rfl, show Ending.returned (.tuple #[.float .f64 F0, .bool true]) = _ from by rw [HF.out]⟩
    · have q0 : (x == 0) = false := beq_eq_false_iff_ne.mpr h0
      by_cases h1 : 0 < x ∧ x ≤ 37
      · obtain ⟨k, rfl⟩ : ∃ k : Nat, x = (k : Int) := ⟨x.toNat, by omega⟩
        by_cases h3 : 22 < k
        · have c1 := hc (k - 22) (by omega)
          have c2 := hc 22 (by omega)
          obtain ⟨a1, ha1e⟩ : ∃ a1, a1 = pdt (rd false a0) (D.read (X (k - 22))) := ⟨_, rfl⟩
          have ha1 : a1 ≤ D.infRung := by rw [ha1e]; exact pdt_le _ _
          obtain ⟨F1, hF1⟩ : ∃ F1, F1 = D.word false a1 := ⟨_, rfl⟩
          obtain ⟨F2, hF2⟩ : ∃ F2, F2 = D.word false (pdt (rd false a1) (D.read (X 22))) := ⟨_, rfl⟩
          have r1 := fun t W => mul_run (t := t) (W := W) ha0 (hX (k - 22) (by omega)) hF0 (show F1 = _ by rw [hF1, ha1e])
          have r2 := fun t W => mul_run (t := t) (W := W) ha1 (hX 22 (by omega)) hF1 hF2
          have o1 := ord_hi ha1 hF1
          have o2 := ord_lo ha1 hF1
          have hR : exR X m (k : Int) = if big a1 then none else some (pdt (rd false a1) (D.read (X 22))) := by
            unfold exR
            rw [if_pos hm, if_neg h0, if_pos h1, if_pos (by omega), ha1e, ha0e, show ((k : Int) - 22).toNat = k - 22 from by omega]
          rw [hR]
          have HF := Aside0.mk hF2
          have HK := Aside0.mk h1
          obtain ⟨h1a, h1b⟩ := h1
          have a22 : wrap64 ((k : Int) - 22) = ((k - 22 : Nat) : Int) := by unfold wrap64; omega
          have g22 : k - 22 < 23 := by omega
          clear hF0 hG0 ha0e hR ha1e hF1 hF2 hX hc
          cases hbg : big a1 with
          | true =>
            rw [hbg] at o1 o2
            simp only [Bool.not_true, Bool.not_false, Bool.true_and, Bool.false_and] at o1 o2
            go_enter Tryz.func136, Tryz.ntmps136
            go_wp2_with fail
            go_ret2
            exact ⟨rfl, _, rfl⟩
          | false =>
            rw [hbg] at o1 o2
            simp only [Bool.and_false] at o1 o2
            go_enter Tryz.func136, Tryz.ntmps136
            go_wp2_with fail
            go_ret2
            exact ⟨rfl, show Ending.returned (.tuple #[.float .f64 F2, .bool true]) = _ from by rw [HF.out]⟩
        · have c1 := hc k (by omega)
          obtain ⟨F2, hF2⟩ : ∃ F2, F2 = D.word false (pdt (rd false a0) (D.read (X k))) := ⟨_, rfl⟩
          have r1 := fun t W => mul_run (t := t) (W := W) ha0 (hX k (by omega)) hF0 hF2
          have o1 := ord_hi ha0 hF0
          have o2 := ord_lo ha0 hF0
          have hR : exR X m (k : Int) = if big a0 then none else some (pdt (rd false a0) (D.read (X k))) := by
            unfold exR
            rw [if_pos hm, if_neg h0, if_pos h1, if_neg (by omega), ha0e, Int.toNat_natCast]
          rw [hR]
          have HF := Aside0.mk hF2
          obtain ⟨h1a, h1b⟩ := h1
          have g22 : k < 23 := by omega
          clear hF0 hG0 ha0e hR hF2 hX hc
          cases hbg : big a0 with
          | true =>
            rw [hbg] at o1 o2
            simp only [Bool.not_true, Bool.not_false, Bool.true_and, Bool.false_and] at o1 o2
            go_enter Tryz.func136, Tryz.ntmps136
            go_wp2_with fail
            go_ret2
            exact ⟨rfl, _, rfl⟩
          | false =>
            rw [hbg] at o1 o2
            simp only [Bool.and_false] at o1 o2
            go_enter Tryz.func136, Tryz.ntmps136
            go_wp2_with fail
            go_ret2
            exact ⟨rfl, show Ending.returned (.tuple #[.float .f64 F2, .bool true]) = _ from by rw [HF.out]⟩
      · by_cases h2 : x < 0 ∧ -22 ≤ x
        · obtain ⟨k, hk⟩ : ∃ k : Nat, x = -(k : Int) := ⟨(-x).toNat, by omega⟩
          subst hk
          have c1 := hc k (by omega)
          obtain ⟨F2, hF2⟩ : ∃ F2, F2 = D.word false (qt (rd false a0) (D.read (X k))) := ⟨_, rfl⟩
          have r1 := fun t W => div_run (t := t) (W := W) ha0 (hX k (by omega)) hF0 hF2
          have hR : exR X m (-(k : Int)) = some (qt (rd false a0) (D.read (X k))) := by
            unfold exR
            rw [if_pos hm, if_neg h0, if_neg h1, if_pos h2, ha0e, Int.neg_neg, Int.toNat_natCast]
          rw [hR]
          have HF := Aside0.mk hF2
          have g22 : k < 23 := by omega
          have g0 : 0 < k := by omega
          have a1 : wrap64 (k : Int) = (k : Int) := by unfold wrap64; omega
          clear hF0 hG0 ha0e hR hF2 hX hc h1 h2 h0
          go_enter Tryz.func136, Tryz.ntmps136
          go_wp2_with fail
          go_ret2
          exact ⟨rfl, show Ending.returned (.tuple #[.float .f64 F2, .bool true]) = _ from by rw [HF.out]⟩
        · have hR : exR X m x = none := by
            unfold exR
            rw [if_pos hm, if_neg h0, if_neg h1, if_neg h2]
          rw [hR]
          clear hF0 hG0 ha0e hR hX hc
          have hsp : 37 < x ∨ x < -22 := by omega
          rcases hsp with hsp | hsp
          · have hpp : 0 < x := by omega
            clear h1 h2
            go_enter Tryz.func136, Tryz.ntmps136
            go_wp2_with fail
            go_ret2
            exact ⟨rfl, _, rfl⟩
          · have hpp : x < 0 := by omega
            clear h1 h2
            go_enter Tryz.func136, Tryz.ntmps136
            go_wp2_with fail
            go_ret2
            exact ⟨rfl, _, rfl⟩
  · have hR : exR X m x = none := by unfold exR; rw [if_neg hm]
    have q1 : (m / 4503599627370496 != 0) = true := bne_iff_ne.mpr hm
    rw [hR]
    clear hF0 hG0 ha0e hR hX hc
    go_enter Tryz.func136, Tryz.ntmps136
    go_wp2_with fail
    go_ret2
    exact ⟨rfl, _, rfl⟩

set_option maxHeartbeats 4000000 in
set_option maxRecDepth 100000 in
theorem exact_neg (B : Nat) (X : Nat → Nat) (m x : Int) (hm0 : 0 ≤ m) (hm1 : m < 18446744073709551616) (hx0 : -1000000 ≤ x) (hx1 : x ≤ 1000000) (w : World) (hF : FI B 6 w) (ht : XT B X w) (hX : ∀ k, k < 23 → Pos (X k)) : Calls Tryz.prog 136 #[.int .u64 m, .int .i64 x, .bool true] w (ExP true (exR X m x) w) := by
  obtain ⟨_, hf0, hf1, hf2⟩ := hF
  obtain ⟨L, o, c, hb1, hb2, hs, hc⟩ := ht
  obtain ⟨a0, ha0e⟩ : ∃ a0, a0 = rg m.toNat 0 := ⟨_, rfl⟩
  have ha0 : a0 ≤ D.infRung := by rw [ha0e]; exact rg_le _ _
  obtain ⟨G0, hG0⟩ : ∃ G0, G0 = D.word false a0 := ⟨_, rfl⟩
  obtain ⟨F0, hF0⟩ : ∃ F0, F0 = D.word true a0 := ⟨_, rfl⟩
  have hcv : floatOfInt .f64 m = G0 := by rw [hG0, ha0e]; exact ofInt_eq m hm0
  have hng : Op.unary .neg (.float .f64 G0) = pure (.float .f64 F0) := by show pure (Value.float .f64 (Op.negFloat .f64 G0)) = _; rw [hG0, neg_eq false a0 ha0, hF0]; rfl
  skip
  have HX := Aside0.mk hX
  have HR := Aside0.mk (show exR X m x = _ from rfl)
  by_cases hm : m / 4503599627370496 = 0
  · have q1 : (m / 4503599627370496 != 0) = false := by rw [hm]; rfl
    have HM := Aside0.mk hm
    by_cases h0 : x = 0
    · have hR : exR X m x = some a0 := by unfold exR; rw [if_pos hm, if_pos h0, ha0e]
      rw [hR]
      have HF := Aside0.mk hF0
      clear hF0 hG0 ha0e hR
      subst h0
      go_enter Tryz.func136, Tryz.ntmps136
      go_wp2_with fail
      go_ret2
      exact ⟨rfl, show Ending.returned (.tuple #[.float .f64 F0, .bool true]) = _ from by rw [HF.out]⟩
    · have q0 : (x == 0) = false := beq_eq_false_iff_ne.mpr h0
      by_cases h1 : 0 < x ∧ x ≤ 37
      · obtain ⟨k, rfl⟩ : ∃ k : Nat, x = (k : Int) := ⟨x.toNat, by omega⟩
        by_cases h3 : 22 < k
        · have c1 := hc (k - 22) (by omega)
          have c2 := hc 22 (by omega)
          obtain ⟨a1, ha1e⟩ : ∃ a1, a1 = pdt (rd false a0) (D.read (X (k - 22))) := ⟨_, rfl⟩
          have ha1 : a1 ≤ D.infRung := by rw [ha1e]; exact pdt_le _ _
          obtain ⟨F1, hF1⟩ : ∃ F1, F1 = D.word true a1 := ⟨_, rfl⟩
          obtain ⟨F2, hF2⟩ : ∃ F2, F2 = D.word true (pdt (rd false a1) (D.read (X 22))) := ⟨_, rfl⟩
          have r1 := fun t W => mul_run (t := t) (W := W) ha0 (hX (k - 22) (by omega)) hF0 (show F1 = _ by rw [hF1, ha1e])
          have r2 := fun t W => mul_run (t := t) (W := W) ha1 (hX 22 (by omega)) hF1 hF2
          have o1 := ord_hi ha1 hF1
          have o2 := ord_lo ha1 hF1
          have hR : exR X m (k : Int) = if big a1 then none else some (pdt (rd false a1) (D.read (X 22))) := by
            unfold exR
            rw [if_pos hm, if_neg h0, if_pos h1, if_pos (by omega), ha1e, ha0e, show ((k : Int) - 22).toNat = k - 22 from by omega]
          rw [hR]
          have HF := Aside0.mk hF2
          have HK := Aside0.mk h1
          obtain ⟨h1a, h1b⟩ := h1
          have a22 : wrap64 ((k : Int) - 22) = ((k - 22 : Nat) : Int) := by unfold wrap64; omega
          have g22 : k - 22 < 23 := by omega
          clear hF0 hG0 ha0e hR ha1e hF1 hF2 hX hc
          cases hbg : big a1 with
          | true =>
            rw [hbg] at o1 o2
            simp only [Bool.not_true, Bool.not_false, Bool.true_and, Bool.false_and] at o1 o2
            go_enter Tryz.func136, Tryz.ntmps136
            go_wp2_with fail
            go_ret2
            exact ⟨rfl, _, rfl⟩
          | false =>
            rw [hbg] at o1 o2
            simp only [Bool.and_false] at o1 o2
            go_enter Tryz.func136, Tryz.ntmps136
            go_wp2_with fail
            go_ret2
            exact ⟨rfl, show Ending.returned (.tuple #[.float .f64 F2, .bool true]) = _ from by rw [HF.out]⟩
        · have c1 := hc k (by omega)
          obtain ⟨F2, hF2⟩ : ∃ F2, F2 = D.word true (pdt (rd false a0) (D.read (X k))) := ⟨_, rfl⟩
          have r1 := fun t W => mul_run (t := t) (W := W) ha0 (hX k (by omega)) hF0 hF2
          have o1 := ord_hi ha0 hF0
          have o2 := ord_lo ha0 hF0
          have hR : exR X m (k : Int) = if big a0 then none else some (pdt (rd false a0) (D.read (X k))) := by
            unfold exR
            rw [if_pos hm, if_neg h0, if_pos h1, if_neg (by omega), ha0e, Int.toNat_natCast]
          rw [hR]
          have HF := Aside0.mk hF2
          obtain ⟨h1a, h1b⟩ := h1
          have g22 : k < 23 := by omega
          clear hF0 hG0 ha0e hR hF2 hX hc
          cases hbg : big a0 with
          | true =>
            rw [hbg] at o1 o2
            simp only [Bool.not_true, Bool.not_false, Bool.true_and, Bool.false_and] at o1 o2
            go_enter Tryz.func136, Tryz.ntmps136
            go_wp2_with fail
            go_ret2
            exact ⟨rfl, _, rfl⟩
          | false =>
            rw [hbg] at o1 o2
            simp only [Bool.and_false] at o1 o2
            go_enter Tryz.func136, Tryz.ntmps136
            go_wp2_with fail
            go_ret2
            exact ⟨rfl, show Ending.returned (.tuple #[.float .f64 F2, .bool true]) = _ from by rw [HF.out]⟩
      · by_cases h2 : x < 0 ∧ -22 ≤ x
        · obtain ⟨k, hk⟩ : ∃ k : Nat, x = -(k : Int) := ⟨(-x).toNat, by omega⟩
          subst hk
          have c1 := hc k (by omega)
          obtain ⟨F2, hF2⟩ : ∃ F2, F2 = D.word true (qt (rd false a0) (D.read (X k))) := ⟨_, rfl⟩
          have r1 := fun t W => div_run (t := t) (W := W) ha0 (hX k (by omega)) hF0 hF2
          have hR : exR X m (-(k : Int)) = some (qt (rd false a0) (D.read (X k))) := by
            unfold exR
            rw [if_pos hm, if_neg h0, if_neg h1, if_pos h2, ha0e, Int.neg_neg, Int.toNat_natCast]
          rw [hR]
          have HF := Aside0.mk hF2
          have g22 : k < 23 := by omega
          have g0 : 0 < k := by omega
          have a1 : wrap64 (k : Int) = (k : Int) := by unfold wrap64; omega
          clear hF0 hG0 ha0e hR hF2 hX hc h1 h2 h0
          go_enter Tryz.func136, Tryz.ntmps136
          go_wp2_with fail
          go_ret2
          exact ⟨rfl, show Ending.returned (.tuple #[.float .f64 F2, .bool true]) = _ from by rw [HF.out]⟩
        · have hR : exR X m x = none := by
            unfold exR
            rw [if_pos hm, if_neg h0, if_neg h1, if_neg h2]
          rw [hR]
          clear hF0 hG0 ha0e hR hX hc
          have hsp : 37 < x ∨ x < -22 := by omega
          rcases hsp with hsp | hsp
          · have hpp : 0 < x := by omega
            clear h1 h2
            go_enter Tryz.func136, Tryz.ntmps136
            go_wp2_with fail
            go_ret2
            exact ⟨rfl, _, rfl⟩
          · have hpp : x < 0 := by omega
            clear h1 h2
            go_enter Tryz.func136, Tryz.ntmps136
            go_wp2_with fail
            go_ret2
            exact ⟨rfl, _, rfl⟩
  · have hR : exR X m x = none := by unfold exR; rw [if_neg hm]
    have q1 : (m / 4503599627370496 != 0) = true := bne_iff_ne.mpr hm
    rw [hR]
    clear hF0 hG0 ha0e hR hX hc
    go_enter Tryz.func136, Tryz.ntmps136
    go_wp2_with fail
    go_ret2
    exact ⟨rfl, _, rfl⟩

theorem exact_walk (B : Nat) (X : Nat → Nat) (m x : Int) (ng : Bool) (hm0 : 0 ≤ m) (hm1 : m < 18446744073709551616) (hx0 : -1000000 ≤ x) (hx1 : x ≤ 1000000) (w : World) (hF : FI B 6 w) (ht : XT B X w) (hX : ∀ k, k < 23 → Pos (X k)) : Calls Tryz.prog 136 #[.int .u64 m, .int .i64 x, .bool ng] w (ExP ng (exR X m x) w) := by
  cases ng
  · exact exact_pos B X m x hm0 hm1 hx0 hx1 w hF ht hX
  · exact exact_neg B X m x hm0 hm1 hx0 hx1 w hF ht hX
end Go.Proofs.YtlkbhmmelejmjaaGreatDoor.FltExact

/- The special floats (inf, infinity, nan), walked. -/
namespace Go.Proofs.YtlkbhmmelejmjaaGreatDoor.FltSpecial
open Go.RowKit Go.Proofs.YtlkbhmmelejmjaaGreatDoorW.PrintWords Go.Proofs.YtlkbhmmelejmjaaGreatDoor.FltKnown Go.Proofs.YtlkbhmmelejmjaaGreatDoor.FltDec Go.Proofs.YtlkbhmmelejmjaaGreatDoor.FltLeft Go.Proofs.YtlkbhmmelejmjaaGreatDoor.FltFast Go.Proofs.YtlkbhmmelejmjaaGreatDoor.FltTextP
set_option linter.unusedVariables false
set_option linter.unusedSimpArgs false

def lc (c : UInt8) : Int := if 65 ≤ c.toNat ∧ c.toNat ≤ 90 then (c.toNat : Int) + 32 else c.toNat
/-- How many bytes two texts have in common at their beginning, small letters in the second. -/
def cpF : List UInt8 → List UInt8 → Nat
  | c :: r, p :: q => if lc c = (p.toNat : Int) then cpF r q + 1 else 0
  | _, _ => 0
theorem cpF_nil (q : List UInt8) : cpF [] q = 0 := by cases q <;> rfl
theorem cpF_nil2 (r : List UInt8) : cpF r [] = 0 := by cases r <;> rfl
theorem cpF_cons (c p : UInt8) (r q : List UInt8) : cpF (c :: r) (p :: q) = if lc c = (p.toNat : Int) then cpF r q + 1 else 0 := rfl
def SaP (v : Value) (w : World) (e : Ending) (w' : World) : Prop := e = .returned v ∧ w' = w

set_option maxHeartbeats 4000000 in
set_option maxRecDepth 100000 in
theorem cp_walk (s t : ByteArray) (hs : s.size ≤ 2200000000) (ht : t.size ≤ 2200000000) (w : World) : Calls Tryz.prog 139 #[.string s, .string t] w (SaP (.int .i64 (cpF s.data.toList t.data.toList : Nat)) w) := by
  have hL : s.data.toList.length = s.size := (Lib.size_eq s).symm
  have hT : t.data.toList.length = t.size := (Lib.size_eq t).symm
  go_enter Tryz.func139, Tryz.ntmps139
  go_upto_region 2 with (fail)
  obtain ⟨n, hn⟩ : ∃ n : Nat, (n : Int) = (if s.size < t.size then (s.size : Int) else (t.size : Int)) := by
    by_cases h : s.size < t.size
    · exact ⟨s.size, by rw [if_pos h]⟩
    · exact ⟨t.size, by rw [if_neg h]⟩
  have hn1 : n ≤ s.size ∧ n ≤ t.size ∧ (n = s.size ∨ n = t.size) := by
    split at hn <;> omega
  rw [← hn]
  obtain ⟨hn1, hn2, hn3⟩ := hn1
  replace hn3 := Aside0.mk hn3
  clear hn
  go_wp2_with fail
  go_loopg [6] n (fun kq v6 wx => ∃ i : Nat, v6 = .int .i64 i ∧ i + kq = n ∧ Aside0 (i + cpF (s.data.toList.drop i) (t.data.toList.drop i) = cpF s.data.toList t.data.toList) ∧ w = wx)
  case atStart => exact ⟨0, rfl, by omega, ⟨by simp⟩, rfl⟩
  case round =>
    obtain ⟨i, rfl, hik, HC, rfl⟩ := hrel
    cases gk with
    | zero =>
      obtain rfl : i = n := by omega
      go_wp2_with fail
      go_ret
      have e : cpF (s.data.toList.drop i) (t.data.toList.drop i) = 0 := by
        rcases hn3.out with h | h
        · have h9 : s.data.toList.drop i = [] := List.drop_eq_nil_of_le (by omega)
          rw [h9, cpF_nil]
        · have h9 : t.data.toList.drop i = [] := List.drop_eq_nil_of_le (by omega)
          rw [h9, cpF_nil2]
      have := HC.out
      rw [e] at this
      exact ⟨by rw [← this]; rfl, rfl⟩
    | succ k1 =>
      have hi1 : i < s.size := by omega
      have hi2 : i < t.size := by omega
      obtain ⟨c, hcs⟩ : ∃ c, s[i] = c := ⟨_, rfl⟩
      obtain ⟨p, hps⟩ : ∃ p, t[i] = p := ⟨_, rfl⟩
      have hd1 : s.data.toList.drop i = c :: s.data.toList.drop (i + 1) := by rw [← hcs]; exact drop_cons (l := s.data.toList) (i := i) (by omega)
      have hd2 : t.data.toList.drop i = p :: t.data.toList.drop (i + 1) := by rw [← hps]; exact drop_cons (l := t.data.toList) (i := i) (by omega)
      have hc := HC.out
      rw [hd1, hd2, cpF_cons] at hc
      replace hc := Aside0.mk hc
      have hc256 : c.toNat < 256 := c.toNat_lt
      clear hd1 hd2
      by_cases hup : 65 ≤ c.toNat ∧ c.toNat ≤ 90
      · have hlc : lc c = (c.toNat : Int) + 32 := if_pos hup
        obtain ⟨u1, u2⟩ := hup
        by_cases he : (c.toNat : Int) + 32 = (p.toNat : Int)
        · have q : ((c.toNat : Int) + 32 != (p.toNat : Int)) = false := by rw [he]; simp
          have HE := Aside0.mk (And.intro hlc he)
          clear hlc he
          go_wp2_with fail
          go_roundg k1
          case rel =>
            have h := hc.out
            rw [if_pos (HE.out.1.trans HE.out.2)] at h
            exact ⟨i + 1, by go_num, by omega, ⟨by omega⟩, rfl⟩
          case measure => exact Nat.lt_succ_self _
        · have q : ((c.toNat : Int) + 32 != (p.toNat : Int)) = true := bne_iff_ne.mpr he
          have HE := Aside0.mk (And.intro hlc he)
          clear hlc he
          go_wp2_with fail
          go_ret
          have h := hc.out
          rw [if_neg (by rw [HE.out.1]; exact HE.out.2)] at h
          exact ⟨by rw [← h]; rfl, rfl⟩
      · have hlc : lc c = (c.toNat : Int) := if_neg hup
        have hsp : c.toNat < 65 ∨ 90 < c.toNat := by omega
        clear hup
        by_cases he : (c.toNat : Int) = (p.toNat : Int)
        · have q : ((c.toNat : Int) != (p.toNat : Int)) = false := by rw [he]; simp
          have HE := Aside0.mk (And.intro hlc he)
          clear hlc he
          rcases hsp with hsp | hsp
          · go_wp2_with fail
            go_roundg k1
            case rel =>
              have h := hc.out
              rw [if_pos (HE.out.1.trans HE.out.2)] at h
              exact ⟨i + 1, by go_num, by omega, ⟨by omega⟩, rfl⟩
            case measure => exact Nat.lt_succ_self _
          · go_wp2_with fail
            go_roundg k1
            case rel =>
              have h := hc.out
              rw [if_pos (HE.out.1.trans HE.out.2)] at h
              exact ⟨i + 1, by go_num, by omega, ⟨by omega⟩, rfl⟩
            case measure => exact Nat.lt_succ_self _
        · have q : ((c.toNat : Int) != (p.toNat : Int)) = true := bne_iff_ne.mpr he
          have HE := Aside0.mk (And.intro hlc he)
          clear hlc he
          rcases hsp with hsp | hsp
          · go_wp2_with fail
            go_ret
            have h := hc.out
            rw [if_neg (by rw [HE.out.1]; exact HE.out.2)] at h
            exact ⟨by rw [← h]; rfl, rfl⟩
          · go_wp2_with fail
            go_ret
            have h := hc.out
            rw [if_neg (by rw [HE.out.1]; exact HE.out.2)] at h
            exact ⟨by rw [← h]; rfl, rfl⟩

def infT : ByteArray := ⟨#[105, 110, 102, 105, 110, 105, 116, 121]⟩
def nanT : ByteArray := ⟨#[110, 97, 110]⟩
set_option maxRecDepth 100000 in
theorem inf_pos (w : World) : Calls Tryz.prog 140 #[.int .i64 1] w (SaP (.float .f64 9218868437227405312) w) := by
  have hfb := fb_run
  go_enter Tryz.func140, Tryz.ntmps140
  go_wp2_with fail
  go_ret
  exact ⟨rfl, rfl⟩
set_option maxRecDepth 100000 in
theorem inf_neg (w : World) : Calls Tryz.prog 140 #[.int .i64 (-1)] w (SaP (.float .f64 18442240474082181120) w) := by
  have hfb := fb_run
  go_enter Tryz.func140, Tryz.ntmps140
  go_wp2_with fail
  go_ret
  exact ⟨rfl, rfl⟩
set_option maxRecDepth 100000 in
theorem nan_walk (w : World) : Calls Tryz.prog 141 #[] w (SaP (.float .f64 9221120237041090561) w) := by
  have hfb := fb_run
  go_enter Tryz.func141, Tryz.ntmps141
  go_wp2_with fail
  go_ret
  exact ⟨rfl, rfl⟩
def cut8 (k : Nat) : Nat := if 3 < k ∧ k < 8 then 3 else k
def infF (v ns : Nat) (L : List UInt8) : Option (Nat × Nat) := if cut8 (cpF L infT.data.toList) = 3 ∨ cut8 (cpF L infT.data.toList) = 8 then some (v, ns + cut8 (cpF L infT.data.toList)) else none
def spF : List UInt8 → Option (Nat × Nat)
  | [] => none
  | c :: r => if c.toNat = 43 then infF 9218868437227405312 1 r else if c.toNat = 45 then infF 18442240474082181120 1 r
    else if c.toNat = 105 ∨ c.toNat = 73 then infF 9218868437227405312 0 (c :: r)
    else if c.toNat = 110 ∨ c.toNat = 78 then (if cpF (c :: r) nanT.data.toList = 3 then some (9221120237041090561, 3) else none) else none
theorem spF_cons (c : UInt8) (r : List UInt8) : spF (c :: r) = if c.toNat = 43 then infF 9218868437227405312 1 r else if c.toNat = 45 then infF 18442240474082181120 1 r
    else if c.toNat = 105 ∨ c.toNat = 73 then infF 9218868437227405312 0 (c :: r)
    else if c.toNat = 110 ∨ c.toNat = 78 then (if cpF (c :: r) nanT.data.toList = 3 then some (9221120237041090561, 3) else none) else none := rfl
def SpP (o : Option (Nat × Nat)) (w : World) (e : Ending) (w' : World) : Prop := w' = w ∧ match o with
  | some q => e = .returned (.tuple #[.float .f64 q.1, .int .i64 (q.2 : Nat), .bool true])
  | none => ∃ v n, e = .returned (.tuple #[.float .f64 v, .int .i64 n, .bool false])
theorem ext1 (s : ByteArray) : (s.extract 1 s.size).data.toList = s.data.toList.drop 1 := by
  rw [ByteArray.data_extract, Array.toList_extract]
  show (s.data.toList.drop 1).take (s.size - 1) = _
  exact List.take_of_length_le (by rw [List.length_drop, ← Lib.size_eq]; exact Nat.le_refl _)

set_option maxHeartbeats 4000000 in
set_option maxRecDepth 100000 in
theorem special_walk (s : ByteArray) (hs : s.size ≤ 2200000000) (w : World) : Calls Tryz.prog 125 #[.string s] w (SpP (spF s.data.toList) w) := by
  have hL : s.data.toList.length = s.size := (Lib.size_eq s).symm
  by_cases h0 : s.size = 0
  · have hemp : s = ByteArray.empty := by
      have : s.data.toList = [] := List.eq_nil_of_length_eq_zero (by omega)
      cases s with | mk d => cases d with | mk l => simp at this; subst this; rfl
    have e : spF s.data.toList = none := by rw [hemp]; rfl
    rw [e]
    go_enter Tryz.func125, Tryz.ntmps125
    go_wp2_with fail
    go_ret3
    exact ⟨rfl, _, _, rfl⟩
  · have hemp : ¬ s = ByteArray.empty := fun h => h0 (by rw [h]; rfl)
    have h1 : 0 < s.size := by omega
    obtain ⟨c0, r0, hL0⟩ : ∃ c0 r0, s.data.toList = c0 :: r0 := by
      cases h : s.data.toList with
      | nil => rw [h] at hL; exact absurd hL (by simp; omega)
      | cons a b => exact ⟨a, b, rfl⟩
    have hc0 : s[0] = c0 := by
      have : s.data.toList[0]'(by omega) = c0 := by simp only [hL0]; rfl
      exact this
    have hr0 : (s.extract 1 s.size).data.toList = r0 := by rw [ext1, hL0]; rfl
    have hsz1 : (s.extract 1 s.size).size ≤ 2200000000 := by rw [Lib.size_eq, hr0]; rw [hL0] at hL; simp at hL; omega
    have C1 := cp_walk (s.extract 1 s.size) infT hsz1 (by decide)
    have C0 := cp_walk s infT hs (by decide)
    have CN := cp_walk s nanT hs (by decide)
    rw [hr0] at C1
    rw [hL0] at C0 CN
    by_cases h43 : c0.toNat = 43
    · obtain ⟨k, hk⟩ : ∃ k, k = cpF r0 infT.data.toList := ⟨_, rfl⟩
      have e : spF s.data.toList = if cut8 k = 3 ∨ cut8 k = 8 then some (9218868437227405312, 1 + cut8 k) else none := by
        rw [hL0, hk, spF_cons, if_pos h43]; rfl
      rw [e]
      rw [← hk] at C1
      have HC := Aside0.mk C1
      clear C1 C0 CN e hk
      have hk9 : (3 < k ∧ k < 8) ∨ k = 3 ∨ k = 8 ∨ k < 3 ∨ 8 < k := by omega
      rcases hk9 with ⟨g1, g2⟩ | rfl | rfl | g1 | g1
      · have e8 : cut8 k = 3 := if_pos ⟨g1, g2⟩
        rw [e8]
        go_enter Tryz.func125, Tryz.ntmps125
        go_wp2_with (first | (go_at_call 139; refine (HC.out _).mono ?_; rintro e w' ⟨rfl, rfl⟩) | (go_at_call 140; refine (inf_pos _).mono ?_; rintro e w' ⟨rfl, rfl⟩))
        go_ret3
        exact ⟨rfl, rfl⟩
      · rw [show cut8 3 = 3 from rfl]
        go_enter Tryz.func125, Tryz.ntmps125
        go_wp2_with (first | (go_at_call 139; refine (HC.out _).mono ?_; rintro e w' ⟨rfl, rfl⟩) | (go_at_call 140; refine (inf_pos _).mono ?_; rintro e w' ⟨rfl, rfl⟩))
        go_ret3
        exact ⟨rfl, rfl⟩
      · rw [show cut8 8 = 8 from rfl]
        go_enter Tryz.func125, Tryz.ntmps125
        go_wp2_with (first | (go_at_call 139; refine (HC.out _).mono ?_; rintro e w' ⟨rfl, rfl⟩) | (go_at_call 140; refine (inf_pos _).mono ?_; rintro e w' ⟨rfl, rfl⟩))
        go_ret3
        exact ⟨rfl, rfl⟩
      · have e8 : (if cut8 k = 3 ∨ cut8 k = 8 then some (9218868437227405312, 1 + cut8 k) else none) = none := by
          have : cut8 k = k := if_neg (by omega)
          rw [this]; exact if_neg (by omega)
        rw [e8]
        have q3 : ((k : Int) == 3) = false := beq_eq_false_iff_ne.mpr (by omega)
        have q8 : ((k : Int) == 8) = false := beq_eq_false_iff_ne.mpr (by omega)
        go_enter Tryz.func125, Tryz.ntmps125
        go_wp2_with (first | (go_at_call 139; refine (HC.out _).mono ?_; rintro e w' ⟨rfl, rfl⟩) | (go_at_call 140; refine (inf_pos _).mono ?_; rintro e w' ⟨rfl, rfl⟩))
        go_ret3
        exact ⟨rfl, _, _, rfl⟩
      · have e8 : (if cut8 k = 3 ∨ cut8 k = 8 then some (9218868437227405312, 1 + cut8 k) else none) = none := by
          have : cut8 k = k := if_neg (by omega)
          rw [this]; exact if_neg (by omega)
        rw [e8]
        have q3 : ((k : Int) == 3) = false := beq_eq_false_iff_ne.mpr (by omega)
        have q8 : ((k : Int) == 8) = false := beq_eq_false_iff_ne.mpr (by omega)
        go_enter Tryz.func125, Tryz.ntmps125
        go_wp2_with (first | (go_at_call 139; refine (HC.out _).mono ?_; rintro e w' ⟨rfl, rfl⟩) | (go_at_call 140; refine (inf_pos _).mono ?_; rintro e w' ⟨rfl, rfl⟩))
        go_ret3
        exact ⟨rfl, _, _, rfl⟩
    · have q43 : ((c0.toNat : Int) == 43) = false := beq_eq_false_iff_ne.mpr (by omega)
      by_cases h45 : c0.toNat = 45
      · obtain ⟨k, hk⟩ : ∃ k, k = cpF r0 infT.data.toList := ⟨_, rfl⟩
        have e : spF s.data.toList = if cut8 k = 3 ∨ cut8 k = 8 then some (18442240474082181120, 1 + cut8 k) else none := by
          rw [hL0, hk, spF_cons, if_neg h43, if_pos h45]; rfl
        rw [e]
        rw [← hk] at C1
        have HC := Aside0.mk C1
        clear C1 C0 CN e hk
        have hk9 : (3 < k ∧ k < 8) ∨ k = 3 ∨ k = 8 ∨ k < 3 ∨ 8 < k := by omega
        rcases hk9 with ⟨g1, g2⟩ | rfl | rfl | g1 | g1
        · have e8 : cut8 k = 3 := if_pos ⟨g1, g2⟩
          rw [e8]
          go_enter Tryz.func125, Tryz.ntmps125
          go_wp2_with (first | (go_at_call 139; refine (HC.out _).mono ?_; rintro e w' ⟨rfl, rfl⟩) | (go_at_call 140; refine (inf_neg _).mono ?_; rintro e w' ⟨rfl, rfl⟩))
          go_ret3
          exact ⟨rfl, rfl⟩
        · rw [show cut8 3 = 3 from rfl]
          go_enter Tryz.func125, Tryz.ntmps125
          go_wp2_with (first | (go_at_call 139; refine (HC.out _).mono ?_; rintro e w' ⟨rfl, rfl⟩) | (go_at_call 140; refine (inf_neg _).mono ?_; rintro e w' ⟨rfl, rfl⟩))
          go_ret3
          exact ⟨rfl, rfl⟩
        · rw [show cut8 8 = 8 from rfl]
          go_enter Tryz.func125, Tryz.ntmps125
          go_wp2_with (first | (go_at_call 139; refine (HC.out _).mono ?_; rintro e w' ⟨rfl, rfl⟩) | (go_at_call 140; refine (inf_neg _).mono ?_; rintro e w' ⟨rfl, rfl⟩))
          go_ret3
          exact ⟨rfl, rfl⟩
        · have e8 : (if cut8 k = 3 ∨ cut8 k = 8 then some (18442240474082181120, 1 + cut8 k) else none) = none := by
            have : cut8 k = k := if_neg (by omega)
            rw [this]; exact if_neg (by omega)
          rw [e8]
          have q3 : ((k : Int) == 3) = false := beq_eq_false_iff_ne.mpr (by omega)
          have q8 : ((k : Int) == 8) = false := beq_eq_false_iff_ne.mpr (by omega)
          go_enter Tryz.func125, Tryz.ntmps125
          go_wp2_with (first | (go_at_call 139; refine (HC.out _).mono ?_; rintro e w' ⟨rfl, rfl⟩) | (go_at_call 140; refine (inf_neg _).mono ?_; rintro e w' ⟨rfl, rfl⟩))
          go_ret3
          exact ⟨rfl, _, _, rfl⟩
        · have e8 : (if cut8 k = 3 ∨ cut8 k = 8 then some (18442240474082181120, 1 + cut8 k) else none) = none := by
            have : cut8 k = k := if_neg (by omega)
            rw [this]; exact if_neg (by omega)
          rw [e8]
          have q3 : ((k : Int) == 3) = false := beq_eq_false_iff_ne.mpr (by omega)
          have q8 : ((k : Int) == 8) = false := beq_eq_false_iff_ne.mpr (by omega)
          go_enter Tryz.func125, Tryz.ntmps125
          go_wp2_with (first | (go_at_call 139; refine (HC.out _).mono ?_; rintro e w' ⟨rfl, rfl⟩) | (go_at_call 140; refine (inf_neg _).mono ?_; rintro e w' ⟨rfl, rfl⟩))
          go_ret3
          exact ⟨rfl, _, _, rfl⟩
      · have q45 : ((c0.toNat : Int) == 45) = false := beq_eq_false_iff_ne.mpr (by omega)
        by_cases h105 : c0.toNat = 105
        · obtain ⟨k, hk⟩ : ∃ k, k = cpF (c0 :: r0) infT.data.toList := ⟨_, rfl⟩
          have e : spF s.data.toList = if cut8 k = 3 ∨ cut8 k = 8 then some (9218868437227405312, 0 + cut8 k) else none := by
            rw [hL0, hk, spF_cons, if_neg h43, if_neg h45, if_pos (.inl h105)]; rfl
          rw [e]
          rw [← hk] at C0
          have HC := Aside0.mk C0
          clear C1 C0 CN e hk
          have hk9 : (3 < k ∧ k < 8) ∨ k = 3 ∨ k = 8 ∨ k < 3 ∨ 8 < k := by omega
          rcases hk9 with ⟨g1, g2⟩ | rfl | rfl | g1 | g1
          · have e8 : cut8 k = 3 := if_pos ⟨g1, g2⟩
            rw [e8]
            go_enter Tryz.func125, Tryz.ntmps125
            go_wp2_with (first | (go_at_call 139; refine (HC.out _).mono ?_; rintro e w' ⟨rfl, rfl⟩) | (go_at_call 140; refine (inf_pos _).mono ?_; rintro e w' ⟨rfl, rfl⟩))
            go_ret3
            exact ⟨rfl, rfl⟩
          · rw [show cut8 3 = 3 from rfl]
            go_enter Tryz.func125, Tryz.ntmps125
            go_wp2_with (first | (go_at_call 139; refine (HC.out _).mono ?_; rintro e w' ⟨rfl, rfl⟩) | (go_at_call 140; refine (inf_pos _).mono ?_; rintro e w' ⟨rfl, rfl⟩))
            go_ret3
            exact ⟨rfl, rfl⟩
          · rw [show cut8 8 = 8 from rfl]
            go_enter Tryz.func125, Tryz.ntmps125
            go_wp2_with (first | (go_at_call 139; refine (HC.out _).mono ?_; rintro e w' ⟨rfl, rfl⟩) | (go_at_call 140; refine (inf_pos _).mono ?_; rintro e w' ⟨rfl, rfl⟩))
            go_ret3
            exact ⟨rfl, rfl⟩
          · have e8 : (if cut8 k = 3 ∨ cut8 k = 8 then some (9218868437227405312, 0 + cut8 k) else none) = none := by
              have : cut8 k = k := if_neg (by omega)
              rw [this]; exact if_neg (by omega)
            rw [e8]
            have q3 : ((k : Int) == 3) = false := beq_eq_false_iff_ne.mpr (by omega)
            have q8 : ((k : Int) == 8) = false := beq_eq_false_iff_ne.mpr (by omega)
            go_enter Tryz.func125, Tryz.ntmps125
            go_wp2_with (first | (go_at_call 139; refine (HC.out _).mono ?_; rintro e w' ⟨rfl, rfl⟩) | (go_at_call 140; refine (inf_pos _).mono ?_; rintro e w' ⟨rfl, rfl⟩))
            go_ret3
            exact ⟨rfl, _, _, rfl⟩
          · have e8 : (if cut8 k = 3 ∨ cut8 k = 8 then some (9218868437227405312, 0 + cut8 k) else none) = none := by
              have : cut8 k = k := if_neg (by omega)
              rw [this]; exact if_neg (by omega)
            rw [e8]
            have q3 : ((k : Int) == 3) = false := beq_eq_false_iff_ne.mpr (by omega)
            have q8 : ((k : Int) == 8) = false := beq_eq_false_iff_ne.mpr (by omega)
            go_enter Tryz.func125, Tryz.ntmps125
            go_wp2_with (first | (go_at_call 139; refine (HC.out _).mono ?_; rintro e w' ⟨rfl, rfl⟩) | (go_at_call 140; refine (inf_pos _).mono ?_; rintro e w' ⟨rfl, rfl⟩))
            go_ret3
            exact ⟨rfl, _, _, rfl⟩
        · have q105 : ((c0.toNat : Int) == 105) = false := beq_eq_false_iff_ne.mpr (by omega)
          by_cases h73 : c0.toNat = 73
          · obtain ⟨k, hk⟩ : ∃ k, k = cpF (c0 :: r0) infT.data.toList := ⟨_, rfl⟩
            have e : spF s.data.toList = if cut8 k = 3 ∨ cut8 k = 8 then some (9218868437227405312, 0 + cut8 k) else none := by
              rw [hL0, hk, spF_cons, if_neg h43, if_neg h45, if_pos (.inr h73)]; rfl
            rw [e]
            rw [← hk] at C0
            have HC := Aside0.mk C0
            clear C1 C0 CN e hk
            have hk9 : (3 < k ∧ k < 8) ∨ k = 3 ∨ k = 8 ∨ k < 3 ∨ 8 < k := by omega
            rcases hk9 with ⟨g1, g2⟩ | rfl | rfl | g1 | g1
            · have e8 : cut8 k = 3 := if_pos ⟨g1, g2⟩
              rw [e8]
              go_enter Tryz.func125, Tryz.ntmps125
              go_wp2_with (first | (go_at_call 139; refine (HC.out _).mono ?_; rintro e w' ⟨rfl, rfl⟩) | (go_at_call 140; refine (inf_pos _).mono ?_; rintro e w' ⟨rfl, rfl⟩))
              go_ret3
              exact ⟨rfl, rfl⟩
            · rw [show cut8 3 = 3 from rfl]
              go_enter Tryz.func125, Tryz.ntmps125
              go_wp2_with (first | (go_at_call 139; refine (HC.out _).mono ?_; rintro e w' ⟨rfl, rfl⟩) | (go_at_call 140; refine (inf_pos _).mono ?_; rintro e w' ⟨rfl, rfl⟩))
              go_ret3
              exact ⟨rfl, rfl⟩
            · rw [show cut8 8 = 8 from rfl]
              go_enter Tryz.func125, Tryz.ntmps125
              go_wp2_with (first | (go_at_call 139; refine (HC.out _).mono ?_; rintro e w' ⟨rfl, rfl⟩) | (go_at_call 140; refine (inf_pos _).mono ?_; rintro e w' ⟨rfl, rfl⟩))
              go_ret3
              exact ⟨rfl, rfl⟩
            · have e8 : (if cut8 k = 3 ∨ cut8 k = 8 then some (9218868437227405312, 0 + cut8 k) else none) = none := by
                have : cut8 k = k := if_neg (by omega)
                rw [this]; exact if_neg (by omega)
              rw [e8]
              have q3 : ((k : Int) == 3) = false := beq_eq_false_iff_ne.mpr (by omega)
              have q8 : ((k : Int) == 8) = false := beq_eq_false_iff_ne.mpr (by omega)
              go_enter Tryz.func125, Tryz.ntmps125
              go_wp2_with (first | (go_at_call 139; refine (HC.out _).mono ?_; rintro e w' ⟨rfl, rfl⟩) | (go_at_call 140; refine (inf_pos _).mono ?_; rintro e w' ⟨rfl, rfl⟩))
              go_ret3
              exact ⟨rfl, _, _, rfl⟩
            · have e8 : (if cut8 k = 3 ∨ cut8 k = 8 then some (9218868437227405312, 0 + cut8 k) else none) = none := by
                have : cut8 k = k := if_neg (by omega)
                rw [this]; exact if_neg (by omega)
              rw [e8]
              have q3 : ((k : Int) == 3) = false := beq_eq_false_iff_ne.mpr (by omega)
              have q8 : ((k : Int) == 8) = false := beq_eq_false_iff_ne.mpr (by omega)
              go_enter Tryz.func125, Tryz.ntmps125
              go_wp2_with (first | (go_at_call 139; refine (HC.out _).mono ?_; rintro e w' ⟨rfl, rfl⟩) | (go_at_call 140; refine (inf_pos _).mono ?_; rintro e w' ⟨rfl, rfl⟩))
              go_ret3
              exact ⟨rfl, _, _, rfl⟩
          · have q73 : ((c0.toNat : Int) == 73) = false := beq_eq_false_iff_ne.mpr (by omega)
            by_cases h110 : c0.toNat = 110
            · obtain ⟨k, hk⟩ : ∃ k, k = cpF (c0 :: r0) nanT.data.toList := ⟨_, rfl⟩
              have e : spF s.data.toList = if k = 3 then some (9221120237041090561, 3) else none := by
                rw [hL0, hk, spF_cons, if_neg h43, if_neg h45, if_neg (by omega), if_pos (.inl h110)]
              rw [e]
              rw [← hk] at CN
              have HC := Aside0.mk CN
              clear C1 C0 CN e hk
              by_cases g1 : k = 3
              · rw [if_pos g1]
                subst g1
                go_enter Tryz.func125, Tryz.ntmps125
                go_wp2_with (first | (go_at_call 139; refine (HC.out _).mono ?_; rintro e w' ⟨rfl, rfl⟩) | (go_at_call 141; refine (nan_walk _).mono ?_; rintro e w' ⟨rfl, rfl⟩))
                go_ret3
                exact ⟨rfl, rfl⟩
              · rw [if_neg g1]
                have q3 : ((k : Int) == 3) = false := beq_eq_false_iff_ne.mpr (by omega)
                go_enter Tryz.func125, Tryz.ntmps125
                go_wp2_with (first | (go_at_call 139; refine (HC.out _).mono ?_; rintro e w' ⟨rfl, rfl⟩) | (go_at_call 141; refine (nan_walk _).mono ?_; rintro e w' ⟨rfl, rfl⟩))
                go_ret3
                exact ⟨rfl, _, _, rfl⟩
            · have q110 : ((c0.toNat : Int) == 110) = false := beq_eq_false_iff_ne.mpr (by omega)
              by_cases h78 : c0.toNat = 78
              · obtain ⟨k, hk⟩ : ∃ k, k = cpF (c0 :: r0) nanT.data.toList := ⟨_, rfl⟩
                have e : spF s.data.toList = if k = 3 then some (9221120237041090561, 3) else none := by
                  rw [hL0, hk, spF_cons, if_neg h43, if_neg h45, if_neg (by omega), if_pos (.inr h78)]
                rw [e]
                rw [← hk] at CN
                have HC := Aside0.mk CN
                clear C1 C0 CN e hk
                by_cases g1 : k = 3
                · rw [if_pos g1]
                  subst g1
                  go_enter Tryz.func125, Tryz.ntmps125
                  go_wp2_with (first | (go_at_call 139; refine (HC.out _).mono ?_; rintro e w' ⟨rfl, rfl⟩) | (go_at_call 141; refine (nan_walk _).mono ?_; rintro e w' ⟨rfl, rfl⟩))
                  go_ret3
                  exact ⟨rfl, rfl⟩
                · rw [if_neg g1]
                  have q3 : ((k : Int) == 3) = false := beq_eq_false_iff_ne.mpr (by omega)
                  go_enter Tryz.func125, Tryz.ntmps125
                  go_wp2_with (first | (go_at_call 139; refine (HC.out _).mono ?_; rintro e w' ⟨rfl, rfl⟩) | (go_at_call 141; refine (nan_walk _).mono ?_; rintro e w' ⟨rfl, rfl⟩))
                  go_ret3
                  exact ⟨rfl, _, _, rfl⟩
              · have q78 : ((c0.toNat : Int) == 78) = false := beq_eq_false_iff_ne.mpr (by omega)
                have e : spF s.data.toList = none := by rw [hL0, spF_cons, if_neg h43, if_neg h45, if_neg (by omega), if_neg (by omega)]
                rw [e]
                clear C1 C0 CN e
                go_enter Tryz.func125, Tryz.ntmps125
                go_wp2_with fail
                go_ret3
                exact ⟨rfl, _, _, rfl⟩
end Go.Proofs.YtlkbhmmelejmjaaGreatDoor.FltSpecial

/- atof64, walked. -/
namespace Go.Proofs.YtlkbhmmelejmjaaGreatDoor.FltAtof
open Go.RowKit Go.Proofs.YtlkbhmmelejmjaaGreatDoorW.PrintWords Go.Proofs.YtlkbhmmelejmjaaGreatDoor.FltDec Go.Proofs.YtlkbhmmelejmjaaGreatDoor.FltState Go.Proofs.YtlkbhmmelejmjaaGreatDoor.FltBoth Go.Proofs.YtlkbhmmelejmjaaGreatDoor.FltBitsP Go.Proofs.YtlkbhmmelejmjaaGreatDoor.FltBits Go.Proofs.YtlkbhmmelejmjaaGreatDoor.FltTextP Go.Proofs.YtlkbhmmelejmjaaGreatDoor.FltReadA Go.Proofs.YtlkbhmmelejmjaaGreatDoor.FltRead Go.Proofs.YtlkbhmmelejmjaaGreatDoor.FltReadIn Go.Proofs.YtlkbhmmelejmjaaGreatDoor.FltFast Go.Proofs.YtlkbhmmelejmjaaGreatDoor.FltFast2 Go.Proofs.YtlkbhmmelejmjaaGreatDoor.FltNum Go.Proofs.YtlkbhmmelejmjaaGreatDoor.FltHexP Go.Proofs.YtlkbhmmelejmjaaGreatDoor.FltHex Go.Proofs.YtlkbhmmelejmjaaGreatDoor.FltSpecial
set_option linter.unusedVariables false
set_option linter.unusedSimpArgs false

/-- The tables that floats are read with, below block B. -/
structure Tabs (B : Nat) (H O X : Nat → Nat) (w : World) : Prop where
  lt : LTb B w
  pt : PT B w
  fi : FI B 6 w
  tt : TT B (fun k => H k) (fun k => O k) w
  xt : FltExact.XT B X w
  pos : ∀ k, k < 23 → Pos (X k)
  pq : PQ B w
  op : 5 < B ∧ w.cell? ⟨5, 0, none⟩ = some (.bool true)
theorem Tabs.keep {B p : Nat} {H O X : Nat → Nat} {w w' : World} (h : Tabs B H O X w) (hb : Below p w w') (hp : B ≤ p) : Tabs B H O X w' :=
  ⟨h.lt.keep hb hp, h.pt.keep hb hp, h.fi.keep hb hp, h.tt.keep hb hp, h.xt.keep hb hp, h.pos, h.pq.keep hb hp, h.op.1, (hb.cell (p := ⟨5, 0, none⟩) (Nat.lt_of_lt_of_le h.op.1 hp)).trans h.op.2⟩

/-- The error of a kind: 0 none, 1 too great, 2 no number. -/
def erN (k : Nat) : Value := if k = 0 then .nilIface else .iface 119 (.int .i64 k)
theorem erV_N (b : Bool) : erV b = erN (if b then 1 else 0) := by cases b <;> rfl
/-- The slow road. -/
def slowF (T : List UInt8) : Nat × Nat :=
  match setF (sgn T).2 with
  | none => (0, 2)
  | some t => if t.n = 0 then ((signB (sgn T).1 (outB 0 (-1023))).toNat, 0) else ((signB (sgn T).1 (outB (fM t) (fX t))).toNat, if over t then 1 else 0)
def sgB (ng : Bool) : Int := if ng then 9223372036854775808 else 0
/-- What is made of a number that was read (T: its bytes): the float and the kind of its error. -/
def numF (H O X : Nat → Nat) (ng : Bool) (T : List UInt8) (r : RR) : Nat × Nat :=
  if r.hx then ((signB ng (outB (hM r.man r.exp r.tr) (hX r.man r.exp r.tr))).toNat, if hO r.man r.exp r.tr then 1 else 0)
  else if r.man = 0 then ((bits .or .u64 (sgB ng) 0).toNat, 0)
  else if 310 < r.exp then ((bits .or .u64 (sgB ng) 9218868437227405312).toNat, 1)
  else if r.exp < -345 then ((bits .or .u64 (sgB ng) 0).toNat, 0)
  else if r.tr = false then (match exR X r.man r.exp with
    | some a => (D.word ng a, 0)
    | none => (pfV (fun k => H k) (fun k => O k) r.man r.exp (sgB ng), if pfO (fun k => H k) (fun k => O k) r.man r.exp (sgB ng) then 1 else 0))
  else if (FloatKind.format .f64).order (pfV (fun k => H k) (fun k => O k) r.man r.exp (sgB ng)) (pfV (fun k => H k) (fun k => O k) (IntKind.u64.wrap (r.man + 1)) r.exp (sgB ng)) == some .eq then (pfV (fun k => H k) (fun k => O k) r.man r.exp (sgB ng), if pfO (fun k => H k) (fun k => O k) r.man r.exp (sgB ng) then 1 else 0)
  else slowF T
/-- What atof64 gives: the float, how much was read, the error. -/
def AtP (H O X : Nat → Nat) (s : ByteArray) (w : World) (e : Ending) (w' : World) : Prop := Below w.heap.size w w' ∧
  match spF s.data.toList with
  | some q => e = .returned (.tuple #[.float .f64 q.1, .int .i64 (q.2 : Nat), .nilIface])
  | none => match readF (sgn s.data.toList).2 with
    | none => ∃ n, e = .returned (.tuple #[.float .f64 0, .int .i64 n, erN 2])
    | some r => e = .returned (.tuple #[.float .f64 (numF H O X (sgn s.data.toList).1 (s.data.toList.take (s.size - r.rest.length)) r).1, .int .i64 ((s.size - r.rest.length : Nat) : Int), erN (numF H O X (sgn s.data.toList).1 (s.data.toList.take (s.size - r.rest.length)) r).2])
theorem sp_none (s : ByteArray) (hsz : s.size ≤ 2200000000) (h : spF s.data.toList = none) (w : World) : Calls Tryz.prog 125 #[.string s] w (fun e w' => w' = w ∧ ∃ v n, e = .returned (.tuple #[.float .f64 v, .int .i64 n, .bool false])) := by
  have := special_walk s hsz w
  unfold SpP at this
  rw [h] at this
  exact this
theorem rd_none (s : ByteArray) (hsz : s.size ≤ 2200000000) (hus : ∀ i (h : i < s.size), s[i].toNat ≠ 95) (h : readF (sgn s.data.toList).2 = none) (w : World) : Calls Tryz.prog 126 #[.string s] w (fun e w' => w' = w ∧ ∃ (m x i : Int) (n t h : Bool), e = .returned (.tuple #[.int .u64 m, .int .i64 x, .bool n, .bool t, .bool h, .int .i64 i, .bool false])) := by
  refine (read_walk s hsz hus w).mono ?_
  rintro e w' ⟨hw, ⟨m, x, i, n, t, hh, h1, h2⟩ | ⟨r, i, h1, _⟩⟩
  · exact ⟨hw, m, x, i, n, t, hh, h2⟩
  · rw [h] at h1; cases h1
theorem rd_some (s : ByteArray) (hsz : s.size ≤ 2200000000) (hus : ∀ i (h : i < s.size), s[i].toNat ≠ 95) (r : RR) (h : readF (sgn s.data.toList).2 = some r) (w : World) : Calls Tryz.prog 126 #[.string s] w (fun e w' => w' = w ∧ e = .returned (.tuple #[.int .u64 r.man, .int .i64 r.exp, .bool (sgn s.data.toList).1, .bool r.tr, .bool r.hx, .int .i64 ((s.size - r.rest.length : Nat) : Int), .bool true])) := by
  refine (read_walk s hsz hus w).mono ?_
  rintro e w' ⟨hw, ⟨m, x, i, n, t, hh, h1, h2⟩ | ⟨r', i, h1, h2, h3, h4⟩⟩
  · rw [h] at h1; cases h1
  · rw [h] at h1
    injection h1 with h1
    subst h1
    refine ⟨hw, ?_⟩
    have e1 : s.size - r.rest.length = i := by
      rw [← h2, List.length_drop, ← Lib.size_eq]
      omega
    rw [e1]
    exact h4

set_option maxHeartbeats 16000000 in
set_option maxRecDepth 100000 in
theorem atof_special (H O X : Nat → Nat) (s : ByteArray) (hsz : s.size ≤ 2200000000) (w : World) (q : Nat × Nat) (hq : spF s.data.toList = some q) : Calls Tryz.prog 119 #[.string s] w (AtP H O X s w) := by
  have C := special_walk s hsz w
  unfold SpP at C
  rw [hq] at C
  replace C := Aside0.mk C
  go_enter Tryz.func119, Tryz.ntmps119
  go_wp2_with (first | (go_at_call 125; refine C.out.mono ?_; rintro e w1 ⟨rfl, rfl⟩))
  go_ret3
  refine ⟨Below.refl _ _, ?_⟩
  rw [hq]
  rfl

set_option maxHeartbeats 16000000 in
set_option maxRecDepth 100000 in
theorem atof_none (H O X : Nat → Nat) (s : ByteArray) (hsz : s.size ≤ 2200000000) (hus : ∀ i (h : i < s.size), s[i].toNat ≠ 95) (w : World) (hq : spF s.data.toList = none) (hr : readF (sgn s.data.toList).2 = none) : Calls Tryz.prog 119 #[.string s] w (AtP H O X s w) := by
  have C := Aside0.mk (sp_none s hsz hq w)
  have CR := Aside0.mk (rd_none s hsz hus hr)
  have HQ := Aside0.mk (And.intro hq hr)
  clear hus hq hr
  go_enter Tryz.func119, Tryz.ntmps119
  go_wp2_with (first | (go_at_call 125; refine C.out.mono ?_; rintro e w1 ⟨rfl, v, n, rfl⟩) | (go_at_call 126; refine (CR.out _).mono ?_; rintro e w2 ⟨rfl, m, x, i, n1, t1, h1, rfl⟩))
  go_ret3
  refine ⟨Below.refl _ _, ?_⟩
  rw [HQ.out.1]
  show match readF (sgn s.data.toList).2 with | none => _ | some r => _
  rw [HQ.out.2]
  exact ⟨_, rfl⟩

set_option maxRecDepth 100000 in
theorem b2t (w : World) : Calls Tryz.prog 134 #[.bool true] w (SaP (.int .u64 1) w) := by
  go_enter Tryz.func134, Tryz.ntmps134
  go_wp2_with fail
  go_ret
  exact ⟨rfl, rfl⟩
set_option maxRecDepth 100000 in
theorem b2f (w : World) : Calls Tryz.prog 134 #[.bool false] w (SaP (.int .u64 0) w) := by
  go_enter Tryz.func134, Tryz.ntmps134
  go_wp2_with fail
  go_ret
  exact ⟨rfl, rfl⟩
/-- The numbers that are told from their parts alone. -/
def Easy (r : RR) : Prop := r.hx = false ∧ (r.man = 0 ∨ 310 < r.exp ∨ r.exp < -345)
set_option maxHeartbeats 16000000 in
set_option maxRecDepth 100000 in
theorem atof_easy (B : Nat) (H O X : Nat → Nat) (s : ByteArray) (hsz : s.size ≤ 2200000000) (hus : ∀ i (h : i < s.size), s[i].toNat ≠ 95) (w : World) (hT : Tabs B H O X w) (hq : spF s.data.toList = none) (r : RR) (hr : readF (sgn s.data.toList).2 = some r) (he : Easy r) : Calls Tryz.prog 119 #[.string s] w (AtP H O X s w) := by
  have C := Aside0.mk (sp_none s hsz hq w)
  have CR := Aside0.mk (rd_some s hsz hus r hr)
  have HQ := Aside0.mk (And.intro hq hr)
  have hop := hT.op.2
  have hfb := fb_run
  obtain ⟨T, hTe⟩ : ∃ T, T = s.data.toList.take (s.size - r.rest.length) := ⟨_, rfl⟩
  obtain ⟨n0, hn0⟩ : ∃ n0, n0 = s.size - r.rest.length := ⟨_, rfl⟩
  obtain ⟨ng, hng⟩ : ∃ ng, ng = (sgn s.data.toList).1 := ⟨_, rfl⟩
  rw [← hn0, ← hng] at CR
  have HN := Aside0.mk (And.intro hTe (And.intro hn0 hng))
  clear hus hq hr hTe hn0 hng hT
  obtain ⟨hh, he⟩ := he
  have hx1 : r.hx = false := hh
  rw [hx1] at CR
  cases ng with
  | true =>
    by_cases hm : r.man = 0
    · have EQ := Aside0.mk (show numF H O X true T r = ((bits .or .u64 (sgB true) 0).toNat, 0) by unfold numF; rw [if_neg (by rw [hx1]; decide), if_pos hm])
      go_enter Tryz.func119, Tryz.ntmps119
      go_wp2_with (first | (go_at_call 125; refine C.out.mono ?_; rintro e w1 ⟨rfl, v, n, rfl⟩) | (go_at_call 126; refine (CR.out _).mono ?_; rintro e w2 ⟨rfl, rfl⟩) | (go_at_call 134; refine (b2t _).mono ?_; rintro e w3 ⟨rfl, rfl⟩))
      go_ret3
      refine ⟨Below.refl _ _, ?_⟩
      rw [HQ.out.1]
      show match readF (sgn s.data.toList).2 with | none => _ | some r => _
      rw [HQ.out.2]
      show Ending.returned _ = Ending.returned (.tuple #[.float .f64 (numF H O X (sgn s.data.toList).1 (s.data.toList.take (s.size - r.rest.length)) r).1, .int .i64 ((s.size - r.rest.length : Nat) : Int), erN (numF H O X (sgn s.data.toList).1 (s.data.toList.take (s.size - r.rest.length)) r).2])
      rw [← HN.out.1, ← HN.out.2.1, ← HN.out.2.2, EQ.out]
      rfl
    · have qm : (r.man == 0) = false := beq_eq_false_iff_ne.mpr hm
      by_cases h1 : 310 < r.exp
      · have EQ := Aside0.mk (show numF H O X true T r = ((bits .or .u64 (sgB true) 9218868437227405312).toNat, 1) by unfold numF; rw [if_neg (by rw [hx1]; decide), if_neg hm, if_pos h1])
        go_enter Tryz.func119, Tryz.ntmps119
        go_wp2_with (first | (go_at_call 125; refine C.out.mono ?_; rintro e w1 ⟨rfl, v, n, rfl⟩) | (go_at_call 126; refine (CR.out _).mono ?_; rintro e w2 ⟨rfl, rfl⟩) | (go_at_call 134; refine (b2t _).mono ?_; rintro e w3 ⟨rfl, rfl⟩))
        go_ret3
        refine ⟨Below.refl _ _, ?_⟩
        rw [HQ.out.1]
        show match readF (sgn s.data.toList).2 with | none => _ | some r => _
        rw [HQ.out.2]
        show Ending.returned _ = Ending.returned (.tuple #[.float .f64 (numF H O X (sgn s.data.toList).1 (s.data.toList.take (s.size - r.rest.length)) r).1, .int .i64 ((s.size - r.rest.length : Nat) : Int), erN (numF H O X (sgn s.data.toList).1 (s.data.toList.take (s.size - r.rest.length)) r).2])
        rw [← HN.out.1, ← HN.out.2.1, ← HN.out.2.2, EQ.out]
        rfl
      · have h2 : r.exp < -345 := by omega
        have EQ := Aside0.mk (show numF H O X true T r = ((bits .or .u64 (sgB true) 0).toNat, 0) by unfold numF; rw [if_neg (by rw [hx1]; decide), if_neg hm, if_neg h1, if_pos h2])
        go_enter Tryz.func119, Tryz.ntmps119
        go_wp2_with (first | (go_at_call 125; refine C.out.mono ?_; rintro e w1 ⟨rfl, v, n, rfl⟩) | (go_at_call 126; refine (CR.out _).mono ?_; rintro e w2 ⟨rfl, rfl⟩) | (go_at_call 134; refine (b2t _).mono ?_; rintro e w3 ⟨rfl, rfl⟩))
        go_ret3
        refine ⟨Below.refl _ _, ?_⟩
        rw [HQ.out.1]
        show match readF (sgn s.data.toList).2 with | none => _ | some r => _
        rw [HQ.out.2]
        show Ending.returned _ = Ending.returned (.tuple #[.float .f64 (numF H O X (sgn s.data.toList).1 (s.data.toList.take (s.size - r.rest.length)) r).1, .int .i64 ((s.size - r.rest.length : Nat) : Int), erN (numF H O X (sgn s.data.toList).1 (s.data.toList.take (s.size - r.rest.length)) r).2])
        rw [← HN.out.1, ← HN.out.2.1, ← HN.out.2.2, EQ.out]
        rfl
  | false =>
    by_cases hm : r.man = 0
    · have EQ := Aside0.mk (show numF H O X false T r = ((bits .or .u64 (sgB false) 0).toNat, 0) by unfold numF; rw [if_neg (by rw [hx1]; decide), if_pos hm])
      go_enter Tryz.func119, Tryz.ntmps119
      go_wp2_with (first | (go_at_call 125; refine C.out.mono ?_; rintro e w1 ⟨rfl, v, n, rfl⟩) | (go_at_call 126; refine (CR.out _).mono ?_; rintro e w2 ⟨rfl, rfl⟩) | (go_at_call 134; refine (b2f _).mono ?_; rintro e w3 ⟨rfl, rfl⟩))
      go_ret3
      refine ⟨Below.refl _ _, ?_⟩
      rw [HQ.out.1]
      show match readF (sgn s.data.toList).2 with | none => _ | some r => _
      rw [HQ.out.2]
      show Ending.returned _ = Ending.returned (.tuple #[.float .f64 (numF H O X (sgn s.data.toList).1 (s.data.toList.take (s.size - r.rest.length)) r).1, .int .i64 ((s.size - r.rest.length : Nat) : Int), erN (numF H O X (sgn s.data.toList).1 (s.data.toList.take (s.size - r.rest.length)) r).2])
      rw [← HN.out.1, ← HN.out.2.1, ← HN.out.2.2, EQ.out]
      rfl
    · have qm : (r.man == 0) = false := beq_eq_false_iff_ne.mpr hm
      by_cases h1 : 310 < r.exp
      · have EQ := Aside0.mk (show numF H O X false T r = ((bits .or .u64 (sgB false) 9218868437227405312).toNat, 1) by unfold numF; rw [if_neg (by rw [hx1]; decide), if_neg hm, if_pos h1])
        go_enter Tryz.func119, Tryz.ntmps119
        go_wp2_with (first | (go_at_call 125; refine C.out.mono ?_; rintro e w1 ⟨rfl, v, n, rfl⟩) | (go_at_call 126; refine (CR.out _).mono ?_; rintro e w2 ⟨rfl, rfl⟩) | (go_at_call 134; refine (b2f _).mono ?_; rintro e w3 ⟨rfl, rfl⟩))
        go_ret3
        refine ⟨Below.refl _ _, ?_⟩
        rw [HQ.out.1]
        show match readF (sgn s.data.toList).2 with | none => _ | some r => _
        rw [HQ.out.2]
        show Ending.returned _ = Ending.returned (.tuple #[.float .f64 (numF H O X (sgn s.data.toList).1 (s.data.toList.take (s.size - r.rest.length)) r).1, .int .i64 ((s.size - r.rest.length : Nat) : Int), erN (numF H O X (sgn s.data.toList).1 (s.data.toList.take (s.size - r.rest.length)) r).2])
        rw [← HN.out.1, ← HN.out.2.1, ← HN.out.2.2, EQ.out]
        rfl
      · have h2 : r.exp < -345 := by omega
        have EQ := Aside0.mk (show numF H O X false T r = ((bits .or .u64 (sgB false) 0).toNat, 0) by unfold numF; rw [if_neg (by rw [hx1]; decide), if_neg hm, if_neg h1, if_pos h2])
        go_enter Tryz.func119, Tryz.ntmps119
        go_wp2_with (first | (go_at_call 125; refine C.out.mono ?_; rintro e w1 ⟨rfl, v, n, rfl⟩) | (go_at_call 126; refine (CR.out _).mono ?_; rintro e w2 ⟨rfl, rfl⟩) | (go_at_call 134; refine (b2f _).mono ?_; rintro e w3 ⟨rfl, rfl⟩))
        go_ret3
        refine ⟨Below.refl _ _, ?_⟩
        rw [HQ.out.1]
        show match readF (sgn s.data.toList).2 with | none => _ | some r => _
        rw [HQ.out.2]
        show Ending.returned _ = Ending.returned (.tuple #[.float .f64 (numF H O X (sgn s.data.toList).1 (s.data.toList.take (s.size - r.rest.length)) r).1, .int .i64 ((s.size - r.rest.length : Nat) : Int), erN (numF H O X (sgn s.data.toList).1 (s.data.toList.take (s.size - r.rest.length)) r).2])
        rw [← HN.out.1, ← HN.out.2.1, ← HN.out.2.2, EQ.out]
        rfl
end Go.Proofs.YtlkbhmmelejmjaaGreatDoor.FltAtof
