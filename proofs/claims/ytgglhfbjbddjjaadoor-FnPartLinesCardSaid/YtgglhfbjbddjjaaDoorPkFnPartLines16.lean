/- Parts of the proof of FnPartLines, one behind the other: LnLaw. Each part says ahead of itself what it proves. -/
import Derived.Test.YtgglhfbjbddjjaaDoorPkFnPartLines9
import Derived.Test.YtgglhfbjbddjjaaDoorPkFnPartLines10
import Derived.Test.YtgglhfbjbddjjaaDoorPkFnPartLines15

/- FnPartLines: the law's walk, over what its callees answer. -/
namespace Go.Proofs.YtgglhfbjbddjjaaDoor.LnLaw
open Go.RowKit Go.Proofs.YtgglhfbjbddjjaaDoorW.PrintWords Go.Proofs.YtgglhfbjbddjjaaDoor.PFnPartLines Go.Proofs.YtgglhfbjbddjjaaDoor.Utf Go.Proofs.YtgglhfbjbddjjaaDoor.Runes Go.Proofs.YtgglhfbjbddjjaaDoor.ScBase Go.Proofs.YtgglhfbjbddjjaaDoor.ScQuot
set_option linter.unusedVariables false
set_option linter.unusedSimpArgs false
attribute [local go_sem ↓] Go.wp_at_zero Go.wp_at_succ

/-- The answer of the law. -/
def Bo (r : Bool) (w : World) (e : Ending) (w' : World) : Prop := e = .returned (.bool r) ∧ Below w.heap.size w w'
/-- A question's answer, and draws alone. -/
def Ask (f : Nat) (args : Array Value) (r : Bool) : Prop := ∀ W, Calls Tryd.prog f args W fun e w' => e = .returned (.bool r) ∧ Drawn0 W w'
/-- The scanner tells the token of the text, and how many runes it passed. -/
def Gd (single : Bool) (q : UInt8) (ty : Int) (s t : ByteArray) (w : World) : Prop := ∃ n : Nat, n ≤ 65536 ∧
  (∀ W, Below w.heap.size w W → Calls Tryd.prog 10 #[.string (⟨#[q]⟩ ++ s ++ ⟨#[q]⟩ ++ ⟨#[10]⟩), .bool single] W (fun e w' => ∃ (o : ByteArray) (a b c d f : Int), e = .returned (.tuple #[tokV ty t o a b c d f, .int .i64 ((n + 2 : Nat) : Int), .bool true]) ∧ Below W.heap.size W w')) ∧
  ∃ rs : List Int, runes s s.size 0 = rs ∧ rs.length = n
/-- What a reader answers; when it is good, the scanner's token is told. -/
def RdC (f : Nat) (tell : Bool) (single : Bool) (q : UInt8) (ty : Int) (s : ByteArray) (w : World) : Prop := ∀ W, Below w.heap.size w W → Calls Tryd.prog f #[.string s] W fun e w' => Below W.heap.size W w' ∧ ∃ (t : ByteArray) (k : Int), e = .returned (.tuple #[.string t, .int .i64 k]) ∧ (tell = true → k = 2 → Gd single q ty s t w)
set_option maxRecDepth 100000 in
theorem law_long (s : ByteArray) (single : Bool) (w : World) (hbig : 1000 < s.size) : Calls Tryd.prog 3 #[.string s, .bool single] w (Bo true w) := by
  have n6 : (1000 : Int) < (s.size : Int) := by omega
  by_cases h5 : (2147483647 : Int) < (s.size : Int)
  all_goals
    go_enter Tryd.func3, Tryd.ntmps3
    go_wp2_with fail
    go_ret
    exact ⟨rfl, Below.refl _ _⟩
set_option maxHeartbeats 2000000 in
set_option maxRecDepth 100000 in
theorem law_double (s : ByteArray) (w : World) (r1 r2 r3 r4 : Bool) (hs : s.size ≤ 1000) (C1 : Ask 4 #[.string s, .string ⟨#[85]⟩] r1) (C2 : Ask 5 #[.string s] r2) (C3 : Ask 6 #[.string s] r3) (C4 : Ask 7 #[.string s] r4)
    (CD : r1 = false → r2 = true → r4 = true → RdC 8 true false 34 19 s w) :
    Calls Tryd.prog 3 #[.string s, .bool false] w (Bo true w) := by
  have n5 : ¬ (2147483647 : Int) < (s.size : Int) := by omega
  have n6 : ¬ (1000 : Int) < (s.size : Int) := by omega
  replace C1 := Aside0.mk C1
  replace C2 := Aside0.mk C2
  replace C3 := Aside0.mk C3
  replace C4 := Aside0.mk C4
  replace CD := Aside0.mk CD
  go_enter Tryd.func3, Tryd.ntmps3
  go_wp2_with fail
  refine (C1.out _).mono ?_
  rintro e w1 ⟨rfl, ⟨m1, rfl⟩⟩
  cases r1 with
  | true =>
    go_wp2_with fail
    go_ret
    exact ⟨rfl, (pw_below_drewN (Below.refl _ _) _)⟩
  | false =>
  go_wp2_with fail
  refine (C2.out _).mono ?_
  rintro e w2 ⟨rfl, ⟨m2, rfl⟩⟩
  cases r2 with
  | false =>
    go_wp2_with fail
    go_ret
    exact ⟨rfl, (by repeat (first | exact Below.refl _ _ | apply pw_below_drewN))⟩
  | true =>
  go_wp2_with fail
  refine (C3.out _).mono ?_
  rintro e w3 ⟨rfl, ⟨m3, rfl⟩⟩
  cases r3 with
  | false =>
    go_wp2_with fail
    go_ret
    exact ⟨rfl, (by repeat (first | exact Below.refl _ _ | apply pw_below_drewN))⟩
  | true =>
  go_wp2_with fail
  refine (C4.out _).mono ?_
  rintro e w4 ⟨rfl, ⟨m4, rfl⟩⟩
  cases r4 with
  | false =>
    go_wp2_with fail
    go_ret
    exact ⟨rfl, (by repeat (first | exact Below.refl _ _ | apply pw_below_drewN))⟩
  | true =>
  go_wp2_with fail
  refine (CD.out (by first | rfl | trivial) (by first | rfl | trivial) (by first | rfl | trivial) _ (by repeat (first | exact Below.refl _ _ | apply pw_below_drewN))).mono ?_
  rintro e w5 ⟨b5, t, k, rfl, hk⟩
  have hW : Below w.heap.size w (w.drewN (m1 + m2 + m3 + m4)) := pw_below_drewN (Below.refl _ _) _
  have B5 := Aside0.mk (hW.trans (b5.mono hW.size))
  clear hW
  clear b5
  by_cases h2 : k = 2
  case neg =>
    have q2 : (k != 2) = true := by simpa using h2
    clear h2 hk
    go_wp2_with fail
    go_ret
    exact ⟨rfl, B5.out⟩
  subst h2
  obtain ⟨n, hn, hQ, rs, hru, hrl⟩ := hk rfl rfl
  replace hQ := Aside0.mk hQ
  have hrc := fun wx => run_runes_of_string (P := Tryd.prog) wx 9 32 21 s Tryd.underlying9 Tryd.underlying32 Tryd.underlying21 (by rw [runes_size, hru]; omega)
  rw [runes_size, hru, hrl] at hrc
  have HRC := Aside0.mk hrc
  clear hrc hru hrl hk
  go_wp2_with fail
  refine (hQ.out _ B5.out).mono ?_
  rintro e w6 ⟨o, a, b, c, d, f, rfl, b6⟩
  have B6 := Aside0.mk (B5.out.trans (b6.mono B5.out.size))
  clear b6
  unfold tokV
  go_upto_region 13 with (fail)
  generalize hW : w6.alloc _ = W
  have hw : W.heap[w6.heap.size]? = some (.cells #[.int .i64 19, .int .i64 0, .int .i64 6, .string t, .string o, .string ⟨#[]⟩, .int .i64 a, .int .i64 b, .int .i64 c, .int .i64 d, .int .i64 f, .int .i64 (-1), .int .i64 (-1)] 29) := by rw [← hW]; exact blk_new w6 _
  have hBW : Below w.heap.size w W := by rw [← hW]; exact B6.out.alloc B6.out.size _
  clear hW
  have x0 := blk_cell hw 0
  have x3 := blk_cell hw 3
  simp only [List.getElem?_toArray, List.getElem?_cons_succ, List.getElem?_cons_zero] at x0 x3
  have HW := Aside0.mk hw
  have HBW := Aside0.mk hBW
  clear hw hBW
  have hrc := HRC.out W
  go_wp2_with fail
  go_ret
  exact ⟨rfl, (HBW.out.alloc HBW.out.size _).drew⟩
set_option maxHeartbeats 2000000 in
set_option maxRecDepth 100000 in
theorem law_single (s : ByteArray) (w : World) (r1 r2 r3 r4 r5 : Bool) (hs : s.size ≤ 1000) (C1 : Ask 4 #[.string s, .string ⟨#[85]⟩] r1) (C2 : Ask 5 #[.string s] r2) (C3 : Ask 6 #[.string s] r3) (C4 : Ask 7 #[.string s] r4) (C5 : Ask 4 #[.string s, .string ⟨#[39]⟩] r5)
    (CD : r1 = false → r2 = true → r4 = true → RdC 8 false true 39 18 s w)
    (CS : r1 = false → r2 = true → r4 = true → r5 = false → RdC 9 true true 39 18 s w) :
    Calls Tryd.prog 3 #[.string s, .bool true] w (Bo true w) := by
  have n5 : ¬ (2147483647 : Int) < (s.size : Int) := by omega
  have n6 : ¬ (1000 : Int) < (s.size : Int) := by omega
  replace C1 := Aside0.mk C1
  replace C2 := Aside0.mk C2
  replace C3 := Aside0.mk C3
  replace C4 := Aside0.mk C4
  replace C5 := Aside0.mk C5
  replace CD := Aside0.mk CD
  replace CS := Aside0.mk CS
  go_enter Tryd.func3, Tryd.ntmps3
  go_wp2_with fail
  refine (C1.out _).mono ?_
  rintro e w1 ⟨rfl, ⟨m1, rfl⟩⟩
  cases r1 with
  | true =>
    go_wp2_with fail
    go_ret
    exact ⟨rfl, (pw_below_drewN (Below.refl _ _) _)⟩
  | false =>
  go_wp2_with fail
  refine (C2.out _).mono ?_
  rintro e w2 ⟨rfl, ⟨m2, rfl⟩⟩
  cases r2 with
  | false =>
    go_wp2_with fail
    go_ret
    exact ⟨rfl, (by repeat (first | exact Below.refl _ _ | apply pw_below_drewN))⟩
  | true =>
  go_wp2_with fail
  refine (C3.out _).mono ?_
  rintro e w3 ⟨rfl, ⟨m3, rfl⟩⟩
  cases r3 with
  | false =>
    go_wp2_with fail
    go_ret
    exact ⟨rfl, (by repeat (first | exact Below.refl _ _ | apply pw_below_drewN))⟩
  | true =>
  go_wp2_with fail
  refine (C4.out _).mono ?_
  rintro e w4 ⟨rfl, ⟨m4, rfl⟩⟩
  cases r4 with
  | false =>
    go_wp2_with fail
    go_ret
    exact ⟨rfl, (by repeat (first | exact Below.refl _ _ | apply pw_below_drewN))⟩
  | true =>
  go_wp2_with fail
  refine (C5.out _).mono ?_
  rintro e w4' ⟨rfl, ⟨m5, rfl⟩⟩
  cases r5 with
  | true =>
    go_wp2_with fail
    go_ret
    exact ⟨rfl, (by repeat (first | exact Below.refl _ _ | apply pw_below_drewN))⟩
  | false =>
  go_wp2_with fail
  refine (CD.out (by first | rfl | trivial) (by first | rfl | trivial) (by first | rfl | trivial) _ (by repeat (first | exact Below.refl _ _ | apply pw_below_drewN))).mono ?_
  rintro e w4 ⟨b4, t0, k0, rfl, _⟩
  have hW : Below w.heap.size w (w.drewN (m1 + m2 + m3 + m4 + m5)) := pw_below_drewN (Below.refl _ _) _
  have B4 := Aside0.mk (hW.trans (b4.mono hW.size))
  clear hW b4
  go_wp2_with fail
  refine (CS.out (by first | rfl | trivial) (by first | rfl | trivial) (by first | rfl | trivial) (by first | rfl | trivial) _ B4.out).mono ?_
  rintro e w5 ⟨b5, t, k, rfl, hk⟩
  have B5 := Aside0.mk (B4.out.trans (b5.mono B4.out.size))
  clear b5
  by_cases h2 : k = 2
  case neg =>
    have q2 : (k != 2) = true := by simpa using h2
    clear h2 hk
    go_wp2_with fail
    go_ret
    exact ⟨rfl, B5.out⟩
  subst h2
  obtain ⟨n, hn, hQ, rs, hru, hrl⟩ := hk rfl rfl
  replace hQ := Aside0.mk hQ
  have hrc := fun wx => run_runes_of_string (P := Tryd.prog) wx 9 32 21 s Tryd.underlying9 Tryd.underlying32 Tryd.underlying21 (by rw [runes_size, hru]; omega)
  rw [runes_size, hru, hrl] at hrc
  have HRC := Aside0.mk hrc
  clear hrc hru hrl hk
  go_wp2_with fail
  refine (hQ.out _ B5.out).mono ?_
  rintro e w6 ⟨o, a, b, c, d, f, rfl, b6⟩
  have B6 := Aside0.mk (B5.out.trans (b6.mono B5.out.size))
  clear b6
  unfold tokV
  go_upto_region 13 with (fail)
  generalize hW : w6.alloc _ = W
  have hw : W.heap[w6.heap.size]? = some (.cells #[.int .i64 18, .int .i64 0, .int .i64 6, .string t, .string o, .string ⟨#[]⟩, .int .i64 a, .int .i64 b, .int .i64 c, .int .i64 d, .int .i64 f, .int .i64 (-1), .int .i64 (-1)] 29) := by rw [← hW]; exact blk_new w6 _
  have hBW : Below w.heap.size w W := by rw [← hW]; exact B6.out.alloc B6.out.size _
  clear hW
  have x0 := blk_cell hw 0
  have x3 := blk_cell hw 3
  simp only [List.getElem?_toArray, List.getElem?_cons_succ, List.getElem?_cons_zero] at x0 x3
  have HW := Aside0.mk hw
  have HBW := Aside0.mk hBW
  clear hw hBW
  have hrc := HRC.out W
  go_wp2_with fail
  go_ret
  exact ⟨rfl, (HBW.out.alloc HBW.out.size _).drew⟩
end Go.Proofs.YtgglhfbjbddjjaaDoor.LnLaw
