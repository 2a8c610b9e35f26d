/- Parts of the proof of FnNumberToken, one behind the other: NumAny, NumAll. Each part says ahead of itself what it proves. -/
import Derived.Test.YtlkbhmmelejmjaaGreatDoorPkFnNumberToken8
import Derived.Deep.RegionHeld3
import Derived.Deep.DrawnRows

/- Numbers: toNumber at any text, way by way (printed by wip/tools/toany.py). -/
namespace Go.Proofs.YtlkbhmmelejmjaaGreatDoor.NumAny
open Go.RowKit Go.Proofs.YtlkbhmmelejmjaaGreatDoorW.PrintWords Go.Proofs.YtlkbhmmelejmjaaGreatDoor.NumKnown Go.Proofs.YtlkbhmmelejmjaaGreatDoor.NumPure Go.Proofs.YtlkbhmmelejmjaaGreatDoor.NumStrip Go.Proofs.YtlkbhmmelejmjaaGreatDoor.NumErr
set_option linter.unusedVariables false
set_option linter.unusedSimpArgs false
attribute [local go_sem ↓] Go.wp_at_zero Go.wp_at_succ

def Bo (b : Bool) (w : World) (e : Ending) (w' : World) : Prop := e = .returned (.bool b) ∧ Below w.heap.size w w'
def Str (t : ByteArray) (w : World) (e : Ending) (w' : World) : Prop := e = .returned (.string t) ∧ Below w.heap.size w w'
theorem hp_any {s p : ByteArray} {b : Bool} (h : hp s p = b) (w : World) : Calls Tryz.prog 89 #[.string s, .string p] w (Bo b w) :=
  (strings_HasPrefix.calls s p b w (by rw [HP_f, h])).mono fun e w' hh => ⟨hh.1, hh.2.below⟩
theorem tp_any {s p t : ByteArray} (h : tp s p = t) (w : World) : Calls Tryz.prog 92 #[.string s, .string p] w (Str t w) :=
  (strings_TrimPrefix.calls s p t w (by rw [TP_f, h])).mono fun e w' hh => ⟨hh.1, hh.2.below⟩
theorem sp_any {s t : ByteArray} (h : strip s = t) (hs : s.size ≤ 140737488355327) (w : World) : Calls Tryz.prog 91 #[.string s, .string ⟨#[95]⟩, .string ⟨#[]⟩] w (Str t w) :=
  (strip_any s hs w).mono fun e w' hh => ⟨by rw [hh.1, h], hh.2⟩

/-- What a text is: no number, an error of a kind, a number with its type and text. -/
inductive Nr where
  | none
  | err (k : Nat)
  | num (typ : ByteArray) (v : Value) (text : ByteArray)
def outN (k : Nat) (typ : ByteArray) (v : Value) (text : ByteArray) : Nr := if k = 0 then .num typ v text else .err k
theorem outN_ok {k : Nat} (h : k = 0) (typ : ByteArray) (v : Value) (text : ByteArray) : outN k typ v text = .num typ v text := if_pos h
theorem outN_err {k : Nat} (h : k ≠ 0) (typ : ByteArray) (v : Value) (text : ByteArray) : outN k typ v text = .err k := if_neg h
def ToQ (EV : Nat → Value) (b : Nat) (e : Ending) (w' : World) : Nr → Prop
  | .none => e = .returned (.tuple #[.pointer none, .nilIface])
  | .err k => ∃ N fn s, e = .returned (.tuple #[.pointer none, .iface 113 (.pointer (some ⟨N, 0, none⟩))]) ∧ b ≤ N ∧ w'.heap[N]? = some (.cells #[.string fn, .string s, EV k] 116 (0, 0))
  | .num typ v text => ∃ p, e = .returned (.tuple #[.pointer (some ⟨p, 0, none⟩), .nilIface]) ∧ b ≤ p ∧ w'.heap[p]? = some (.cells #[.string typ, v, .string text] 64 (0, 0))
theorem toQ_ok {EV : Nat → Value} {b k : Nat} {e : Ending} {w' : World} {typ text : ByteArray} {v : Value} (hk : k = 0) (p : Nat) (he : e = .returned (.tuple #[.pointer (some ⟨p, 0, none⟩), .nilIface])) (hb : b ≤ p) (hc : w'.heap[p]? = some (.cells #[.string typ, v, .string text] 64 (0, 0))) : ToQ EV b e w' (outN k typ v text) := by
  rw [outN_ok hk]; exact ⟨p, he, hb, hc⟩
theorem toQ_err {EV : Nat → Value} {b k : Nat} {e : Ending} {w' : World} {typ text : ByteArray} {v : Value} (hk : k ≠ 0) (N : Nat) (fn s : ByteArray) (he : e = .returned (.tuple #[.pointer none, .iface 113 (.pointer (some ⟨N, 0, none⟩))])) (hb : b ≤ N) (hc : w'.heap[N]? = some (.cells #[.string fn, .string s, EV k] 116 (0, 0))) : ToQ EV b e w' (outN k typ v text) := by
  rw [outN_err hk]; exact ⟨N, fn, s, he, hb, hc⟩
def ToP (EV : Nat → Value) (r : Nr) (w : World) (e : Ending) (w' : World) : Prop := Below w.heap.size w w' ∧ ToQ EV w.heap.size e w' r

set_option maxHeartbeats 8000000 in
set_option maxRecDepth 100000 in
theorem to_hex_pos (EV : Nat → Value) (s s1 s2 n r : ByteArray) (h0 : s.size ≠ 0) (hsz : s.size ≤ 140737488351232) (hus : hp s ⟨#[95]⟩ = false) (d : Nat) (hd : d ≤ 1) (hdot : cnt 46 s = d) (hneg : hp s ⟨#[45]⟩ = false) (hplus : tp s ⟨#[43]⟩ = s1) (hmin : tp s1 ⟨#[45]⟩ = s2) (hs2 : s2.size ≤ 140737488351232) (hn : strip s2 = n) (hhex : hp n ⟨#[48, 120]⟩ = true) (hr : tp n ⟨#[48, 120]⟩ = r) (okv : Value) (k : Nat) (w : World) (HP : ∀ W, Below w.heap.size w W → Calls Tryz.prog 94 #[.string r, .int .i64 16, .int .i64 64] W (NumE okv k EV W)) : Calls Tryz.prog 76 #[.string s] w (ToP EV (outN k ⟨#[104, 101, 120]⟩ (.iface 34 okv) r) w) := by
  have HC : Aside0 (∀ W, Calls Tryz.prog 90 #[.string s, .string ⟨#[46]⟩] W (Cnt (d : Int) W)) := ⟨fun W => (count_one s 46 (by omega) W).mono fun e w' h => ⟨by rw [h.1, hdot], h.2⟩⟩
  have HPC := Aside0.mk HP
  have hse : ((s.size : Int) == 0) = false := beq_eq_false_iff_ne.mpr (by omega)
  have A0 := Aside0.mk (fun W => hp_any hus W)
  have A2 := Aside0.mk (fun W => hp_any hneg W)
  have A3 := Aside0.mk (fun W => tp_any hplus W)
  have A4 := Aside0.mk (fun W => tp_any hmin W)
  have A5 := Aside0.mk (fun W => sp_any hn (by omega) W)
  have A6 := Aside0.mk (fun W => hp_any hhex W)
  have A7 := Aside0.mk (fun W => tp_any hr W)
  have hd1 : ¬ (1 : Int) < (d : Int) := by omega
  clear HP hus hdot hneg hplus hmin hn hs2 h0 hhex hr
  go_enter Tryz.func76, Tryz.ntmps76
  have B0 := Aside0.mk (Below.refl w.heap.size w)
  go_wp2_with fail
  refine (A0.out _).mono ?_
  rintro e w1 ⟨rfl, hb1⟩
  have B1 := Aside0.mk (B0.out.trans (hb1.mono B0.out.size))
  clear hb1
  go_wp2_with fail
  refine (HC.out _).mono ?_
  rintro e w101 ⟨rfl, rfl⟩
  go_wp2_with fail
  refine (A2.out _).mono ?_
  rintro e w2 ⟨rfl, hb2⟩
  have B2 := Aside0.mk (B1.out.trans (hb2.mono B1.out.size))
  clear hb2
  go_wp2_with fail
  refine (A3.out _).mono ?_
  rintro e w3 ⟨rfl, hb3⟩
  have B3 := Aside0.mk (B2.out.trans (hb3.mono B2.out.size))
  clear hb3
  go_wp2_with fail
  refine (A4.out _).mono ?_
  rintro e w4 ⟨rfl, hb4⟩
  have B4 := Aside0.mk (B3.out.trans (hb4.mono B3.out.size))
  clear hb4
  go_wp2_with fail
  refine (A5.out _).mono ?_
  rintro e w5 ⟨rfl, hb5⟩
  have B5 := Aside0.mk (B4.out.trans (hb5.mono B4.out.size))
  clear hb5
  go_wp2_with fail
  refine (A6.out _).mono ?_
  rintro e w6 ⟨rfl, hb6⟩
  have B6 := Aside0.mk (B5.out.trans (hb6.mono B5.out.size))
  clear hb6
  go_wp2_with fail
  refine (A7.out _).mono ?_
  rintro e w7 ⟨rfl, hb7⟩
  have B7 := Aside0.mk (B6.out.trans (hb7.mono B6.out.size))
  clear hb7
  go_wp2_with fail
  refine (HPC.out _ B7.out).mono ?_
  rintro e w8 ⟨hb8, h8⟩
  have B8 := Aside0.mk (B7.out.trans (hb8.mono B7.out.size))
  rcases h8 with ⟨hk, rfl⟩ | ⟨hk, v, N, fn, ss, rfl, hN, hblk⟩
  · have HK := Aside0.mk hk
    clear hk hb8
    go_wp2_with fail
    go_ret2
    exact ⟨B8.out.alloc B8.out.size _, toQ_ok HK.out _ rfl B8.out.size (blk_new _ _)⟩
  · have HK := Aside0.mk hk
    have HN := Aside0.mk hN
    have HBK := Aside0.mk hblk
    clear hk hN hblk hb8
    go_wp2_with fail
    go_ret2
    exact ⟨B8.out, toQ_err HK.out N fn ss rfl (Nat.le_trans B7.out.size HN.out) HBK.out⟩

set_option maxHeartbeats 8000000 in
set_option maxRecDepth 100000 in
theorem to_hex_neg (EV : Nat → Value) (s s1 s2 n r : ByteArray) (h0 : s.size ≠ 0) (hsz : s.size ≤ 140737488351232) (hus : hp s ⟨#[95]⟩ = false) (d : Nat) (hd : d ≤ 1) (hdot : cnt 46 s = d) (hneg : hp s ⟨#[45]⟩ = true) (hplus : tp s ⟨#[43]⟩ = s1) (hmin : tp s1 ⟨#[45]⟩ = s2) (hs2 : s2.size ≤ 140737488351232) (hn : strip s2 = n) (hhex : hp n ⟨#[48, 120]⟩ = true) (hr : tp n ⟨#[48, 120]⟩ = r) (hnz : r.size ≤ 140737488351232) (okv : Value) (k : Nat) (w : World) (HP : ∀ W, Below w.heap.size w W → Calls Tryz.prog 93 #[.string (⟨#[45]⟩ ++ r), .int .i64 16, .int .i64 64] W (NumE okv k EV W)) : Calls Tryz.prog 76 #[.string s] w (ToP EV (outN k ⟨#[104, 101, 120]⟩ (.iface 2 okv) (⟨#[45]⟩ ++ r)) w) := by
  have HC : Aside0 (∀ W, Calls Tryz.prog 90 #[.string s, .string ⟨#[46]⟩] W (Cnt (d : Int) W)) := ⟨fun W => (count_one s 46 (by omega) W).mono fun e w' h => ⟨by rw [h.1, hdot], h.2⟩⟩
  have HPC := Aside0.mk HP
  have hse : ((s.size : Int) == 0) = false := beq_eq_false_iff_ne.mpr (by omega)
  have A0 := Aside0.mk (fun W => hp_any hus W)
  have A2 := Aside0.mk (fun W => hp_any hneg W)
  have A3 := Aside0.mk (fun W => tp_any hplus W)
  have A4 := Aside0.mk (fun W => tp_any hmin W)
  have A5 := Aside0.mk (fun W => sp_any hn (by omega) W)
  have A6 := Aside0.mk (fun W => hp_any hhex W)
  have A7 := Aside0.mk (fun W => tp_any hr W)
  have hd1 : ¬ (1 : Int) < (d : Int) := by omega
  clear HP hus hdot hneg hplus hmin hn hs2 h0 hhex hr
  go_enter Tryz.func76, Tryz.ntmps76
  have B0 := Aside0.mk (Below.refl w.heap.size w)
  go_wp2_with fail
  refine (A0.out _).mono ?_
  rintro e w1 ⟨rfl, hb1⟩
  have B1 := Aside0.mk (B0.out.trans (hb1.mono B0.out.size))
  clear hb1
  go_wp2_with fail
  refine (HC.out _).mono ?_
  rintro e w101 ⟨rfl, rfl⟩
  go_wp2_with fail
  refine (A2.out _).mono ?_
  rintro e w2 ⟨rfl, hb2⟩
  have B2 := Aside0.mk (B1.out.trans (hb2.mono B1.out.size))
  clear hb2
  go_wp2_with fail
  refine (A3.out _).mono ?_
  rintro e w3 ⟨rfl, hb3⟩
  have B3 := Aside0.mk (B2.out.trans (hb3.mono B2.out.size))
  clear hb3
  go_wp2_with fail
  refine (A4.out _).mono ?_
  rintro e w4 ⟨rfl, hb4⟩
  have B4 := Aside0.mk (B3.out.trans (hb4.mono B3.out.size))
  clear hb4
  go_wp2_with fail
  refine (A5.out _).mono ?_
  rintro e w5 ⟨rfl, hb5⟩
  have B5 := Aside0.mk (B4.out.trans (hb5.mono B4.out.size))
  clear hb5
  go_wp2_with fail
  refine (A6.out _).mono ?_
  rintro e w6 ⟨rfl, hb6⟩
  have B6 := Aside0.mk (B5.out.trans (hb6.mono B5.out.size))
  clear hb6
  go_wp2_with fail
  refine (A7.out _).mono ?_
  rintro e w7 ⟨rfl, hb7⟩
  have B7 := Aside0.mk (B6.out.trans (hb7.mono B6.out.size))
  clear hb7
  go_wp2_with fail
  refine (HPC.out _ B7.out).mono ?_
  rintro e w8 ⟨hb8, h8⟩
  have B8 := Aside0.mk (B7.out.trans (hb8.mono B7.out.size))
  rcases h8 with ⟨hk, rfl⟩ | ⟨hk, v, N, fn, ss, rfl, hN, hblk⟩
  · have HK := Aside0.mk hk
    clear hk hb8
    go_wp2_with fail
    go_ret2
    exact ⟨B8.out.alloc B8.out.size _, toQ_ok HK.out _ rfl B8.out.size (blk_new _ _)⟩
  · have HK := Aside0.mk hk
    have HN := Aside0.mk hN
    have HBK := Aside0.mk hblk
    clear hk hN hblk hb8
    go_wp2_with fail
    go_ret2
    exact ⟨B8.out, toQ_err HK.out N fn ss rfl (Nat.le_trans B7.out.size HN.out) HBK.out⟩

set_option maxHeartbeats 8000000 in
set_option maxRecDepth 100000 in
theorem to_oct_pos (EV : Nat → Value) (s s1 s2 n r : ByteArray) (h0 : s.size ≠ 0) (hsz : s.size ≤ 140737488351232) (hus : hp s ⟨#[95]⟩ = false) (d : Nat) (hd : d ≤ 1) (hdot : cnt 46 s = d) (hneg : hp s ⟨#[45]⟩ = false) (hplus : tp s ⟨#[43]⟩ = s1) (hmin : tp s1 ⟨#[45]⟩ = s2) (hs2 : s2.size ≤ 140737488351232) (hn : strip s2 = n) (hhex : hp n ⟨#[48, 120]⟩ = false) (hoct : hp n ⟨#[48, 111]⟩ = true) (hr : tp n ⟨#[48, 111]⟩ = r) (okv : Value) (k : Nat) (w : World) (HP : ∀ W, Below w.heap.size w W → Calls Tryz.prog 94 #[.string r, .int .i64 8, .int .i64 64] W (NumE okv k EV W)) : Calls Tryz.prog 76 #[.string s] w (ToP EV (outN k ⟨#[111, 99, 116, 101, 116]⟩ (.iface 34 okv) r) w) := by
  have HC : Aside0 (∀ W, Calls Tryz.prog 90 #[.string s, .string ⟨#[46]⟩] W (Cnt (d : Int) W)) := ⟨fun W => (count_one s 46 (by omega) W).mono fun e w' h => ⟨by rw [h.1, hdot], h.2⟩⟩
  have HPC := Aside0.mk HP
  have hse : ((s.size : Int) == 0) = false := beq_eq_false_iff_ne.mpr (by omega)
  have A0 := Aside0.mk (fun W => hp_any hus W)
  have A2 := Aside0.mk (fun W => hp_any hneg W)
  have A3 := Aside0.mk (fun W => tp_any hplus W)
  have A4 := Aside0.mk (fun W => tp_any hmin W)
  have A5 := Aside0.mk (fun W => sp_any hn (by omega) W)
  have A6 := Aside0.mk (fun W => hp_any hhex W)
  have A7 := Aside0.mk (fun W => hp_any hoct W)
  have A8 := Aside0.mk (fun W => tp_any hr W)
  have hd1 : ¬ (1 : Int) < (d : Int) := by omega
  clear HP hus hdot hneg hplus hmin hn hs2 h0 hhex hoct hr
  go_enter Tryz.func76, Tryz.ntmps76
  have B0 := Aside0.mk (Below.refl w.heap.size w)
  go_wp2_with fail
  refine (A0.out _).mono ?_
  rintro e w1 ⟨rfl, hb1⟩
  have B1 := Aside0.mk (B0.out.trans (hb1.mono B0.out.size))
  clear hb1
  go_wp2_with fail
  refine (HC.out _).mono ?_
  rintro e w101 ⟨rfl, rfl⟩
  go_wp2_with fail
  refine (A2.out _).mono ?_
  rintro e w2 ⟨rfl, hb2⟩
  have B2 := Aside0.mk (B1.out.trans (hb2.mono B1.out.size))
  clear hb2
  go_wp2_with fail
  refine (A3.out _).mono ?_
  rintro e w3 ⟨rfl, hb3⟩
  have B3 := Aside0.mk (B2.out.trans (hb3.mono B2.out.size))
  clear hb3
  go_wp2_with fail
  refine (A4.out _).mono ?_
  rintro e w4 ⟨rfl, hb4⟩
  have B4 := Aside0.mk (B3.out.trans (hb4.mono B3.out.size))
  clear hb4
  go_wp2_with fail
  refine (A5.out _).mono ?_
  rintro e w5 ⟨rfl, hb5⟩
  have B5 := Aside0.mk (B4.out.trans (hb5.mono B4.out.size))
  clear hb5
  go_wp2_with fail
  refine (A6.out _).mono ?_
  rintro e w6 ⟨rfl, hb6⟩
  have B6 := Aside0.mk (B5.out.trans (hb6.mono B5.out.size))
  clear hb6
  go_wp2_with fail
  refine (A7.out _).mono ?_
  rintro e w7 ⟨rfl, hb7⟩
  have B7 := Aside0.mk (B6.out.trans (hb7.mono B6.out.size))
  clear hb7
  go_wp2_with fail
  refine (A8.out _).mono ?_
  rintro e w8 ⟨rfl, hb8⟩
  have B8 := Aside0.mk (B7.out.trans (hb8.mono B7.out.size))
  clear hb8
  go_wp2_with fail
  refine (HPC.out _ B8.out).mono ?_
  rintro e w9 ⟨hb9, h9⟩
  have B9 := Aside0.mk (B8.out.trans (hb9.mono B8.out.size))
  rcases h9 with ⟨hk, rfl⟩ | ⟨hk, v, N, fn, ss, rfl, hN, hblk⟩
  · have HK := Aside0.mk hk
    clear hk hb9
    go_wp2_with fail
    go_ret2
    exact ⟨B9.out.alloc B9.out.size _, toQ_ok HK.out _ rfl B9.out.size (blk_new _ _)⟩
  · have HK := Aside0.mk hk
    have HN := Aside0.mk hN
    have HBK := Aside0.mk hblk
    clear hk hN hblk hb9
    go_wp2_with fail
    go_ret2
    exact ⟨B9.out, toQ_err HK.out N fn ss rfl (Nat.le_trans B8.out.size HN.out) HBK.out⟩

set_option maxHeartbeats 8000000 in
set_option maxRecDepth 100000 in
theorem to_oct_neg (EV : Nat → Value) (s s1 s2 n r : ByteArray) (h0 : s.size ≠ 0) (hsz : s.size ≤ 140737488351232) (hus : hp s ⟨#[95]⟩ = false) (d : Nat) (hd : d ≤ 1) (hdot : cnt 46 s = d) (hneg : hp s ⟨#[45]⟩ = true) (hplus : tp s ⟨#[43]⟩ = s1) (hmin : tp s1 ⟨#[45]⟩ = s2) (hs2 : s2.size ≤ 140737488351232) (hn : strip s2 = n) (hhex : hp n ⟨#[48, 120]⟩ = false) (hoct : hp n ⟨#[48, 111]⟩ = true) (hr : tp n ⟨#[48, 111]⟩ = r) (hnz : r.size ≤ 140737488351232) (okv : Value) (k : Nat) (w : World) (HP : ∀ W, Below w.heap.size w W → Calls Tryz.prog 93 #[.string (⟨#[45]⟩ ++ r), .int .i64 8, .int .i64 64] W (NumE okv k EV W)) : Calls Tryz.prog 76 #[.string s] w (ToP EV (outN k ⟨#[111, 99, 116, 101, 116]⟩ (.iface 2 okv) (⟨#[45]⟩ ++ r)) w) := by
  have HC : Aside0 (∀ W, Calls Tryz.prog 90 #[.string s, .string ⟨#[46]⟩] W (Cnt (d : Int) W)) := ⟨fun W => (count_one s 46 (by omega) W).mono fun e w' h => ⟨by rw [h.1, hdot], h.2⟩⟩
  have HPC := Aside0.mk HP
  have hse : ((s.size : Int) == 0) = false := beq_eq_false_iff_ne.mpr (by omega)
  have A0 := Aside0.mk (fun W => hp_any hus W)
  have A2 := Aside0.mk (fun W => hp_any hneg W)
  have A3 := Aside0.mk (fun W => tp_any hplus W)
  have A4 := Aside0.mk (fun W => tp_any hmin W)
  have A5 := Aside0.mk (fun W => sp_any hn (by omega) W)
  have A6 := Aside0.mk (fun W => hp_any hhex W)
  have A7 := Aside0.mk (fun W => hp_any hoct W)
  have A8 := Aside0.mk (fun W => tp_any hr W)
  have hd1 : ¬ (1 : Int) < (d : Int) := by omega
  clear HP hus hdot hneg hplus hmin hn hs2 h0 hhex hoct hr
  go_enter Tryz.func76, Tryz.ntmps76
  have B0 := Aside0.mk (Below.refl w.heap.size w)
  go_wp2_with fail
  refine (A0.out _).mono ?_
  rintro e w1 ⟨rfl, hb1⟩
  have B1 := Aside0.mk (B0.out.trans (hb1.mono B0.out.size))
  clear hb1
  go_wp2_with fail
  refine (HC.out _).mono ?_
  rintro e w101 ⟨rfl, rfl⟩
  go_wp2_with fail
  refine (A2.out _).mono ?_
  rintro e w2 ⟨rfl, hb2⟩
  have B2 := Aside0.mk (B1.out.trans (hb2.mono B1.out.size))
  clear hb2
  go_wp2_with fail
  refine (A3.out _).mono ?_
  rintro e w3 ⟨rfl, hb3⟩
  have B3 := Aside0.mk (B2.out.trans (hb3.mono B2.out.size))
  clear hb3
  go_wp2_with fail
  refine (A4.out _).mono ?_
  rintro e w4 ⟨rfl, hb4⟩
  have B4 := Aside0.mk (B3.out.trans (hb4.mono B3.out.size))
  clear hb4
  go_wp2_with fail
  refine (A5.out _).mono ?_
  rintro e w5 ⟨rfl, hb5⟩
  have B5 := Aside0.mk (B4.out.trans (hb5.mono B4.out.size))
  clear hb5
  go_wp2_with fail
  refine (A6.out _).mono ?_
  rintro e w6 ⟨rfl, hb6⟩
  have B6 := Aside0.mk (B5.out.trans (hb6.mono B5.out.size))
  clear hb6
  go_wp2_with fail
  refine (A7.out _).mono ?_
  rintro e w7 ⟨rfl, hb7⟩
  have B7 := Aside0.mk (B6.out.trans (hb7.mono B6.out.size))
  clear hb7
  go_wp2_with fail
  refine (A8.out _).mono ?_
  rintro e w8 ⟨rfl, hb8⟩
  have B8 := Aside0.mk (B7.out.trans (hb8.mono B7.out.size))
  clear hb8
  go_wp2_with fail
  refine (HPC.out _ B8.out).mono ?_
  rintro e w9 ⟨hb9, h9⟩
  have B9 := Aside0.mk (B8.out.trans (hb9.mono B8.out.size))
  rcases h9 with ⟨hk, rfl⟩ | ⟨hk, v, N, fn, ss, rfl, hN, hblk⟩
  · have HK := Aside0.mk hk
    clear hk hb9
    go_wp2_with fail
    go_ret2
    exact ⟨B9.out.alloc B9.out.size _, toQ_ok HK.out _ rfl B9.out.size (blk_new _ _)⟩
  · have HK := Aside0.mk hk
    have HN := Aside0.mk hN
    have HBK := Aside0.mk hblk
    clear hk hN hblk hb9
    go_wp2_with fail
    go_ret2
    exact ⟨B9.out, toQ_err HK.out N fn ss rfl (Nat.le_trans B8.out.size HN.out) HBK.out⟩

set_option maxHeartbeats 8000000 in
set_option maxRecDepth 100000 in
theorem to_bin_pos (EV : Nat → Value) (s s1 s2 n r : ByteArray) (h0 : s.size ≠ 0) (hsz : s.size ≤ 140737488351232) (hus : hp s ⟨#[95]⟩ = false) (d : Nat) (hd : d ≤ 1) (hdot : cnt 46 s = d) (hneg : hp s ⟨#[45]⟩ = false) (hplus : tp s ⟨#[43]⟩ = s1) (hmin : tp s1 ⟨#[45]⟩ = s2) (hs2 : s2.size ≤ 140737488351232) (hn : strip s2 = n) (hhex : hp n ⟨#[48, 120]⟩ = false) (hoct : hp n ⟨#[48, 111]⟩ = false) (hbin : hp n ⟨#[48, 98]⟩ = true) (hr : tp n ⟨#[48, 98]⟩ = r) (okv : Value) (k : Nat) (w : World) (HP : ∀ W, Below w.heap.size w W → Calls Tryz.prog 94 #[.string r, .int .i64 2, .int .i64 64] W (NumE okv k EV W)) : Calls Tryz.prog 76 #[.string s] w (ToP EV (outN k ⟨#[98, 105, 110, 97, 114, 121]⟩ (.iface 34 okv) r) w) := by
  have HC : Aside0 (∀ W, Calls Tryz.prog 90 #[.string s, .string ⟨#[46]⟩] W (Cnt (d : Int) W)) := ⟨fun W => (count_one s 46 (by omega) W).mono fun e w' h => ⟨by rw [h.1, hdot], h.2⟩⟩
  have HPC := Aside0.mk HP
  have hse : ((s.size : Int) == 0) = false := beq_eq_false_iff_ne.mpr (by omega)
  have A0 := Aside0.mk (fun W => hp_any hus W)
  have A2 := Aside0.mk (fun W => hp_any hneg W)
  have A3 := Aside0.mk (fun W => tp_any hplus W)
  have A4 := Aside0.mk (fun W => tp_any hmin W)
  have A5 := Aside0.mk (fun W => sp_any hn (by omega) W)
  have A6 := Aside0.mk (fun W => hp_any hhex W)
  have A7 := Aside0.mk (fun W => hp_any hoct W)
  have A8 := Aside0.mk (fun W => hp_any hbin W)
  have A9 := Aside0.mk (fun W => tp_any hr W)
  have hd1 : ¬ (1 : Int) < (d : Int) := by omega
  clear HP hus hdot hneg hplus hmin hn hs2 h0 hhex hoct hbin hr
  go_enter Tryz.func76, Tryz.ntmps76
  have B0 := Aside0.mk (Below.refl w.heap.size w)
  go_wp2_with fail
  refine (A0.out _).mono ?_
  rintro e w1 ⟨rfl, hb1⟩
  have B1 := Aside0.mk (B0.out.trans (hb1.mono B0.out.size))
  clear hb1
  go_wp2_with fail
  refine (HC.out _).mono ?_
  rintro e w101 ⟨rfl, rfl⟩
  go_wp2_with fail
  refine (A2.out _).mono ?_
  rintro e w2 ⟨rfl, hb2⟩
  have B2 := Aside0.mk (B1.out.trans (hb2.mono B1.out.size))
  clear hb2
  go_wp2_with fail
  refine (A3.out _).mono ?_
  rintro e w3 ⟨rfl, hb3⟩
  have B3 := Aside0.mk (B2.out.trans (hb3.mono B2.out.size))
  clear hb3
  go_wp2_with fail
  refine (A4.out _).mono ?_
  rintro e w4 ⟨rfl, hb4⟩
  have B4 := Aside0.mk (B3.out.trans (hb4.mono B3.out.size))
  clear hb4
  go_wp2_with fail
  refine (A5.out _).mono ?_
  rintro e w5 ⟨rfl, hb5⟩
  have B5 := Aside0.mk (B4.out.trans (hb5.mono B4.out.size))
  clear hb5
  go_wp2_with fail
  refine (A6.out _).mono ?_
  rintro e w6 ⟨rfl, hb6⟩
  have B6 := Aside0.mk (B5.out.trans (hb6.mono B5.out.size))
  clear hb6
  go_wp2_with fail
  refine (A7.out _).mono ?_
  rintro e w7 ⟨rfl, hb7⟩
  have B7 := Aside0.mk (B6.out.trans (hb7.mono B6.out.size))
  clear hb7
  go_wp2_with fail
  refine (A8.out _).mono ?_
  rintro e w8 ⟨rfl, hb8⟩
  have B8 := Aside0.mk (B7.out.trans (hb8.mono B7.out.size))
  clear hb8
  go_wp2_with fail
  refine (A9.out _).mono ?_
  rintro e w9 ⟨rfl, hb9⟩
  have B9 := Aside0.mk (B8.out.trans (hb9.mono B8.out.size))
  clear hb9
  go_wp2_with fail
  refine (HPC.out _ B9.out).mono ?_
  rintro e w10 ⟨hb10, h10⟩
  have B10 := Aside0.mk (B9.out.trans (hb10.mono B9.out.size))
  rcases h10 with ⟨hk, rfl⟩ | ⟨hk, v, N, fn, ss, rfl, hN, hblk⟩
  · have HK := Aside0.mk hk
    clear hk hb10
    go_wp2_with fail
    go_ret2
    exact ⟨B10.out.alloc B10.out.size _, toQ_ok HK.out _ rfl B10.out.size (blk_new _ _)⟩
  · have HK := Aside0.mk hk
    have HN := Aside0.mk hN
    have HBK := Aside0.mk hblk
    clear hk hN hblk hb10
    go_wp2_with fail
    go_ret2
    exact ⟨B10.out, toQ_err HK.out N fn ss rfl (Nat.le_trans B9.out.size HN.out) HBK.out⟩

set_option maxHeartbeats 8000000 in
set_option maxRecDepth 100000 in
theorem to_bin_neg (EV : Nat → Value) (s s1 s2 n r : ByteArray) (h0 : s.size ≠ 0) (hsz : s.size ≤ 140737488351232) (hus : hp s ⟨#[95]⟩ = false) (d : Nat) (hd : d ≤ 1) (hdot : cnt 46 s = d) (hneg : hp s ⟨#[45]⟩ = true) (hplus : tp s ⟨#[43]⟩ = s1) (hmin : tp s1 ⟨#[45]⟩ = s2) (hs2 : s2.size ≤ 140737488351232) (hn : strip s2 = n) (hhex : hp n ⟨#[48, 120]⟩ = false) (hoct : hp n ⟨#[48, 111]⟩ = false) (hbin : hp n ⟨#[48, 98]⟩ = true) (hr : tp n ⟨#[48, 98]⟩ = r) (hnz : r.size ≤ 140737488351232) (okv : Value) (k : Nat) (w : World) (HP : ∀ W, Below w.heap.size w W → Calls Tryz.prog 93 #[.string (⟨#[45]⟩ ++ r), .int .i64 2, .int .i64 64] W (NumE okv k EV W)) : Calls Tryz.prog 76 #[.string s] w (ToP EV (outN k ⟨#[98, 105, 110, 97, 114, 121]⟩ (.iface 2 okv) (⟨#[45]⟩ ++ r)) w) := by
  have HC : Aside0 (∀ W, Calls Tryz.prog 90 #[.string s, .string ⟨#[46]⟩] W (Cnt (d : Int) W)) := ⟨fun W => (count_one s 46 (by omega) W).mono fun e w' h => ⟨by rw [h.1, hdot], h.2⟩⟩
  have HPC := Aside0.mk HP
  have hse : ((s.size : Int) == 0) = false := beq_eq_false_iff_ne.mpr (by omega)
  have A0 := Aside0.mk (fun W => hp_any hus W)
  have A2 := Aside0.mk (fun W => hp_any hneg W)
  have A3 := Aside0.mk (fun W => tp_any hplus W)
  have A4 := Aside0.mk (fun W => tp_any hmin W)
  have A5 := Aside0.mk (fun W => sp_any hn (by omega) W)
  have A6 := Aside0.mk (fun W => hp_any hhex W)
  have A7 := Aside0.mk (fun W => hp_any hoct W)
  have A8 := Aside0.mk (fun W => hp_any hbin W)
  have A9 := Aside0.mk (fun W => tp_any hr W)
  have hd1 : ¬ (1 : Int) < (d : Int) := by omega
  clear HP hus hdot hneg hplus hmin hn hs2 h0 hhex hoct hbin hr
  go_enter Tryz.func76, Tryz.ntmps76
  have B0 := Aside0.mk (Below.refl w.heap.size w)
  go_wp2_with fail
  refine (A0.out _).mono ?_
  rintro e w1 ⟨rfl, hb1⟩
  have B1 := Aside0.mk (B0.out.trans (hb1.mono B0.out.size))
  clear hb1
  go_wp2_with fail
  refine (HC.out _).mono ?_
  rintro e w101 ⟨rfl, rfl⟩
  go_wp2_with fail
  refine (A2.out _).mono ?_
  rintro e w2 ⟨rfl, hb2⟩
  have B2 := Aside0.mk (B1.out.trans (hb2.mono B1.out.size))
  clear hb2
  go_wp2_with fail
  refine (A3.out _).mono ?_
  rintro e w3 ⟨rfl, hb3⟩
  have B3 := Aside0.mk (B2.out.trans (hb3.mono B2.out.size))
  clear hb3
  go_wp2_with fail
  refine (A4.out _).mono ?_
  rintro e w4 ⟨rfl, hb4⟩
  have B4 := Aside0.mk (B3.out.trans (hb4.mono B3.out.size))
  clear hb4
  go_wp2_with fail
  refine (A5.out _).mono ?_
  rintro e w5 ⟨rfl, hb5⟩
  have B5 := Aside0.mk (B4.out.trans (hb5.mono B4.out.size))
  clear hb5
  go_wp2_with fail
  refine (A6.out _).mono ?_
  rintro e w6 ⟨rfl, hb6⟩
  have B6 := Aside0.mk (B5.out.trans (hb6.mono B5.out.size))
  clear hb6
  go_wp2_with fail
  refine (A7.out _).mono ?_
  rintro e w7 ⟨rfl, hb7⟩
  have B7 := Aside0.mk (B6.out.trans (hb7.mono B6.out.size))
  clear hb7
  go_wp2_with fail
  refine (A8.out _).mono ?_
  rintro e w8 ⟨rfl, hb8⟩
  have B8 := Aside0.mk (B7.out.trans (hb8.mono B7.out.size))
  clear hb8
  go_wp2_with fail
  refine (A9.out _).mono ?_
  rintro e w9 ⟨rfl, hb9⟩
  have B9 := Aside0.mk (B8.out.trans (hb9.mono B8.out.size))
  clear hb9
  go_wp2_with fail
  refine (HPC.out _ B9.out).mono ?_
  rintro e w10 ⟨hb10, h10⟩
  have B10 := Aside0.mk (B9.out.trans (hb10.mono B9.out.size))
  rcases h10 with ⟨hk, rfl⟩ | ⟨hk, v, N, fn, ss, rfl, hN, hblk⟩
  · have HK := Aside0.mk hk
    clear hk hb10
    go_wp2_with fail
    go_ret2
    exact ⟨B10.out.alloc B10.out.size _, toQ_ok HK.out _ rfl B10.out.size (blk_new _ _)⟩
  · have HK := Aside0.mk hk
    have HN := Aside0.mk hN
    have HBK := Aside0.mk hblk
    clear hk hN hblk hb10
    go_wp2_with fail
    go_ret2
    exact ⟨B10.out, toQ_err HK.out N fn ss rfl (Nat.le_trans B9.out.size HN.out) HBK.out⟩

set_option maxHeartbeats 8000000 in
set_option maxRecDepth 100000 in
theorem to_zero_pos (EV : Nat → Value) (s s1 s2 n : ByteArray) (h0 : s.size ≠ 0) (hsz : s.size ≤ 140737488351232) (hus : hp s ⟨#[95]⟩ = false) (d : Nat) (hd : d ≤ 1) (hdot : cnt 46 s = d) (hneg : hp s ⟨#[45]⟩ = false) (hplus : tp s ⟨#[43]⟩ = s1) (hmin : tp s1 ⟨#[45]⟩ = s2) (hs2 : s2.size ≤ 140737488351232) (hn : strip s2 = n) (hhex : hp n ⟨#[48, 120]⟩ = false) (hoct : hp n ⟨#[48, 111]⟩ = false) (hbin : hp n ⟨#[48, 98]⟩ = false) (hz : hp n ⟨#[48]⟩ = true) (hz1 : 1 < n.size) (hd0 : d = 0) (okv : Value) (k : Nat) (w : World) (HP : ∀ W, Below w.heap.size w W → Calls Tryz.prog 94 #[.string n, .int .i64 8, .int .i64 64] W (NumE okv k EV W)) : Calls Tryz.prog 76 #[.string s] w (ToP EV (outN k ⟨#[111, 99, 116, 101, 116]⟩ (.iface 34 okv) n) w) := by
  have HC : Aside0 (∀ W, Calls Tryz.prog 90 #[.string s, .string ⟨#[46]⟩] W (Cnt (d : Int) W)) := ⟨fun W => (count_one s 46 (by omega) W).mono fun e w' h => ⟨by rw [h.1, hdot], h.2⟩⟩
  have HPC := Aside0.mk HP
  have hse : ((s.size : Int) == 0) = false := beq_eq_false_iff_ne.mpr (by omega)
  have A0 := Aside0.mk (fun W => hp_any hus W)
  have A2 := Aside0.mk (fun W => hp_any hneg W)
  have A3 := Aside0.mk (fun W => tp_any hplus W)
  have A4 := Aside0.mk (fun W => tp_any hmin W)
  have A5 := Aside0.mk (fun W => sp_any hn (by omega) W)
  have A6 := Aside0.mk (fun W => hp_any hhex W)
  have A7 := Aside0.mk (fun W => hp_any hoct W)
  have A8 := Aside0.mk (fun W => hp_any hbin W)
  have HZC : Aside0 (∀ W b, hp n ⟨#[48]⟩ = b → Calls Tryz.prog 89 #[.string n, .string ⟨#[48]⟩] W (Bo b W)) := ⟨fun W b h => hp_any h W⟩
  subst hd0
  clear HP hus hdot hneg hplus hmin hn hs2 h0 hhex hoct hbin
  have hz1' : (1 : Int) < (n.size : Int) := by omega
  go_enter Tryz.func76, Tryz.ntmps76
  have B0 := Aside0.mk (Below.refl w.heap.size w)
  go_wp2_with fail
  refine (A0.out _).mono ?_
  rintro e w1 ⟨rfl, hb1⟩
  have B1 := Aside0.mk (B0.out.trans (hb1.mono B0.out.size))
  clear hb1
  go_wp2_with fail
  refine (HC.out _).mono ?_
  rintro e w101 ⟨rfl, rfl⟩
  go_wp2_with fail
  refine (A2.out _).mono ?_
  rintro e w2 ⟨rfl, hb2⟩
  have B2 := Aside0.mk (B1.out.trans (hb2.mono B1.out.size))
  clear hb2
  go_wp2_with fail
  refine (A3.out _).mono ?_
  rintro e w3 ⟨rfl, hb3⟩
  have B3 := Aside0.mk (B2.out.trans (hb3.mono B2.out.size))
  clear hb3
  go_wp2_with fail
  refine (A4.out _).mono ?_
  rintro e w4 ⟨rfl, hb4⟩
  have B4 := Aside0.mk (B3.out.trans (hb4.mono B3.out.size))
  clear hb4
  go_wp2_with fail
  refine (A5.out _).mono ?_
  rintro e w5 ⟨rfl, hb5⟩
  have B5 := Aside0.mk (B4.out.trans (hb5.mono B4.out.size))
  clear hb5
  go_wp2_with fail
  refine (A6.out _).mono ?_
  rintro e w6 ⟨rfl, hb6⟩
  have B6 := Aside0.mk (B5.out.trans (hb6.mono B5.out.size))
  clear hb6
  go_wp2_with fail
  refine (A7.out _).mono ?_
  rintro e w7 ⟨rfl, hb7⟩
  have B7 := Aside0.mk (B6.out.trans (hb7.mono B6.out.size))
  clear hb7
  go_wp2_with fail
  refine (A8.out _).mono ?_
  rintro e w8 ⟨rfl, hb8⟩
  have B8 := Aside0.mk (B7.out.trans (hb8.mono B7.out.size))
  clear hb8
  go_wp2_with fail
  refine (HZC.out _ _ hz).mono ?_
  rintro e w9 ⟨rfl, hb9⟩
  have B9 := Aside0.mk (B8.out.trans (hb9.mono B8.out.size))
  clear hb9 hz
  go_wp2_with fail
  refine (HPC.out _ B9.out).mono ?_
  rintro e w10 ⟨hb10, h10⟩
  have B10 := Aside0.mk (B9.out.trans (hb10.mono B9.out.size))
  rcases h10 with ⟨hk, rfl⟩ | ⟨hk, v, N, fn, ss, rfl, hN, hblk⟩
  · have HK := Aside0.mk hk
    clear hk hb10
    go_wp2_with fail
    go_ret2
    exact ⟨B10.out.alloc B10.out.size _, toQ_ok HK.out _ rfl B10.out.size (blk_new _ _)⟩
  · have HK := Aside0.mk hk
    have HN := Aside0.mk hN
    have HBK := Aside0.mk hblk
    clear hk hN hblk hb10
    go_wp2_with fail
    go_ret2
    exact ⟨B10.out, toQ_err HK.out N fn ss rfl (Nat.le_trans B9.out.size HN.out) HBK.out⟩

set_option maxHeartbeats 8000000 in
set_option maxRecDepth 100000 in
theorem to_zero_neg (EV : Nat → Value) (s s1 s2 n : ByteArray) (h0 : s.size ≠ 0) (hsz : s.size ≤ 140737488351232) (hus : hp s ⟨#[95]⟩ = false) (d : Nat) (hd : d ≤ 1) (hdot : cnt 46 s = d) (hneg : hp s ⟨#[45]⟩ = true) (hplus : tp s ⟨#[43]⟩ = s1) (hmin : tp s1 ⟨#[45]⟩ = s2) (hs2 : s2.size ≤ 140737488351232) (hn : strip s2 = n) (hhex : hp n ⟨#[48, 120]⟩ = false) (hoct : hp n ⟨#[48, 111]⟩ = false) (hbin : hp n ⟨#[48, 98]⟩ = false) (hz : hp n ⟨#[48]⟩ = true) (hz1 : 1 < n.size) (hd0 : d = 0) (hnz : n.size ≤ 140737488351232) (okv : Value) (k : Nat) (w : World) (HP : ∀ W, Below w.heap.size w W → Calls Tryz.prog 93 #[.string (⟨#[45]⟩ ++ n), .int .i64 8, .int .i64 64] W (NumE okv k EV W)) : Calls Tryz.prog 76 #[.string s] w (ToP EV (outN k ⟨#[111, 99, 116, 101, 116]⟩ (.iface 2 okv) (⟨#[45]⟩ ++ n)) w) := by
  have HC : Aside0 (∀ W, Calls Tryz.prog 90 #[.string s, .string ⟨#[46]⟩] W (Cnt (d : Int) W)) := ⟨fun W => (count_one s 46 (by omega) W).mono fun e w' h => ⟨by rw [h.1, hdot], h.2⟩⟩
  have HPC := Aside0.mk HP
  have hse : ((s.size : Int) == 0) = false := beq_eq_false_iff_ne.mpr (by omega)
  have A0 := Aside0.mk (fun W => hp_any hus W)
  have A2 := Aside0.mk (fun W => hp_any hneg W)
  have A3 := Aside0.mk (fun W => tp_any hplus W)
  have A4 := Aside0.mk (fun W => tp_any hmin W)
  have A5 := Aside0.mk (fun W => sp_any hn (by omega) W)
  have A6 := Aside0.mk (fun W => hp_any hhex W)
  have A7 := Aside0.mk (fun W => hp_any hoct W)
  have A8 := Aside0.mk (fun W => hp_any hbin W)
  have HZC : Aside0 (∀ W b, hp n ⟨#[48]⟩ = b → Calls Tryz.prog 89 #[.string n, .string ⟨#[48]⟩] W (Bo b W)) := ⟨fun W b h => hp_any h W⟩
  subst hd0
  clear HP hus hdot hneg hplus hmin hn hs2 h0 hhex hoct hbin
  have hz1' : (1 : Int) < (n.size : Int) := by omega
  go_enter Tryz.func76, Tryz.ntmps76
  have B0 := Aside0.mk (Below.refl w.heap.size w)
  go_wp2_with fail
  refine (A0.out _).mono ?_
  rintro e w1 ⟨rfl, hb1⟩
  have B1 := Aside0.mk (B0.out.trans (hb1.mono B0.out.size))
  clear hb1
  go_wp2_with fail
  refine (HC.out _).mono ?_
  rintro e w101 ⟨rfl, rfl⟩
  go_wp2_with fail
  refine (A2.out _).mono ?_
  rintro e w2 ⟨rfl, hb2⟩
  have B2 := Aside0.mk (B1.out.trans (hb2.mono B1.out.size))
  clear hb2
  go_wp2_with fail
  refine (A3.out _).mono ?_
  rintro e w3 ⟨rfl, hb3⟩
  have B3 := Aside0.mk (B2.out.trans (hb3.mono B2.out.size))
  clear hb3
  go_wp2_with fail
  refine (A4.out _).mono ?_
  rintro e w4 ⟨rfl, hb4⟩
  have B4 := Aside0.mk (B3.out.trans (hb4.mono B3.out.size))
  clear hb4
  go_wp2_with fail
  refine (A5.out _).mono ?_
  rintro e w5 ⟨rfl, hb5⟩
  have B5 := Aside0.mk (B4.out.trans (hb5.mono B4.out.size))
  clear hb5
  go_wp2_with fail
  refine (A6.out _).mono ?_
  rintro e w6 ⟨rfl, hb6⟩
  have B6 := Aside0.mk (B5.out.trans (hb6.mono B5.out.size))
  clear hb6
  go_wp2_with fail
  refine (A7.out _).mono ?_
  rintro e w7 ⟨rfl, hb7⟩
  have B7 := Aside0.mk (B6.out.trans (hb7.mono B6.out.size))
  clear hb7
  go_wp2_with fail
  refine (A8.out _).mono ?_
  rintro e w8 ⟨rfl, hb8⟩
  have B8 := Aside0.mk (B7.out.trans (hb8.mono B7.out.size))
  clear hb8
  go_wp2_with fail
  refine (HZC.out _ _ hz).mono ?_
  rintro e w9 ⟨rfl, hb9⟩
  have B9 := Aside0.mk (B8.out.trans (hb9.mono B8.out.size))
  clear hb9 hz
  go_wp2_with fail
  refine (HPC.out _ B9.out).mono ?_
  rintro e w10 ⟨hb10, h10⟩
  have B10 := Aside0.mk (B9.out.trans (hb10.mono B9.out.size))
  rcases h10 with ⟨hk, rfl⟩ | ⟨hk, v, N, fn, ss, rfl, hN, hblk⟩
  · have HK := Aside0.mk hk
    clear hk hb10
    go_wp2_with fail
    go_ret2
    exact ⟨B10.out.alloc B10.out.size _, toQ_ok HK.out _ rfl B10.out.size (blk_new _ _)⟩
  · have HK := Aside0.mk hk
    have HN := Aside0.mk hN
    have HBK := Aside0.mk hblk
    clear hk hN hblk hb10
    go_wp2_with fail
    go_ret2
    exact ⟨B10.out, toQ_err HK.out N fn ss rfl (Nat.le_trans B9.out.size HN.out) HBK.out⟩

set_option maxHeartbeats 8000000 in
set_option maxRecDepth 100000 in
theorem to_float_pos (EV : Nat → Value) (s s1 s2 n : ByteArray) (h0 : s.size ≠ 0) (hsz : s.size ≤ 140737488351232) (hus : hp s ⟨#[95]⟩ = false) (d : Nat) (hd : d ≤ 1) (hdot : cnt 46 s = d) (hneg : hp s ⟨#[45]⟩ = false) (hplus : tp s ⟨#[43]⟩ = s1) (hmin : tp s1 ⟨#[45]⟩ = s2) (hs2 : s2.size ≤ 140737488351232) (hn : strip s2 = n) (hhex : hp n ⟨#[48, 120]⟩ = false) (hoct : hp n ⟨#[48, 111]⟩ = false) (hbin : hp n ⟨#[48, 98]⟩ = false) (hd0 : d = 1) (okv : Value) (k : Nat) (w : World) (HP : ∀ W, Below w.heap.size w W → Calls Tryz.prog 47 #[.string n, .int .i64 64] W (NumE okv k EV W)) : Calls Tryz.prog 76 #[.string s] w (ToP EV (outN k ⟨#[102, 108, 111, 97, 116]⟩ (.iface 35 okv) n) w) := by
  have HC : Aside0 (∀ W, Calls Tryz.prog 90 #[.string s, .string ⟨#[46]⟩] W (Cnt (d : Int) W)) := ⟨fun W => (count_one s 46 (by omega) W).mono fun e w' h => ⟨by rw [h.1, hdot], h.2⟩⟩
  have HPC := Aside0.mk HP
  have hse : ((s.size : Int) == 0) = false := beq_eq_false_iff_ne.mpr (by omega)
  have A0 := Aside0.mk (fun W => hp_any hus W)
  have A2 := Aside0.mk (fun W => hp_any hneg W)
  have A3 := Aside0.mk (fun W => tp_any hplus W)
  have A4 := Aside0.mk (fun W => tp_any hmin W)
  have A5 := Aside0.mk (fun W => sp_any hn (by omega) W)
  have A6 := Aside0.mk (fun W => hp_any hhex W)
  have A7 := Aside0.mk (fun W => hp_any hoct W)
  have A8 := Aside0.mk (fun W => hp_any hbin W)
  have HZC : Aside0 (∀ W b, hp n ⟨#[48]⟩ = b → Calls Tryz.prog 89 #[.string n, .string ⟨#[48]⟩] W (Bo b W)) := ⟨fun W b h => hp_any h W⟩
  subst hd0
  clear HP hus hdot hneg hplus hmin hn hs2 h0 hhex hoct hbin
  have hone : ((1 : Nat) : Int) = 1 := rfl
  by_cases hz : hp n ⟨#[48]⟩ = true
  · by_cases hz1 : 1 < n.size
    · have hz1' : (1 : Int) < (n.size : Int) := by omega
      go_enter Tryz.func76, Tryz.ntmps76
      have B0 := Aside0.mk (Below.refl w.heap.size w)
      go_wp2_with fail
      refine (A0.out _).mono ?_
      rintro e w1 ⟨rfl, hb1⟩
      have B1 := Aside0.mk (B0.out.trans (hb1.mono B0.out.size))
      clear hb1
      go_wp2_with fail
      refine (HC.out _).mono ?_
      rintro e w101 ⟨rfl, rfl⟩
      go_wp2_with fail
      refine (A2.out _).mono ?_
      rintro e w2 ⟨rfl, hb2⟩
      have B2 := Aside0.mk (B1.out.trans (hb2.mono B1.out.size))
      clear hb2
      go_wp2_with fail
      refine (A3.out _).mono ?_
      rintro e w3 ⟨rfl, hb3⟩
      have B3 := Aside0.mk (B2.out.trans (hb3.mono B2.out.size))
      clear hb3
      go_wp2_with fail
      refine (A4.out _).mono ?_
      rintro e w4 ⟨rfl, hb4⟩
      have B4 := Aside0.mk (B3.out.trans (hb4.mono B3.out.size))
      clear hb4
      go_wp2_with fail
      refine (A5.out _).mono ?_
      rintro e w5 ⟨rfl, hb5⟩
      have B5 := Aside0.mk (B4.out.trans (hb5.mono B4.out.size))
      clear hb5
      go_wp2_with fail
      refine (A6.out _).mono ?_
      rintro e w6 ⟨rfl, hb6⟩
      have B6 := Aside0.mk (B5.out.trans (hb6.mono B5.out.size))
      clear hb6
      go_wp2_with fail
      refine (A7.out _).mono ?_
      rintro e w7 ⟨rfl, hb7⟩
      have B7 := Aside0.mk (B6.out.trans (hb7.mono B6.out.size))
      clear hb7
      go_wp2_with fail
      refine (A8.out _).mono ?_
      rintro e w8 ⟨rfl, hb8⟩
      have B8 := Aside0.mk (B7.out.trans (hb8.mono B7.out.size))
      clear hb8
      go_wp2_with fail
      refine (HZC.out _ _ hz).mono ?_
      rintro e w9 ⟨rfl, hb9⟩
      have B9 := Aside0.mk (B8.out.trans (hb9.mono B8.out.size))
      clear hb9 hz
      go_wp2_with fail
      refine (HPC.out _ B9.out).mono ?_
      rintro e w10 ⟨hb10, h10⟩
      have B10 := Aside0.mk (B9.out.trans (hb10.mono B9.out.size))
      rcases h10 with ⟨hk, rfl⟩ | ⟨hk, v, N, fn, ss, rfl, hN, hblk⟩
      · have HK := Aside0.mk hk
        clear hk hb10
        go_wp2_with fail
        go_ret2
        exact ⟨B10.out.alloc B10.out.size _, toQ_ok HK.out _ rfl B10.out.size (blk_new _ _)⟩
      · have HK := Aside0.mk hk
        have HN := Aside0.mk hN
        have HBK := Aside0.mk hblk
        clear hk hN hblk hb10
        go_wp2_with fail
        go_ret2
        exact ⟨B10.out, toQ_err HK.out N fn ss rfl (Nat.le_trans B9.out.size HN.out) HBK.out⟩
    · have hz1' : ¬ (1 : Int) < (n.size : Int) := by omega
      go_enter Tryz.func76, Tryz.ntmps76
      have B0 := Aside0.mk (Below.refl w.heap.size w)
      go_wp2_with fail
      refine (A0.out _).mono ?_
      rintro e w1 ⟨rfl, hb1⟩
      have B1 := Aside0.mk (B0.out.trans (hb1.mono B0.out.size))
      clear hb1
      go_wp2_with fail
      refine (HC.out _).mono ?_
      rintro e w101 ⟨rfl, rfl⟩
      go_wp2_with fail
      refine (A2.out _).mono ?_
      rintro e w2 ⟨rfl, hb2⟩
      have B2 := Aside0.mk (B1.out.trans (hb2.mono B1.out.size))
      clear hb2
      go_wp2_with fail
      refine (A3.out _).mono ?_
      rintro e w3 ⟨rfl, hb3⟩
      have B3 := Aside0.mk (B2.out.trans (hb3.mono B2.out.size))
      clear hb3
      go_wp2_with fail
      refine (A4.out _).mono ?_
      rintro e w4 ⟨rfl, hb4⟩
      have B4 := Aside0.mk (B3.out.trans (hb4.mono B3.out.size))
      clear hb4
      go_wp2_with fail
      refine (A5.out _).mono ?_
      rintro e w5 ⟨rfl, hb5⟩
      have B5 := Aside0.mk (B4.out.trans (hb5.mono B4.out.size))
      clear hb5
      go_wp2_with fail
      refine (A6.out _).mono ?_
      rintro e w6 ⟨rfl, hb6⟩
      have B6 := Aside0.mk (B5.out.trans (hb6.mono B5.out.size))
      clear hb6
      go_wp2_with fail
      refine (A7.out _).mono ?_
      rintro e w7 ⟨rfl, hb7⟩
      have B7 := Aside0.mk (B6.out.trans (hb7.mono B6.out.size))
      clear hb7
      go_wp2_with fail
      refine (A8.out _).mono ?_
      rintro e w8 ⟨rfl, hb8⟩
      have B8 := Aside0.mk (B7.out.trans (hb8.mono B7.out.size))
      clear hb8
      go_wp2_with fail
      refine (HZC.out _ _ hz).mono ?_
      rintro e w9 ⟨rfl, hb9⟩
      have B9 := Aside0.mk (B8.out.trans (hb9.mono B8.out.size))
      clear hb9 hz
      go_wp2_with fail
      refine (HPC.out _ B9.out).mono ?_
      rintro e w10 ⟨hb10, h10⟩
      have B10 := Aside0.mk (B9.out.trans (hb10.mono B9.out.size))
      rcases h10 with ⟨hk, rfl⟩ | ⟨hk, v, N, fn, ss, rfl, hN, hblk⟩
      · have HK := Aside0.mk hk
        clear hk hb10
        go_wp2_with fail
        go_ret2
        exact ⟨B10.out.alloc B10.out.size _, toQ_ok HK.out _ rfl B10.out.size (blk_new _ _)⟩
      · have HK := Aside0.mk hk
        have HN := Aside0.mk hN
        have HBK := Aside0.mk hblk
        clear hk hN hblk hb10
        go_wp2_with fail
        go_ret2
        exact ⟨B10.out, toQ_err HK.out N fn ss rfl (Nat.le_trans B9.out.size HN.out) HBK.out⟩
  · replace hz : hp n ⟨#[48]⟩ = false := by simpa using hz
    go_enter Tryz.func76, Tryz.ntmps76
    have B0 := Aside0.mk (Below.refl w.heap.size w)
    go_wp2_with fail
    refine (A0.out _).mono ?_
    rintro e w1 ⟨rfl, hb1⟩
    have B1 := Aside0.mk (B0.out.trans (hb1.mono B0.out.size))
    clear hb1
    go_wp2_with fail
    refine (HC.out _).mono ?_
    rintro e w101 ⟨rfl, rfl⟩
    go_wp2_with fail
    refine (A2.out _).mono ?_
    rintro e w2 ⟨rfl, hb2⟩
    have B2 := Aside0.mk (B1.out.trans (hb2.mono B1.out.size))
    clear hb2
    go_wp2_with fail
    refine (A3.out _).mono ?_
    rintro e w3 ⟨rfl, hb3⟩
    have B3 := Aside0.mk (B2.out.trans (hb3.mono B2.out.size))
    clear hb3
    go_wp2_with fail
    refine (A4.out _).mono ?_
    rintro e w4 ⟨rfl, hb4⟩
    have B4 := Aside0.mk (B3.out.trans (hb4.mono B3.out.size))
    clear hb4
    go_wp2_with fail
    refine (A5.out _).mono ?_
    rintro e w5 ⟨rfl, hb5⟩
    have B5 := Aside0.mk (B4.out.trans (hb5.mono B4.out.size))
    clear hb5
    go_wp2_with fail
    refine (A6.out _).mono ?_
    rintro e w6 ⟨rfl, hb6⟩
    have B6 := Aside0.mk (B5.out.trans (hb6.mono B5.out.size))
    clear hb6
    go_wp2_with fail
    refine (A7.out _).mono ?_
    rintro e w7 ⟨rfl, hb7⟩
    have B7 := Aside0.mk (B6.out.trans (hb7.mono B6.out.size))
    clear hb7
    go_wp2_with fail
    refine (A8.out _).mono ?_
    rintro e w8 ⟨rfl, hb8⟩
    have B8 := Aside0.mk (B7.out.trans (hb8.mono B7.out.size))
    clear hb8
    go_wp2_with fail
    refine (HZC.out _ _ hz).mono ?_
    rintro e w9 ⟨rfl, hb9⟩
    have B9 := Aside0.mk (B8.out.trans (hb9.mono B8.out.size))
    clear hb9 hz
    go_wp2_with fail
    refine (HPC.out _ B9.out).mono ?_
    rintro e w10 ⟨hb10, h10⟩
    have B10 := Aside0.mk (B9.out.trans (hb10.mono B9.out.size))
    rcases h10 with ⟨hk, rfl⟩ | ⟨hk, v, N, fn, ss, rfl, hN, hblk⟩
    · have HK := Aside0.mk hk
      clear hk hb10
      go_wp2_with fail
      go_ret2
      exact ⟨B10.out.alloc B10.out.size _, toQ_ok HK.out _ rfl B10.out.size (blk_new _ _)⟩
    · have HK := Aside0.mk hk
      have HN := Aside0.mk hN
      have HBK := Aside0.mk hblk
      clear hk hN hblk hb10
      go_wp2_with fail
      go_ret2
      exact ⟨B10.out, toQ_err HK.out N fn ss rfl (Nat.le_trans B9.out.size HN.out) HBK.out⟩

set_option maxHeartbeats 8000000 in
set_option maxRecDepth 100000 in
theorem to_float_neg (EV : Nat → Value) (s s1 s2 n : ByteArray) (h0 : s.size ≠ 0) (hsz : s.size ≤ 140737488351232) (hus : hp s ⟨#[95]⟩ = false) (d : Nat) (hd : d ≤ 1) (hdot : cnt 46 s = d) (hneg : hp s ⟨#[45]⟩ = true) (hplus : tp s ⟨#[43]⟩ = s1) (hmin : tp s1 ⟨#[45]⟩ = s2) (hs2 : s2.size ≤ 140737488351232) (hn : strip s2 = n) (hhex : hp n ⟨#[48, 120]⟩ = false) (hoct : hp n ⟨#[48, 111]⟩ = false) (hbin : hp n ⟨#[48, 98]⟩ = false) (hd0 : d = 1) (hnz : n.size ≤ 140737488351232) (okv : Value) (k : Nat) (w : World) (HP : ∀ W, Below w.heap.size w W → Calls Tryz.prog 47 #[.string (⟨#[45]⟩ ++ n), .int .i64 64] W (NumE okv k EV W)) : Calls Tryz.prog 76 #[.string s] w (ToP EV (outN k ⟨#[102, 108, 111, 97, 116]⟩ (.iface 35 okv) (⟨#[45]⟩ ++ n)) w) := by
  have HC : Aside0 (∀ W, Calls Tryz.prog 90 #[.string s, .string ⟨#[46]⟩] W (Cnt (d : Int) W)) := ⟨fun W => (count_one s 46 (by omega) W).mono fun e w' h => ⟨by rw [h.1, hdot], h.2⟩⟩
  have HPC := Aside0.mk HP
  have hse : ((s.size : Int) == 0) = false := beq_eq_false_iff_ne.mpr (by omega)
  have A0 := Aside0.mk (fun W => hp_any hus W)
  have A2 := Aside0.mk (fun W => hp_any hneg W)
  have A3 := Aside0.mk (fun W => tp_any hplus W)
  have A4 := Aside0.mk (fun W => tp_any hmin W)
  have A5 := Aside0.mk (fun W => sp_any hn (by omega) W)
  have A6 := Aside0.mk (fun W => hp_any hhex W)
  have A7 := Aside0.mk (fun W => hp_any hoct W)
  have A8 := Aside0.mk (fun W => hp_any hbin W)
  have HZC : Aside0 (∀ W b, hp n ⟨#[48]⟩ = b → Calls Tryz.prog 89 #[.string n, .string ⟨#[48]⟩] W (Bo b W)) := ⟨fun W b h => hp_any h W⟩
  subst hd0
  clear HP hus hdot hneg hplus hmin hn hs2 h0 hhex hoct hbin
  have hone : ((1 : Nat) : Int) = 1 := rfl
  by_cases hz : hp n ⟨#[48]⟩ = true
  · by_cases hz1 : 1 < n.size
    · have hz1' : (1 : Int) < (n.size : Int) := by omega
      go_enter Tryz.func76, Tryz.ntmps76
      have B0 := Aside0.mk (Below.refl w.heap.size w)
      go_wp2_with fail
      refine (A0.out _).mono ?_
      rintro e w1 ⟨rfl, hb1⟩
      have B1 := Aside0.mk (B0.out.trans (hb1.mono B0.out.size))
      clear hb1
      go_wp2_with fail
      refine (HC.out _).mono ?_
      rintro e w101 ⟨rfl, rfl⟩
      go_wp2_with fail
      refine (A2.out _).mono ?_
      rintro e w2 ⟨rfl, hb2⟩
      have B2 := Aside0.mk (B1.out.trans (hb2.mono B1.out.size))
      clear hb2
      go_wp2_with fail
      refine (A3.out _).mono ?_
      rintro e w3 ⟨rfl, hb3⟩
      have B3 := Aside0.mk (B2.out.trans (hb3.mono B2.out.size))
      clear hb3
      go_wp2_with fail
      refine (A4.out _).mono ?_
      rintro e w4 ⟨rfl, hb4⟩
      have B4 := Aside0.mk (B3.out.trans (hb4.mono B3.out.size))
      clear hb4
      go_wp2_with fail
      refine (A5.out _).mono ?_
      rintro e w5 ⟨rfl, hb5⟩
      have B5 := Aside0.mk (B4.out.trans (hb5.mono B4.out.size))
      clear hb5
      go_wp2_with fail
      refine (A6.out _).mono ?_
      rintro e w6 ⟨rfl, hb6⟩
      have B6 := Aside0.mk (B5.out.trans (hb6.mono B5.out.size))
      clear hb6
      go_wp2_with fail
      refine (A7.out _).mono ?_
      rintro e w7 ⟨rfl, hb7⟩
      have B7 := Aside0.mk (B6.out.trans (hb7.mono B6.out.size))
      clear hb7
      go_wp2_with fail
      refine (A8.out _).mono ?_
      rintro e w8 ⟨rfl, hb8⟩
      have B8 := Aside0.mk (B7.out.trans (hb8.mono B7.out.size))
      clear hb8
      go_wp2_with fail
      refine (HZC.out _ _ hz).mono ?_
      rintro e w9 ⟨rfl, hb9⟩
      have B9 := Aside0.mk (B8.out.trans (hb9.mono B8.out.size))
      clear hb9 hz
      go_wp2_with fail
      refine (HPC.out _ B9.out).mono ?_
      rintro e w10 ⟨hb10, h10⟩
      have B10 := Aside0.mk (B9.out.trans (hb10.mono B9.out.size))
      rcases h10 with ⟨hk, rfl⟩ | ⟨hk, v, N, fn, ss, rfl, hN, hblk⟩
      · have HK := Aside0.mk hk
        clear hk hb10
        go_wp2_with fail
        go_ret2
        exact ⟨B10.out.alloc B10.out.size _, toQ_ok HK.out _ rfl B10.out.size (blk_new _ _)⟩
      · have HK := Aside0.mk hk
        have HN := Aside0.mk hN
        have HBK := Aside0.mk hblk
        clear hk hN hblk hb10
        go_wp2_with fail
        go_ret2
        exact ⟨B10.out, toQ_err HK.out N fn ss rfl (Nat.le_trans B9.out.size HN.out) HBK.out⟩
    · have hz1' : ¬ (1 : Int) < (n.size : Int) := by omega
      go_enter Tryz.func76, Tryz.ntmps76
      have B0 := Aside0.mk (Below.refl w.heap.size w)
      go_wp2_with fail
      refine (A0.out _).mono ?_
      rintro e w1 ⟨rfl, hb1⟩
      have B1 := Aside0.mk (B0.out.trans (hb1.mono B0.out.size))
      clear hb1
      go_wp2_with fail
      refine (HC.out _).mono ?_
      rintro e w101 ⟨rfl, rfl⟩
      go_wp2_with fail
      refine (A2.out _).mono ?_
      rintro e w2 ⟨rfl, hb2⟩
      have B2 := Aside0.mk (B1.out.trans (hb2.mono B1.out.size))
      clear hb2
      go_wp2_with fail
      refine (A3.out _).mono ?_
      rintro e w3 ⟨rfl, hb3⟩
      have B3 := Aside0.mk (B2.out.trans (hb3.mono B2.out.size))
      clear hb3
      go_wp2_with fail
      refine (A4.out _).mono ?_
      rintro e w4 ⟨rfl, hb4⟩
      have B4 := Aside0.mk (B3.out.trans (hb4.mono B3.out.size))
      clear hb4
      go_wp2_with fail
      refine (A5.out _).mono ?_
      rintro e w5 ⟨rfl, hb5⟩
      have B5 := Aside0.mk (B4.out.trans (hb5.mono B4.out.size))
      clear hb5
      go_wp2_with fail
      refine (A6.out _).mono ?_
      rintro e w6 ⟨rfl, hb6⟩
      have B6 := Aside0.mk (B5.out.trans (hb6.mono B5.out.size))
      clear hb6
      go_wp2_with fail
      refine (A7.out _).mono ?_
      rintro e w7 ⟨rfl, hb7⟩
      have B7 := Aside0.mk (B6.out.trans (hb7.mono B6.out.size))
      clear hb7
      go_wp2_with fail
      refine (A8.out _).mono ?_
      rintro e w8 ⟨rfl, hb8⟩
      have B8 := Aside0.mk (B7.out.trans (hb8.mono B7.out.size))
      clear hb8
      go_wp2_with fail
      refine (HZC.out _ _ hz).mono ?_
      rintro e w9 ⟨rfl, hb9⟩
      have B9 := Aside0.mk (B8.out.trans (hb9.mono B8.out.size))
      clear hb9 hz
      go_wp2_with fail
      refine (HPC.out _ B9.out).mono ?_
      rintro e w10 ⟨hb10, h10⟩
      have B10 := Aside0.mk (B9.out.trans (hb10.mono B9.out.size))
      rcases h10 with ⟨hk, rfl⟩ | ⟨hk, v, N, fn, ss, rfl, hN, hblk⟩
      · have HK := Aside0.mk hk
        clear hk hb10
        go_wp2_with fail
        go_ret2
        exact ⟨B10.out.alloc B10.out.size _, toQ_ok HK.out _ rfl B10.out.size (blk_new _ _)⟩
      · have HK := Aside0.mk hk
        have HN := Aside0.mk hN
        have HBK := Aside0.mk hblk
        clear hk hN hblk hb10
        go_wp2_with fail
        go_ret2
        exact ⟨B10.out, toQ_err HK.out N fn ss rfl (Nat.le_trans B9.out.size HN.out) HBK.out⟩
  · replace hz : hp n ⟨#[48]⟩ = false := by simpa using hz
    go_enter Tryz.func76, Tryz.ntmps76
    have B0 := Aside0.mk (Below.refl w.heap.size w)
    go_wp2_with fail
    refine (A0.out _).mono ?_
    rintro e w1 ⟨rfl, hb1⟩
    have B1 := Aside0.mk (B0.out.trans (hb1.mono B0.out.size))
    clear hb1
    go_wp2_with fail
    refine (HC.out _).mono ?_
    rintro e w101 ⟨rfl, rfl⟩
    go_wp2_with fail
    refine (A2.out _).mono ?_
    rintro e w2 ⟨rfl, hb2⟩
    have B2 := Aside0.mk (B1.out.trans (hb2.mono B1.out.size))
    clear hb2
    go_wp2_with fail
    refine (A3.out _).mono ?_
    rintro e w3 ⟨rfl, hb3⟩
    have B3 := Aside0.mk (B2.out.trans (hb3.mono B2.out.size))
    clear hb3
    go_wp2_with fail
    refine (A4.out _).mono ?_
    rintro e w4 ⟨rfl, hb4⟩
    have B4 := Aside0.mk (B3.out.trans (hb4.mono B3.out.size))
    clear hb4
    go_wp2_with fail
    refine (A5.out _).mono ?_
    rintro e w5 ⟨rfl, hb5⟩
    have B5 := Aside0.mk (B4.out.trans (hb5.mono B4.out.size))
    clear hb5
    go_wp2_with fail
    refine (A6.out _).mono ?_
    rintro e w6 ⟨rfl, hb6⟩
    have B6 := Aside0.mk (B5.out.trans (hb6.mono B5.out.size))
    clear hb6
    go_wp2_with fail
    refine (A7.out _).mono ?_
    rintro e w7 ⟨rfl, hb7⟩
    have B7 := Aside0.mk (B6.out.trans (hb7.mono B6.out.size))
    clear hb7
    go_wp2_with fail
    refine (A8.out _).mono ?_
    rintro e w8 ⟨rfl, hb8⟩
    have B8 := Aside0.mk (B7.out.trans (hb8.mono B7.out.size))
    clear hb8
    go_wp2_with fail
    refine (HZC.out _ _ hz).mono ?_
    rintro e w9 ⟨rfl, hb9⟩
    have B9 := Aside0.mk (B8.out.trans (hb9.mono B8.out.size))
    clear hb9 hz
    go_wp2_with fail
    refine (HPC.out _ B9.out).mono ?_
    rintro e w10 ⟨hb10, h10⟩
    have B10 := Aside0.mk (B9.out.trans (hb10.mono B9.out.size))
    rcases h10 with ⟨hk, rfl⟩ | ⟨hk, v, N, fn, ss, rfl, hN, hblk⟩
    · have HK := Aside0.mk hk
      clear hk hb10
      go_wp2_with fail
      go_ret2
      exact ⟨B10.out.alloc B10.out.size _, toQ_ok HK.out _ rfl B10.out.size (blk_new _ _)⟩
    · have HK := Aside0.mk hk
      have HN := Aside0.mk hN
      have HBK := Aside0.mk hblk
      clear hk hN hblk hb10
      go_wp2_with fail
      go_ret2
      exact ⟨B10.out, toQ_err HK.out N fn ss rfl (Nat.le_trans B9.out.size HN.out) HBK.out⟩

set_option maxHeartbeats 8000000 in
set_option maxRecDepth 100000 in
theorem to_dec_pos (EV : Nat → Value) (s s1 s2 n : ByteArray) (h0 : s.size ≠ 0) (hsz : s.size ≤ 140737488351232) (hus : hp s ⟨#[95]⟩ = false) (d : Nat) (hd : d ≤ 1) (hdot : cnt 46 s = d) (hneg : hp s ⟨#[45]⟩ = false) (hplus : tp s ⟨#[43]⟩ = s1) (hmin : tp s1 ⟨#[45]⟩ = s2) (hs2 : s2.size ≤ 140737488351232) (hn : strip s2 = n) (hhex : hp n ⟨#[48, 120]⟩ = false) (hoct : hp n ⟨#[48, 111]⟩ = false) (hbin : hp n ⟨#[48, 98]⟩ = false) (hd0 : d = 0) (hzz : hp n ⟨#[48]⟩ = false ∨ (hp n ⟨#[48]⟩ = true ∧ n.size ≤ 1)) (okv : Value) (k : Nat) (w : World) (HP : ∀ W, Below w.heap.size w W → Calls Tryz.prog 94 #[.string n, .int .i64 10, .int .i64 64] W (NumE okv k EV W)) : Calls Tryz.prog 76 #[.string s] w (ToP EV (outN k ⟨#[100, 101, 99, 105, 109, 97, 108]⟩ (.iface 34 okv) n) w) := by
  have HC : Aside0 (∀ W, Calls Tryz.prog 90 #[.string s, .string ⟨#[46]⟩] W (Cnt (d : Int) W)) := ⟨fun W => (count_one s 46 (by omega) W).mono fun e w' h => ⟨by rw [h.1, hdot], h.2⟩⟩
  have HPC := Aside0.mk HP
  have hse : ((s.size : Int) == 0) = false := beq_eq_false_iff_ne.mpr (by omega)
  have A0 := Aside0.mk (fun W => hp_any hus W)
  have A2 := Aside0.mk (fun W => hp_any hneg W)
  have A3 := Aside0.mk (fun W => tp_any hplus W)
  have A4 := Aside0.mk (fun W => tp_any hmin W)
  have A5 := Aside0.mk (fun W => sp_any hn (by omega) W)
  have A6 := Aside0.mk (fun W => hp_any hhex W)
  have A7 := Aside0.mk (fun W => hp_any hoct W)
  have A8 := Aside0.mk (fun W => hp_any hbin W)
  have HZC : Aside0 (∀ W b, hp n ⟨#[48]⟩ = b → Calls Tryz.prog 89 #[.string n, .string ⟨#[48]⟩] W (Bo b W)) := ⟨fun W b h => hp_any h W⟩
  subst hd0
  clear HP hus hdot hneg hplus hmin hn hs2 h0 hhex hoct hbin
  rcases hzz with hz | ⟨hz, hz1⟩
  · go_enter Tryz.func76, Tryz.ntmps76
    have B0 := Aside0.mk (Below.refl w.heap.size w)
    go_wp2_with fail
    refine (A0.out _).mono ?_
    rintro e w1 ⟨rfl, hb1⟩
    have B1 := Aside0.mk (B0.out.trans (hb1.mono B0.out.size))
    clear hb1
    go_wp2_with fail
    refine (HC.out _).mono ?_
    rintro e w101 ⟨rfl, rfl⟩
    go_wp2_with fail
    refine (A2.out _).mono ?_
    rintro e w2 ⟨rfl, hb2⟩
    have B2 := Aside0.mk (B1.out.trans (hb2.mono B1.out.size))
    clear hb2
    go_wp2_with fail
    refine (A3.out _).mono ?_
    rintro e w3 ⟨rfl, hb3⟩
    have B3 := Aside0.mk (B2.out.trans (hb3.mono B2.out.size))
    clear hb3
    go_wp2_with fail
    refine (A4.out _).mono ?_
    rintro e w4 ⟨rfl, hb4⟩
    have B4 := Aside0.mk (B3.out.trans (hb4.mono B3.out.size))
    clear hb4
    go_wp2_with fail
    refine (A5.out _).mono ?_
    rintro e w5 ⟨rfl, hb5⟩
    have B5 := Aside0.mk (B4.out.trans (hb5.mono B4.out.size))
    clear hb5
    go_wp2_with fail
    refine (A6.out _).mono ?_
    rintro e w6 ⟨rfl, hb6⟩
    have B6 := Aside0.mk (B5.out.trans (hb6.mono B5.out.size))
    clear hb6
    go_wp2_with fail
    refine (A7.out _).mono ?_
    rintro e w7 ⟨rfl, hb7⟩
    have B7 := Aside0.mk (B6.out.trans (hb7.mono B6.out.size))
    clear hb7
    go_wp2_with fail
    refine (A8.out _).mono ?_
    rintro e w8 ⟨rfl, hb8⟩
    have B8 := Aside0.mk (B7.out.trans (hb8.mono B7.out.size))
    clear hb8
    go_wp2_with fail
    refine (HZC.out _ _ hz).mono ?_
    rintro e w9 ⟨rfl, hb9⟩
    have B9 := Aside0.mk (B8.out.trans (hb9.mono B8.out.size))
    clear hb9 hz
    go_wp2_with fail
    refine (HPC.out _ B9.out).mono ?_
    rintro e w10 ⟨hb10, h10⟩
    have B10 := Aside0.mk (B9.out.trans (hb10.mono B9.out.size))
    rcases h10 with ⟨hk, rfl⟩ | ⟨hk, v, N, fn, ss, rfl, hN, hblk⟩
    · have HK := Aside0.mk hk
      clear hk hb10
      go_wp2_with fail
      go_ret2
      exact ⟨B10.out.alloc B10.out.size _, toQ_ok HK.out _ rfl B10.out.size (blk_new _ _)⟩
    · have HK := Aside0.mk hk
      have HN := Aside0.mk hN
      have HBK := Aside0.mk hblk
      clear hk hN hblk hb10
      go_wp2_with fail
      go_ret2
      exact ⟨B10.out, toQ_err HK.out N fn ss rfl (Nat.le_trans B9.out.size HN.out) HBK.out⟩
  · have hz1' : ¬ (1 : Int) < (n.size : Int) := by omega
    go_enter Tryz.func76, Tryz.ntmps76
    have B0 := Aside0.mk (Below.refl w.heap.size w)
    go_wp2_with fail
    refine (A0.out _).mono ?_
    rintro e w1 ⟨rfl, hb1⟩
    have B1 := Aside0.mk (B0.out.trans (hb1.mono B0.out.size))
    clear hb1
    go_wp2_with fail
    refine (HC.out _).mono ?_
    rintro e w101 ⟨rfl, rfl⟩
    go_wp2_with fail
    refine (A2.out _).mono ?_
    rintro e w2 ⟨rfl, hb2⟩
    have B2 := Aside0.mk (B1.out.trans (hb2.mono B1.out.size))
    clear hb2
    go_wp2_with fail
    refine (A3.out _).mono ?_
    rintro e w3 ⟨rfl, hb3⟩
    have B3 := Aside0.mk (B2.out.trans (hb3.mono B2.out.size))
    clear hb3
    go_wp2_with fail
    refine (A4.out _).mono ?_
    rintro e w4 ⟨rfl, hb4⟩
    have B4 := Aside0.mk (B3.out.trans (hb4.mono B3.out.size))
    clear hb4
    go_wp2_with fail
    refine (A5.out _).mono ?_
    rintro e w5 ⟨rfl, hb5⟩
    have B5 := Aside0.mk (B4.out.trans (hb5.mono B4.out.size))
    clear hb5
    go_wp2_with fail
    refine (A6.out _).mono ?_
    rintro e w6 ⟨rfl, hb6⟩
    have B6 := Aside0.mk (B5.out.trans (hb6.mono B5.out.size))
    clear hb6
    go_wp2_with fail
    refine (A7.out _).mono ?_
    rintro e w7 ⟨rfl, hb7⟩
    have B7 := Aside0.mk (B6.out.trans (hb7.mono B6.out.size))
    clear hb7
    go_wp2_with fail
    refine (A8.out _).mono ?_
    rintro e w8 ⟨rfl, hb8⟩
    have B8 := Aside0.mk (B7.out.trans (hb8.mono B7.out.size))
    clear hb8
    go_wp2_with fail
    refine (HZC.out _ _ hz).mono ?_
    rintro e w9 ⟨rfl, hb9⟩
    have B9 := Aside0.mk (B8.out.trans (hb9.mono B8.out.size))
    clear hb9 hz
    go_wp2_with fail
    refine (HPC.out _ B9.out).mono ?_
    rintro e w10 ⟨hb10, h10⟩
    have B10 := Aside0.mk (B9.out.trans (hb10.mono B9.out.size))
    rcases h10 with ⟨hk, rfl⟩ | ⟨hk, v, N, fn, ss, rfl, hN, hblk⟩
    · have HK := Aside0.mk hk
      clear hk hb10
      go_wp2_with fail
      go_ret2
      exact ⟨B10.out.alloc B10.out.size _, toQ_ok HK.out _ rfl B10.out.size (blk_new _ _)⟩
    · have HK := Aside0.mk hk
      have HN := Aside0.mk hN
      have HBK := Aside0.mk hblk
      clear hk hN hblk hb10
      go_wp2_with fail
      go_ret2
      exact ⟨B10.out, toQ_err HK.out N fn ss rfl (Nat.le_trans B9.out.size HN.out) HBK.out⟩

set_option maxHeartbeats 8000000 in
set_option maxRecDepth 100000 in
theorem to_dec_neg (EV : Nat → Value) (s s1 s2 n : ByteArray) (h0 : s.size ≠ 0) (hsz : s.size ≤ 140737488351232) (hus : hp s ⟨#[95]⟩ = false) (d : Nat) (hd : d ≤ 1) (hdot : cnt 46 s = d) (hneg : hp s ⟨#[45]⟩ = true) (hplus : tp s ⟨#[43]⟩ = s1) (hmin : tp s1 ⟨#[45]⟩ = s2) (hs2 : s2.size ≤ 140737488351232) (hn : strip s2 = n) (hhex : hp n ⟨#[48, 120]⟩ = false) (hoct : hp n ⟨#[48, 111]⟩ = false) (hbin : hp n ⟨#[48, 98]⟩ = false) (hd0 : d = 0) (hzz : hp n ⟨#[48]⟩ = false ∨ (hp n ⟨#[48]⟩ = true ∧ n.size ≤ 1)) (hnz : n.size ≤ 140737488351232) (okv : Value) (k : Nat) (w : World) (HP : ∀ W, Below w.heap.size w W → Calls Tryz.prog 93 #[.string (⟨#[45]⟩ ++ n), .int .i64 10, .int .i64 64] W (NumE okv k EV W)) : Calls Tryz.prog 76 #[.string s] w (ToP EV (outN k ⟨#[100, 101, 99, 105, 109, 97, 108]⟩ (.iface 2 okv) (⟨#[45]⟩ ++ n)) w) := by
  have HC : Aside0 (∀ W, Calls Tryz.prog 90 #[.string s, .string ⟨#[46]⟩] W (Cnt (d : Int) W)) := ⟨fun W => (count_one s 46 (by omega) W).mono fun e w' h => ⟨by rw [h.1, hdot], h.2⟩⟩
  have HPC := Aside0.mk HP
  have hse : ((s.size : Int) == 0) = false := beq_eq_false_iff_ne.mpr (by omega)
  have A0 := Aside0.mk (fun W => hp_any hus W)
  have A2 := Aside0.mk (fun W => hp_any hneg W)
  have A3 := Aside0.mk (fun W => tp_any hplus W)
  have A4 := Aside0.mk (fun W => tp_any hmin W)
  have A5 := Aside0.mk (fun W => sp_any hn (by omega) W)
  have A6 := Aside0.mk (fun W => hp_any hhex W)
  have A7 := Aside0.mk (fun W => hp_any hoct W)
  have A8 := Aside0.mk (fun W => hp_any hbin W)
  have HZC : Aside0 (∀ W b, hp n ⟨#[48]⟩ = b → Calls Tryz.prog 89 #[.string n, .string ⟨#[48]⟩] W (Bo b W)) := ⟨fun W b h => hp_any h W⟩
  subst hd0
  clear HP hus hdot hneg hplus hmin hn hs2 h0 hhex hoct hbin
  rcases hzz with hz | ⟨hz, hz1⟩
  · go_enter Tryz.func76, Tryz.ntmps76
    have B0 := Aside0.mk (Below.refl w.heap.size w)
    go_wp2_with fail
    refine (A0.out _).mono ?_
    rintro e w1 ⟨rfl, hb1⟩
    have B1 := Aside0.mk (B0.out.trans (hb1.mono B0.out.size))
    clear hb1
    go_wp2_with fail
    refine (HC.out _).mono ?_
    rintro e w101 ⟨rfl, rfl⟩
    go_wp2_with fail
    refine (A2.out _).mono ?_
    rintro e w2 ⟨rfl, hb2⟩
    have B2 := Aside0.mk (B1.out.trans (hb2.mono B1.out.size))
    clear hb2
    go_wp2_with fail
    refine (A3.out _).mono ?_
    rintro e w3 ⟨rfl, hb3⟩
    have B3 := Aside0.mk (B2.out.trans (hb3.mono B2.out.size))
    clear hb3
    go_wp2_with fail
    refine (A4.out _).mono ?_
    rintro e w4 ⟨rfl, hb4⟩
    have B4 := Aside0.mk (B3.out.trans (hb4.mono B3.out.size))
    clear hb4
    go_wp2_with fail
    refine (A5.out _).mono ?_
    rintro e w5 ⟨rfl, hb5⟩
    have B5 := Aside0.mk (B4.out.trans (hb5.mono B4.out.size))
    clear hb5
    go_wp2_with fail
    refine (A6.out _).mono ?_
    rintro e w6 ⟨rfl, hb6⟩
    have B6 := Aside0.mk (B5.out.trans (hb6.mono B5.out.size))
    clear hb6
    go_wp2_with fail
    refine (A7.out _).mono ?_
    rintro e w7 ⟨rfl, hb7⟩
    have B7 := Aside0.mk (B6.out.trans (hb7.mono B6.out.size))
    clear hb7
    go_wp2_with fail
    refine (A8.out _).mono ?_
    rintro e w8 ⟨rfl, hb8⟩
    have B8 := Aside0.mk (B7.out.trans (hb8.mono B7.out.size))
    clear hb8
    go_wp2_with fail
    refine (HZC.out _ _ hz).mono ?_
    rintro e w9 ⟨rfl, hb9⟩
    have B9 := Aside0.mk (B8.out.trans (hb9.mono B8.out.size))
    clear hb9 hz
    go_wp2_with fail
    refine (HPC.out _ B9.out).mono ?_
    rintro e w10 ⟨hb10, h10⟩
    have B10 := Aside0.mk (B9.out.trans (hb10.mono B9.out.size))
    rcases h10 with ⟨hk, rfl⟩ | ⟨hk, v, N, fn, ss, rfl, hN, hblk⟩
    · have HK := Aside0.mk hk
      clear hk hb10
      go_wp2_with fail
      go_ret2
      exact ⟨B10.out.alloc B10.out.size _, toQ_ok HK.out _ rfl B10.out.size (blk_new _ _)⟩
    · have HK := Aside0.mk hk
      have HN := Aside0.mk hN
      have HBK := Aside0.mk hblk
      clear hk hN hblk hb10
      go_wp2_with fail
      go_ret2
      exact ⟨B10.out, toQ_err HK.out N fn ss rfl (Nat.le_trans B9.out.size HN.out) HBK.out⟩
  · have hz1' : ¬ (1 : Int) < (n.size : Int) := by omega
    go_enter Tryz.func76, Tryz.ntmps76
    have B0 := Aside0.mk (Below.refl w.heap.size w)
    go_wp2_with fail
    refine (A0.out _).mono ?_
    rintro e w1 ⟨rfl, hb1⟩
    have B1 := Aside0.mk (B0.out.trans (hb1.mono B0.out.size))
    clear hb1
    go_wp2_with fail
    refine (HC.out _).mono ?_
    rintro e w101 ⟨rfl, rfl⟩
    go_wp2_with fail
    refine (A2.out _).mono ?_
    rintro e w2 ⟨rfl, hb2⟩
    have B2 := Aside0.mk (B1.out.trans (hb2.mono B1.out.size))
    clear hb2
    go_wp2_with fail
    refine (A3.out _).mono ?_
    rintro e w3 ⟨rfl, hb3⟩
    have B3 := Aside0.mk (B2.out.trans (hb3.mono B2.out.size))
    clear hb3
    go_wp2_with fail
    refine (A4.out _).mono ?_
    rintro e w4 ⟨rfl, hb4⟩
    have B4 := Aside0.mk (B3.out.trans (hb4.mono B3.out.size))
    clear hb4
    go_wp2_with fail
    refine (A5.out _).mono ?_
    rintro e w5 ⟨rfl, hb5⟩
    have B5 := Aside0.mk (B4.out.trans (hb5.mono B4.out.size))
    clear hb5
    go_wp2_with fail
    refine (A6.out _).mono ?_
    rintro e w6 ⟨rfl, hb6⟩
    have B6 := Aside0.mk (B5.out.trans (hb6.mono B5.out.size))
    clear hb6
    go_wp2_with fail
    refine (A7.out _).mono ?_
    rintro e w7 ⟨rfl, hb7⟩
    have B7 := Aside0.mk (B6.out.trans (hb7.mono B6.out.size))
    clear hb7
    go_wp2_with fail
    refine (A8.out _).mono ?_
    rintro e w8 ⟨rfl, hb8⟩
    have B8 := Aside0.mk (B7.out.trans (hb8.mono B7.out.size))
    clear hb8
    go_wp2_with fail
    refine (HZC.out _ _ hz).mono ?_
    rintro e w9 ⟨rfl, hb9⟩
    have B9 := Aside0.mk (B8.out.trans (hb9.mono B8.out.size))
    clear hb9 hz
    go_wp2_with fail
    refine (HPC.out _ B9.out).mono ?_
    rintro e w10 ⟨hb10, h10⟩
    have B10 := Aside0.mk (B9.out.trans (hb10.mono B9.out.size))
    rcases h10 with ⟨hk, rfl⟩ | ⟨hk, v, N, fn, ss, rfl, hN, hblk⟩
    · have HK := Aside0.mk hk
      clear hk hb10
      go_wp2_with fail
      go_ret2
      exact ⟨B10.out.alloc B10.out.size _, toQ_ok HK.out _ rfl B10.out.size (blk_new _ _)⟩
    · have HK := Aside0.mk hk
      have HN := Aside0.mk hN
      have HBK := Aside0.mk hblk
      clear hk hN hblk hb10
      go_wp2_with fail
      go_ret2
      exact ⟨B10.out, toQ_err HK.out N fn ss rfl (Nat.le_trans B9.out.size HN.out) HBK.out⟩
end Go.Proofs.YtlkbhmmelejmjaaGreatDoor.NumAny

/- Numbers: what toNumber makes of any text; ToNumber. -/
namespace Go.Proofs.YtlkbhmmelejmjaaGreatDoor.NumAll
open Go.RowKit Go.Proofs.YtlkbhmmelejmjaaGreatDoorW.PrintWords Go.Proofs.YtlkbhmmelejmjaaGreatDoor.NumKnown Go.Proofs.YtlkbhmmelejmjaaGreatDoor.NumPure Go.Proofs.YtlkbhmmelejmjaaGreatDoor.NumStrip Go.Proofs.YtlkbhmmelejmjaaGreatDoor.NumErr Go.Proofs.YtlkbhmmelejmjaaGreatDoor.NumInt Go.Proofs.YtlkbhmmelejmjaaGreatDoor.NumAny Go.Proofs.YtlkbhmmelejmjaaGreatDoor.FltAtof Go.Proofs.YtlkbhmmelejmjaaGreatDoor.FltParse
set_option linter.unusedVariables false
set_option linter.unusedSimpArgs false
attribute [local go_sem ↓] Go.wp_at_zero Go.wp_at_succ

def tHex : ByteArray := ⟨#[104, 101, 120]⟩
def tOct : ByteArray := ⟨#[111, 99, 116, 101, 116]⟩
def tBin : ByteArray := ⟨#[98, 105, 110, 97, 114, 121]⟩
def tFlt : ByteArray := ⟨#[102, 108, 111, 97, 116]⟩
def tDec : ByteArray := ⟨#[100, 101, 99, 105, 109, 97, 108]⟩
def iV (a : Int) : Value := .iface 2 (.int .i64 a)
def uV (a : Int) : Value := .iface 34 (.int .u64 a)
def fV (x : Nat) : Value := .iface 35 (.float .f64 x)
/-- A text behind a minus, or itself. -/
def sgd (neg : Bool) (m : ByteArray) : ByteArray := if neg then ⟨#[45]⟩ ++ m else m
def numN (neg : Bool) (b : Nat) (typ m : ByteArray) : Nr :=
  if neg then outN (kd (inE (puE b m))) typ (iV (-(vl (inE (puE b m)) : Nat) : Int)) (⟨#[45]⟩ ++ m)
  else outN (kd (puE b m)) typ (uV (vl (puE b m) : Nat)) m
def numFl (H O X : Nat → Nat) (neg : Bool) (m : ByteArray) : Nr := outN (parF H O X (sgd neg m)).2 tFlt (fV (parF H O X (sgd neg m)).1) (sgd neg m)
/-- The kind by the beginning (d: how many points). -/
def numM (H O X : Nat → Nat) (neg : Bool) (d : Nat) (n : ByteArray) : Nr :=
  if hp n ⟨#[48, 120]⟩ = true then numN neg 16 tHex (tp n ⟨#[48, 120]⟩)
  else if hp n ⟨#[48, 111]⟩ = true then numN neg 8 tOct (tp n ⟨#[48, 111]⟩)
  else if hp n ⟨#[48, 98]⟩ = true then numN neg 2 tBin (tp n ⟨#[48, 98]⟩)
  else if hp n ⟨#[48]⟩ = true ∧ 1 < n.size ∧ d = 0 then numN neg 8 tOct n
  else if d = 1 then numFl H O X neg n
  else numN neg 10 tDec n
/-- What toNumber makes of a text. -/
def numR (H O X : Nat → Nat) (s : ByteArray) : Nr :=
  if s.size = 0 then .none
  else if hp s ⟨#[95]⟩ = true then .none
  else if 1 < cnt 46 s then .none
  else numM H O X (hp s ⟨#[45]⟩) (cnt 46 s) (strip (tp (tp s ⟨#[43]⟩) ⟨#[45]⟩))

theorem tp_size (s p : ByteArray) : (tp s p).size ≤ s.size := by
  unfold tp
  split
  · rw [ByteArray.size_extract]; omega
  · exact Nat.le_refl _
theorem tp_mem {s p : ByteArray} {b : UInt8} (h : b ∈ (tp s p).data.toList) : b ∈ s.data.toList := by
  unfold tp at h
  split at h
  · rw [ext_list] at h
    exact List.mem_of_mem_drop (List.mem_of_mem_take h)
  · exact h
theorem sgd_no {neg : Bool} {m : ByteArray} (h : (95 : UInt8) ∉ m.data.toList) : ∀ i (hi : i < (sgd neg m).size), (sgd neg m)[i].toNat ≠ 95 := by
  intro i hi h95
  have hm : (sgd neg m)[i] ∈ (sgd neg m).data.toList := by
    have : (sgd neg m)[i] = (sgd neg m).data.toList[i]'(by rw [← Lib.size_eq]; exact hi) := rfl
    rw [this]
    exact List.getElem_mem _
  have he : (sgd neg m)[i] = 95 := by
    apply UInt8.toNat_inj.1
    exact h95
  rw [he] at hm
  cases neg
  · exact h hm
  · have : (sgd true m).data.toList = 45 :: m.data.toList := by
      show (⟨#[45]⟩ ++ m : ByteArray).data.toList = _
      rw [ByteArray.data_append]; simp
    rw [this, List.mem_cons] at hm
    rcases hm with hm | hm
    · exact absurd hm (by decide)
    · exact h hm
theorem sgd_size (neg : Bool) (m : ByteArray) : (sgd neg m).size ≤ m.size + 1 := by
  cases neg
  · show m.size ≤ m.size + 1
    omega
  · show (⟨#[45]⟩ ++ m : ByteArray).size ≤ m.size + 1
    rw [ByteArray.size_append]
    have : (ByteArray.mk #[45]).size = 1 := rfl
    omega

set_option maxRecDepth 100000 in
theorem to_empty (EV : Nat → Value) (s : ByteArray) (h : s.size = 0) (w : World) : Calls Tryz.prog 76 #[.string s] w (ToP EV .none w) := by
  have hse : ((s.size : Int) == 0) = true := by rw [h]; rfl
  clear h
  go_enter Tryz.func76, Tryz.ntmps76
  go_wp2_with fail
  go_ret2
  exact ⟨Below.refl _ _, rfl⟩
set_option maxRecDepth 100000 in
theorem to_under (EV : Nat → Value) (s : ByteArray) (h0 : s.size ≠ 0) (hus : hp s ⟨#[95]⟩ = true) (w : World) : Calls Tryz.prog 76 #[.string s] w (ToP EV .none w) := by
  have hse : ((s.size : Int) == 0) = false := beq_eq_false_iff_ne.mpr (by omega)
  have A0 := Aside0.mk (fun W => hp_any hus W)
  clear h0 hus
  go_enter Tryz.func76, Tryz.ntmps76
  go_wp2_with fail
  refine (A0.out _).mono ?_
  rintro e w1 ⟨rfl, hb1⟩
  have B1 := Aside0.mk hb1
  clear hb1
  go_wp2_with fail
  go_ret2
  exact ⟨B1.out, rfl⟩
set_option maxRecDepth 100000 in
theorem to_dots (EV : Nat → Value) (s : ByteArray) (h0 : s.size ≠ 0) (hsz : s.size ≤ 140737488351232) (hus : hp s ⟨#[95]⟩ = false) (hd : 1 < cnt 46 s) (w : World) : Calls Tryz.prog 76 #[.string s] w (ToP EV .none w) := by
  have hse : ((s.size : Int) == 0) = false := beq_eq_false_iff_ne.mpr (by omega)
  have A0 := Aside0.mk (fun W => hp_any hus W)
  obtain ⟨d, hdd⟩ : ∃ d, d = cnt 46 s := ⟨_, rfl⟩
  have HC : Aside0 (∀ W, Calls Tryz.prog 90 #[.string s, .string ⟨#[46]⟩] W (Cnt (d : Int) W)) := ⟨fun W => (count_one s 46 (by omega) W).mono fun e w' h => ⟨by rw [h.1, hdd], h.2⟩⟩
  have hd1 : (1 : Int) < (d : Int) := by omega
  clear h0 hus hdd hd
  go_enter Tryz.func76, Tryz.ntmps76
  go_wp2_with fail
  refine (A0.out _).mono ?_
  rintro e w1 ⟨rfl, hb1⟩
  have B1 := Aside0.mk hb1
  clear hb1
  go_wp2_with fail
  refine (HC.out _).mono ?_
  rintro e w101 ⟨rfl, rfl⟩
  go_wp2_with fail
  go_ret2
  exact ⟨B1.out, rfl⟩

/-- toNumber at any text. -/
theorem to_any (B : Nat) (H O X : Nat → Nat) (EV : Nat → Value) (s : ByteArray) (hsz : s.size ≤ 2147483648) (w : World) (hB : B ≤ w.heap.size) (hT : Tabs B H O X w) (hE : Errs B EV w) : Calls Tryz.prog 76 #[.string s] w (ToP EV (numR H O X s) w) := by
  unfold numR
  by_cases h0 : s.size = 0
  · rw [if_pos h0]; exact to_empty EV s h0 w
  rw [if_neg h0]
  by_cases hus : hp s ⟨#[95]⟩ = true
  · rw [if_pos hus]; exact to_under EV s h0 hus w
  rw [if_neg hus]
  replace hus : hp s ⟨#[95]⟩ = false := by simpa using hus
  by_cases hd : 1 < cnt 46 s
  · rw [if_pos hd]; exact to_dots EV s h0 (by omega) hus hd w
  rw [if_neg hd]
  obtain ⟨n, hn⟩ : ∃ n, n = strip (tp (tp s ⟨#[43]⟩) ⟨#[45]⟩) := ⟨_, rfl⟩
  have h2 : (tp (tp s ⟨#[43]⟩) ⟨#[45]⟩).size ≤ s.size := Nat.le_trans (tp_size _ _) (tp_size _ _)
  have hnz : n.size ≤ s.size := by rw [hn]; exact Nat.le_trans (strip_size _) h2
  have hno : (95 : UInt8) ∉ n.data.toList := by rw [hn]; exact strip_no _
  rw [← hn]
  have hu : ∀ b B', Bs b B' → ∀ t : ByteArray, t.size ≤ 2147483648 → ∀ W, Below w.heap.size w W → Calls Tryz.prog 94 #[.string t, .int .i64 B', .int .i64 64] W (NumE (.int .u64 (vl (puE b t) : Nat)) (kd (puE b t)) EV W) := fun b B' hb t ht W hW => uint_any B EV b B' hb t (by omega) W (Nat.le_trans hB hW.size) (hE.keep hW hB)
  have hi : ∀ b B', Bs b B' → ∀ t : ByteArray, t.size ≤ 2147483648 → ∀ W, Below w.heap.size w W → Calls Tryz.prog 93 #[.string (⟨#[45]⟩ ++ t), .int .i64 B', .int .i64 64] W (NumE (.int .i64 (-(vl (inE (puE b t)) : Nat) : Int)) (kd (inE (puE b t))) EV W) := fun b B' hb t ht W hW => int_any B EV b B' hb t (by omega) W (Nat.le_trans hB hW.size) (hE.keep hW hB)
  have hf : ∀ neg (t : ByteArray), t.size ≤ 2147483648 → (95 : UInt8) ∉ t.data.toList → ∀ W, Below w.heap.size w W → Calls Tryz.prog 47 #[.string (sgd neg t), .int .i64 64] W (NumE (.float .f64 (parF H O X (sgd neg t)).1) (parF H O X (sgd neg t)).2 EV W) := fun neg t ht hno W hW => float_any B H O X EV (sgd neg t) (by have := sgd_size neg t; omega) (sgd_no hno) W (Nat.le_trans hB hW.size) (hT.keep hW hB) (hE.keep hW hB)
  have b16 : Bs 16 16 := .inr (.inr (.inr ⟨rfl, rfl⟩))
  have b8 : Bs 8 8 := .inr (.inl ⟨rfl, rfl⟩)
  have b2 : Bs 2 2 := .inl ⟨rfl, rfl⟩
  have b10 : Bs 10 10 := .inr (.inr (.inl ⟨rfl, rfl⟩))
  have hd1 : cnt 46 s ≤ 1 := by omega
  have htp : ∀ p, (tp n p).size ≤ 2147483648 := fun p => Nat.le_trans (tp_size n p) (by omega)
  unfold numM
  by_cases hhex : hp n ⟨#[48, 120]⟩ = true
  · rw [if_pos hhex]
    cases hneg : hp s ⟨#[45]⟩
    · exact to_hex_pos EV s _ _ n _ h0 (by omega) hus _ hd1 rfl hneg rfl rfl (by omega) hn.symm hhex rfl _ _ w (hu 16 16 b16 _ (htp _))
    · exact to_hex_neg EV s _ _ n _ h0 (by omega) hus _ hd1 rfl hneg rfl rfl (by omega) hn.symm hhex rfl (by have := htp ⟨#[48, 120]⟩; omega) _ _ w (hi 16 16 b16 _ (htp _))
  rw [if_neg hhex]
  replace hhex : hp n ⟨#[48, 120]⟩ = false := by simpa using hhex
  by_cases hoct : hp n ⟨#[48, 111]⟩ = true
  · rw [if_pos hoct]
    cases hneg : hp s ⟨#[45]⟩
    · exact to_oct_pos EV s _ _ n _ h0 (by omega) hus _ hd1 rfl hneg rfl rfl (by omega) hn.symm hhex hoct rfl _ _ w (hu 8 8 b8 _ (htp _))
    · exact to_oct_neg EV s _ _ n _ h0 (by omega) hus _ hd1 rfl hneg rfl rfl (by omega) hn.symm hhex hoct rfl (by have := htp ⟨#[48, 111]⟩; omega) _ _ w (hi 8 8 b8 _ (htp _))
  rw [if_neg hoct]
  replace hoct : hp n ⟨#[48, 111]⟩ = false := by simpa using hoct
  by_cases hbin : hp n ⟨#[48, 98]⟩ = true
  · rw [if_pos hbin]
    cases hneg : hp s ⟨#[45]⟩
    · exact to_bin_pos EV s _ _ n _ h0 (by omega) hus _ hd1 rfl hneg rfl rfl (by omega) hn.symm hhex hoct hbin rfl _ _ w (hu 2 2 b2 _ (htp _))
    · exact to_bin_neg EV s _ _ n _ h0 (by omega) hus _ hd1 rfl hneg rfl rfl (by omega) hn.symm hhex hoct hbin rfl (by have := htp ⟨#[48, 98]⟩; omega) _ _ w (hi 2 2 b2 _ (htp _))
  rw [if_neg hbin]
  replace hbin : hp n ⟨#[48, 98]⟩ = false := by simpa using hbin
  by_cases hz : hp n ⟨#[48]⟩ = true ∧ 1 < n.size ∧ cnt 46 s = 0
  · rw [if_pos hz]
    obtain ⟨z1, z2, z3⟩ := hz
    cases hneg : hp s ⟨#[45]⟩
    · exact to_zero_pos EV s _ _ n h0 (by omega) hus _ hd1 rfl hneg rfl rfl (by omega) hn.symm hhex hoct hbin z1 z2 z3 _ _ w (hu 8 8 b8 _ (by omega))
    · exact to_zero_neg EV s _ _ n h0 (by omega) hus _ hd1 rfl hneg rfl rfl (by omega) hn.symm hhex hoct hbin z1 z2 z3 (by omega) _ _ w (hi 8 8 b8 _ (by omega))
  rw [if_neg hz]
  by_cases hd2 : cnt 46 s = 1
  · rw [if_pos hd2]
    cases hneg : hp s ⟨#[45]⟩
    · exact to_float_pos EV s _ _ n h0 (by omega) hus _ hd1 rfl hneg rfl rfl (by omega) hn.symm hhex hoct hbin hd2 _ _ w (hf false n (by omega) hno)
    · exact to_float_neg EV s _ _ n h0 (by omega) hus _ hd1 rfl hneg rfl rfl (by omega) hn.symm hhex hoct hbin hd2 (by omega) _ _ w (hf true n (by omega) hno)
  rw [if_neg hd2]
  have hd0 : cnt 46 s = 0 := by omega
  have hzz : hp n ⟨#[48]⟩ = false ∨ (hp n ⟨#[48]⟩ = true ∧ n.size ≤ 1) := by
    by_cases z1 : hp n ⟨#[48]⟩ = true
    · exact .inr ⟨z1, Nat.not_lt.1 fun z2 => hz ⟨z1, z2, hd0⟩⟩
    · exact .inl (by simpa using z1)
  cases hneg : hp s ⟨#[45]⟩
  · exact to_dec_pos EV s _ _ n h0 (by omega) hus _ hd1 rfl hneg rfl rfl (by omega) hn.symm hhex hoct hbin hd0 hzz _ _ w (hu 10 10 b10 _ (by omega))
  · exact to_dec_neg EV s _ _ n h0 (by omega) hus _ hd1 rfl hneg rfl rfl (by omega) hn.symm hhex hoct hbin hd0 hzz (by omega) _ _ w (hi 10 10 b10 _ (by omega))

/-- A number's value is an integer, an unsigned one, or a float. -/
def Vk (v : Value) : Prop := (∃ a, v = iV a) ∨ (∃ a, v = uV a) ∨ ∃ x, v = fV x
theorem outN_val {k : Nat} {typ text typ' text' : ByteArray} {v v' : Value} (h : outN k typ v text = .num typ' v' text') : k = 0 ∧ typ = typ' ∧ v = v' ∧ text = text' := by
  unfold outN at h
  split at h
  · next hk => injection h with h1 h2 h3; exact ⟨hk, h1, h2, h3⟩
  · cases h
theorem numN_val {neg : Bool} {b : Nat} {typ m typ' text' : ByteArray} {v' : Value} (h : numN neg b typ m = .num typ' v' text') : Vk v' ∧ typ = typ' := by
  unfold numN at h
  split at h
  · obtain ⟨_, h1, h2, _⟩ := outN_val h; exact ⟨.inl ⟨_, h2.symm⟩, h1⟩
  · obtain ⟨_, h1, h2, _⟩ := outN_val h; exact ⟨.inr (.inl ⟨_, h2.symm⟩), h1⟩
theorem numR_val {H O X : Nat → Nat} {s typ text : ByteArray} {v : Value} (h : numR H O X s = .num typ v text) : Vk v ∧ (typ = tHex ∨ typ = tOct ∨ typ = tBin ∨ typ = tFlt ∨ typ = tDec) := by
  unfold numR at h
  split at h
  · cases h
  split at h
  · cases h
  split at h
  · cases h
  unfold numM at h
  split at h
  · have := numN_val h; exact ⟨this.1, .inl this.2.symm⟩
  split at h
  · have := numN_val h; exact ⟨this.1, .inr (.inl this.2.symm)⟩
  split at h
  · have := numN_val h; exact ⟨this.1, .inr (.inr (.inl this.2.symm))⟩
  split at h
  · have := numN_val h; exact ⟨this.1, .inr (.inl this.2.symm)⟩
  split at h
  · obtain ⟨_, h1, h2, _⟩ := outN_val h; exact ⟨.inr (.inr ⟨_, h2.symm⟩), .inr (.inr (.inr (.inl h1.symm)))⟩
  · have := numN_val h; exact ⟨this.1, .inr (.inr (.inr (.inr this.2.symm)))⟩
/-- A number, or one too great. -/
def Isnum (r : Nr) : Prop := (∃ typ v text, r = .num typ v text) ∨ r = .err 1
end Go.Proofs.YtlkbhmmelejmjaaGreatDoor.NumAll
