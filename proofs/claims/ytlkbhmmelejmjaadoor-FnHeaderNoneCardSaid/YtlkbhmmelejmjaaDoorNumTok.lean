/- Numbers: strconv.ParseUint, ParseInt where they succeed; toNumber of a text without a point; ToNumber. -/
import Derived.Test.YtlkbhmmelejmjaaDoorNumPure
import Derived.Test.YtlkbhmmelejmjaaDoorNumParse
import Derived.Deep.RegionHeld3
import Derived.Deep.DrawnRows
namespace Go.Proofs.YtlkbhmmelejmjaaDoor.NumTok
open Go.RowKit Go.Proofs.YtlkbhmmelejmjaaDoorW.PrintWords Go.Proofs.YtlkbhmmelejmjaaDoor.NumKnown Go.Proofs.YtlkbhmmelejmjaaDoor.NumPure Go.Proofs.YtlkbhmmelejmjaaDoor.NumParse
set_option linter.unusedVariables false
set_option linter.unusedSimpArgs false
attribute [local go_sem ↓] Go.wp_at_zero Go.wp_at_succ

def UOk (a : Int) (w : World) (e : Ending) (w' : World) : Prop := e = .returned (.tuple #[.int .u64 a, .nilIface]) ∧ Below w.heap.size w w'
def IOk (a : Int) (w : World) (e : Ending) (w' : World) : Prop := e = .returned (.tuple #[.int .i64 a, .nilIface]) ∧ Below w.heap.size w w'

theorem pu_ok {t : ByteArray} {b n : Nat} {B a : Int} (ha : a = (n : Int)) (H : ∀ W, Calls Tryd.prog 44 #[.string t, .int .i64 B, .int .i64 64] W (PUd t b W)) (h : pu b 0 t.data.toList = .ok n) (W : World) : Calls Tryd.prog 44 #[.string t, .int .i64 B, .int .i64 64] W (UOk a W) :=
  (H W).mono fun e w' hh => ⟨by rw [hh.1, h, ha]; rfl, hh.2⟩

theorem uint_ok (t : ByteArray) (B a : Int) (H : ∀ W, Calls Tryd.prog 44 #[.string t, .int .i64 B, .int .i64 64] W (UOk a W)) (w : World) : Calls Tryd.prog 33 #[.string t, .int .i64 B, .int .i64 64] w (UOk a w) := by
  have C := Aside0.mk H
  clear H
  go_enter Tryd.func33, Tryd.ntmps33
  go_wp2_with fail
  refine (C.out _).mono ?_
  rintro e w1 ⟨rfl, hb⟩
  go_wp2_with fail
  go_ret2
  exact ⟨rfl, hb⟩

theorem minus_neq (a b : Int) : True := trivial
set_option maxRecDepth 100000 in
theorem int_ok (r t : ByteArray) (B a : Int) (h0 : 0 ≤ a) (h1 : a ≤ 9223372036854775808) (ht : t = ⟨#[45]⟩ ++ r) (hs : r.size ≤ 9223372036854775806) (H : ∀ W, Calls Tryd.prog 44 #[.string r, .int .i64 B, .int .i64 64] W (UOk a W)) (w : World) : Calls Tryd.prog 43 #[.string t, .int .i64 B, .int .i64 64] w (IOk (-a) w) := by
  have C := Aside0.mk H
  have hd : t.data.toList = 45 :: r.data.toList := by rw [ht, ByteArray.data_append]; simp
  have hsz : t.size = r.size + 1 := by rw [Lib.size_eq, hd, Lib.size_eq]; rfl
  have hemp : t.toList.isEmpty = false := by rw [Lib.toList_data, hd]; rfl
  have hx : t.extract 1 t.size = r := by
    rw [Lib.extract_eq, hd, hsz, Nat.add_sub_cancel]
    rw [List.drop_succ_cons, List.drop_zero, List.take_of_length_le (by rw [← Lib.size_eq]; exact Nat.le_refl _)]
  have h45 : ∀ h, ((t[0]'h).toNat : Int) = 45 := fun h => by
    have : t[0]'h = t.data.toList[0]'(by rw [← Lib.size_eq]; exact h) := rfl
    rw [this]; simp [hd]
  have HW : Aside0 (wrap64 (-wrap64 a) = -a) := ⟨by unfold wrap64; omega⟩
  have h63 : ¬ 9223372036854775808 < a := by omega
  have hs0 : 0 < t.size := by omega
  have hs1 : 1 ≤ t.size := by omega
  clear H hd hsz ht
  go_enter Tryd.func43, Tryd.ntmps43
  go_wp2_with fail
  refine (C.out _).mono ?_
  rintro e w1 ⟨rfl, hb⟩
  have HB := Aside0.mk hb
  clear hb
  go_wp2_with fail
  go_ret2
  refine ⟨?_, HB.out⟩
  show Ending.returned (.tuple #[.int .i64 (wrap64 (-wrap64 a)), .nilIface]) = _
  rw [HW.out]

theorem pint_ok (t : ByteArray) (B a : Int) (H : ∀ W, Calls Tryd.prog 43 #[.string t, .int .i64 B, .int .i64 64] W (IOk a W)) (w : World) : Calls Tryd.prog 32 #[.string t, .int .i64 B, .int .i64 64] w (IOk a w) := by
  have C := Aside0.mk H
  clear H
  go_enter Tryd.func32, Tryd.ntmps32
  go_wp2_with fail
  refine (C.out _).mono ?_
  rintro e w1 ⟨rfl, hb⟩
  go_wp2_with fail
  go_ret2
  exact ⟨rfl, hb⟩

def Bo (b : Bool) (w : World) (e : Ending) (w' : World) : Prop := e = .returned (.bool b) ∧ Below w.heap.size w w'
def Str (t : ByteArray) (w : World) (e : Ending) (w' : World) : Prop := e = .returned (.string t) ∧ Below w.heap.size w w'
theorem hp_any {s p : ByteArray} {b : Bool} (h : hp s p = b) (w : World) : Calls Tryd.prog 28 #[.string s, .string p] w (Bo b w) :=
  (strings_HasPrefix.calls s p b w (by rw [HP_f, h])).mono fun e w' hh => ⟨hh.1, hh.2.below⟩
theorem tp_any {s p t : ByteArray} (h : tp s p = t) (w : World) : Calls Tryd.prog 31 #[.string s, .string p] w (Str t w) :=
  (strings_TrimPrefix.calls s p t w (by rw [TP_f, h])).mono fun e w' hh => ⟨hh.1, hh.2.below⟩
theorem rep_any {s : ByteArray} (hn : (95 : UInt8) ∉ s.data.toList) (hs : s.size ≤ 140737488355327) (w : World) : Calls Tryd.prog 30 #[.string s, .string ⟨#[95]⟩, .string ⟨#[]⟩] w (Str s w) :=
  (token_zzReplaceAll.calls (s.size + 3) s ⟨#[95]⟩ ⟨#[]⟩ s w (rep_none (b := 95) rfl hn hs (by decide) (by decide) _ (by omega))).mono fun e w' hh => ⟨hh.1, hh.2⟩

/-- A number in memory. -/
def Numb (typ : ByteArray) (v : Value) (text : ByteArray) (w : World) (e : Ending) (w' : World) : Prop := ∃ p, e = .returned (.tuple #[.pointer (some ⟨p, 0, none⟩), .nilIface]) ∧ w.heap.size ≤ p ∧ w'.heap[p]? = some (.cells #[.string typ, v, .string text] 43 (0, 0)) ∧ Below w.heap.size w w'

set_option maxHeartbeats 4000000 in
set_option maxRecDepth 100000 in
theorem toNum_pos (s n : ByteArray) (a : Int) (h0 : s.size ≠ 0) (hsz : s.size ≤ 140737488355327) (hus : hp s ⟨#[95]⟩ = false) (hdot : cnt 46 s = 0) (hneg : hp s ⟨#[45]⟩ = false) (hplus : tp s ⟨#[43]⟩ = s) (hmin : tp s ⟨#[45]⟩ = n) (hn : (95 : UInt8) ∉ n.data.toList) (hnz : n.size ≤ 140737488355327) (hhex : hp n ⟨#[48, 120]⟩ = false) (hoct : hp n ⟨#[48, 111]⟩ = false) (hbin : hp n ⟨#[48, 98]⟩ = false) (hz : hp n ⟨#[48]⟩ = false ∨ (hp n ⟨#[48]⟩ = true ∧ n.size ≤ 1)) (HP : ∀ W, Calls Tryd.prog 33 #[.string n, .int .i64 10, .int .i64 64] W (UOk a W)) (w : World) : Calls Tryd.prog 21 #[.string s] w (Numb ⟨#[100, 101, 99, 105, 109, 97, 108]⟩ (.iface 22 (.int .u64 a)) n w) := by
  have HC : Aside0 (∀ W, Calls Tryd.prog 29 #[.string s, .string ⟨#[46]⟩] W (Cnt 0 W)) := ⟨fun W => (count_one s 46 (by omega) W).mono fun e w' h => ⟨by rw [h.1, hdot]; rfl, h.2⟩⟩
  have HPC := Aside0.mk HP
  have hse : ((s.size : Int) == 0) = false := beq_eq_false_iff_ne.mpr (by omega)
  have A0 := Aside0.mk (fun W => hp_any hus W)
  have A2 := Aside0.mk (fun W => hp_any hneg W)
  have A3 := Aside0.mk (fun W => tp_any hplus W)
  have A4 := Aside0.mk (fun W => tp_any hmin W)
  have A5 := Aside0.mk (fun W => rep_any hn hnz W)
  have A6 := Aside0.mk (fun W => hp_any hhex W)
  have A7 := Aside0.mk (fun W => hp_any hoct W)
  have A8 := Aside0.mk (fun W => hp_any hbin W)
  have HZC : Aside0 (∀ W b, hp n ⟨#[48]⟩ = b → Calls Tryd.prog 28 #[.string n, .string ⟨#[48]⟩] W (Bo b W)) := ⟨fun W b h => hp_any h W⟩
  clear HP hus hdot hneg hplus hmin hn hhex hoct hbin
  rcases hz with hz | ⟨hz, hz1⟩
  · go_enter Tryd.func21, Tryd.ntmps21
    have B0 := Aside0.mk (Below.refl w.heap.size w)
    go_wp2_with fail
    refine (A0.out _).mono ?_
    rintro e w1 ⟨rfl, hb1⟩
    have B1 := Aside0.mk (B0.out.trans (hb1.mono B0.out.size))
    clear hb1
    go_wp2_with fail
    refine (HC.out _).mono ?_
    rintro e w101 ⟨rfl, rfl⟩
    go_wp2_with fail
    refine (A2.out _).mono ?_
    rintro e w2 ⟨rfl, hb2⟩
    have B2 := Aside0.mk (B1.out.trans (hb2.mono B1.out.size))
    clear hb2
    go_wp2_with fail
    refine (A3.out _).mono ?_
    rintro e w3 ⟨rfl, hb3⟩
    have B3 := Aside0.mk (B2.out.trans (hb3.mono B2.out.size))
    clear hb3
    go_wp2_with fail
    refine (A4.out _).mono ?_
    rintro e w4 ⟨rfl, hb4⟩
    have B4 := Aside0.mk (B3.out.trans (hb4.mono B3.out.size))
    clear hb4
    go_wp2_with fail
    refine (A5.out _).mono ?_
    rintro e w5 ⟨rfl, hb5⟩
    have B5 := Aside0.mk (B4.out.trans (hb5.mono B4.out.size))
    clear hb5
    go_wp2_with fail
    refine (A6.out _).mono ?_
    rintro e w6 ⟨rfl, hb6⟩
    have B6 := Aside0.mk (B5.out.trans (hb6.mono B5.out.size))
    clear hb6
    go_wp2_with fail
    refine (A7.out _).mono ?_
    rintro e w7 ⟨rfl, hb7⟩
    have B7 := Aside0.mk (B6.out.trans (hb7.mono B6.out.size))
    clear hb7
    go_wp2_with fail
    refine (A8.out _).mono ?_
    rintro e w8 ⟨rfl, hb8⟩
    have B8 := Aside0.mk (B7.out.trans (hb8.mono B7.out.size))
    clear hb8
    go_wp2_with fail
    refine (HZC.out _ _ hz).mono ?_
    rintro e w9 ⟨rfl, hb9⟩
    have B9 := Aside0.mk (B8.out.trans (hb9.mono B8.out.size))
    clear hb9 hz
    go_wp2_with fail
    refine (HPC.out _).mono ?_
    rintro e w10 ⟨rfl, hb10⟩
    have B10 := Aside0.mk (B9.out.trans (hb10.mono B9.out.size))
    clear hb10
    go_wp2_with fail
    go_ret2
    exact ⟨_, rfl, B10.out.size, blk_new _ _, B10.out.alloc B10.out.size _⟩
  · have hz1' : ¬ (1 : Int) < (n.size : Int) := by omega
    go_enter Tryd.func21, Tryd.ntmps21
    have B0 := Aside0.mk (Below.refl w.heap.size w)
    go_wp2_with fail
    refine (A0.out _).mono ?_
    rintro e w1 ⟨rfl, hb1⟩
    have B1 := Aside0.mk (B0.out.trans (hb1.mono B0.out.size))
    clear hb1
    go_wp2_with fail
    refine (HC.out _).mono ?_
    rintro e w101 ⟨rfl, rfl⟩
    go_wp2_with fail
    refine (A2.out _).mono ?_
    rintro e w2 ⟨rfl, hb2⟩
    have B2 := Aside0.mk (B1.out.trans (hb2.mono B1.out.size))
    clear hb2
    go_wp2_with fail
    refine (A3.out _).mono ?_
    rintro e w3 ⟨rfl, hb3⟩
    have B3 := Aside0.mk (B2.out.trans (hb3.mono B2.out.size))
    clear hb3
    go_wp2_with fail
    refine (A4.out _).mono ?_
    rintro e w4 ⟨rfl, hb4⟩
    have B4 := Aside0.mk (B3.out.trans (hb4.mono B3.out.size))
    clear hb4
    go_wp2_with fail
    refine (A5.out _).mono ?_
    rintro e w5 ⟨rfl, hb5⟩
    have B5 := Aside0.mk (B4.out.trans (hb5.mono B4.out.size))
    clear hb5
    go_wp2_with fail
    refine (A6.out _).mono ?_
    rintro e w6 ⟨rfl, hb6⟩
    have B6 := Aside0.mk (B5.out.trans (hb6.mono B5.out.size))
    clear hb6
    go_wp2_with fail
    refine (A7.out _).mono ?_
    rintro e w7 ⟨rfl, hb7⟩
    have B7 := Aside0.mk (B6.out.trans (hb7.mono B6.out.size))
    clear hb7
    go_wp2_with fail
    refine (A8.out _).mono ?_
    rintro e w8 ⟨rfl, hb8⟩
    have B8 := Aside0.mk (B7.out.trans (hb8.mono B7.out.size))
    clear hb8
    go_wp2_with fail
    refine (HZC.out _ _ hz).mono ?_
    rintro e w9 ⟨rfl, hb9⟩
    have B9 := Aside0.mk (B8.out.trans (hb9.mono B8.out.size))
    clear hb9 hz
    go_wp2_with fail
    refine (HPC.out _).mono ?_
    rintro e w10 ⟨rfl, hb10⟩
    have B10 := Aside0.mk (B9.out.trans (hb10.mono B9.out.size))
    clear hb10
    go_wp2_with fail
    go_ret2
    exact ⟨_, rfl, B10.out.size, blk_new _ _, B10.out.alloc B10.out.size _⟩

set_option maxHeartbeats 4000000 in
set_option maxRecDepth 100000 in
theorem toNum_neg (s n : ByteArray) (a : Int) (h0 : s.size ≠ 0) (hsz : s.size ≤ 140737488355327) (hus : hp s ⟨#[95]⟩ = false) (hdot : cnt 46 s = 0) (hneg : hp s ⟨#[45]⟩ = true) (hplus : tp s ⟨#[43]⟩ = s) (hmin : tp s ⟨#[45]⟩ = n) (hn : (95 : UInt8) ∉ n.data.toList) (hnz : n.size ≤ 140737488355327) (hhex : hp n ⟨#[48, 120]⟩ = false) (hoct : hp n ⟨#[48, 111]⟩ = false) (hbin : hp n ⟨#[48, 98]⟩ = false) (hz : hp n ⟨#[48]⟩ = false ∨ (hp n ⟨#[48]⟩ = true ∧ n.size ≤ 1)) (HP : ∀ W, Calls Tryd.prog 32 #[.string (⟨#[45]⟩ ++ n), .int .i64 10, .int .i64 64] W (IOk a W)) (w : World) : Calls Tryd.prog 21 #[.string s] w (Numb ⟨#[100, 101, 99, 105, 109, 97, 108]⟩ (.iface 2 (.int .i64 a)) (⟨#[45]⟩ ++ n) w) := by
  have HC : Aside0 (∀ W, Calls Tryd.prog 29 #[.string s, .string ⟨#[46]⟩] W (Cnt 0 W)) := ⟨fun W => (count_one s 46 (by omega) W).mono fun e w' h => ⟨by rw [h.1, hdot]; rfl, h.2⟩⟩
  have HPC := Aside0.mk HP
  have hse : ((s.size : Int) == 0) = false := beq_eq_false_iff_ne.mpr (by omega)
  have A0 := Aside0.mk (fun W => hp_any hus W)
  have A2 := Aside0.mk (fun W => hp_any hneg W)
  have A3 := Aside0.mk (fun W => tp_any hplus W)
  have A4 := Aside0.mk (fun W => tp_any hmin W)
  have A5 := Aside0.mk (fun W => rep_any hn hnz W)
  have A6 := Aside0.mk (fun W => hp_any hhex W)
  have A7 := Aside0.mk (fun W => hp_any hoct W)
  have A8 := Aside0.mk (fun W => hp_any hbin W)
  have HZC : Aside0 (∀ W b, hp n ⟨#[48]⟩ = b → Calls Tryd.prog 28 #[.string n, .string ⟨#[48]⟩] W (Bo b W)) := ⟨fun W b h => hp_any h W⟩
  clear HP hus hdot hneg hplus hmin hn hhex hoct hbin
  rcases hz with hz | ⟨hz, hz1⟩
  · go_enter Tryd.func21, Tryd.ntmps21
    have B0 := Aside0.mk (Below.refl w.heap.size w)
    go_wp2_with fail
    refine (A0.out _).mono ?_
    rintro e w1 ⟨rfl, hb1⟩
    have B1 := Aside0.mk (B0.out.trans (hb1.mono B0.out.size))
    clear hb1
    go_wp2_with fail
    refine (HC.out _).mono ?_
    rintro e w101 ⟨rfl, rfl⟩
    go_wp2_with fail
    refine (A2.out _).mono ?_
    rintro e w2 ⟨rfl, hb2⟩
    have B2 := Aside0.mk (B1.out.trans (hb2.mono B1.out.size))
    clear hb2
    go_wp2_with fail
    refine (A3.out _).mono ?_
    rintro e w3 ⟨rfl, hb3⟩
    have B3 := Aside0.mk (B2.out.trans (hb3.mono B2.out.size))
    clear hb3
    go_wp2_with fail
    refine (A4.out _).mono ?_
    rintro e w4 ⟨rfl, hb4⟩
    have B4 := Aside0.mk (B3.out.trans (hb4.mono B3.out.size))
    clear hb4
    go_wp2_with fail
    refine (A5.out _).mono ?_
    rintro e w5 ⟨rfl, hb5⟩
    have B5 := Aside0.mk (B4.out.trans (hb5.mono B4.out.size))
    clear hb5
    go_wp2_with fail
    refine (A6.out _).mono ?_
    rintro e w6 ⟨rfl, hb6⟩
    have B6 := Aside0.mk (B5.out.trans (hb6.mono B5.out.size))
    clear hb6
    go_wp2_with fail
    refine (A7.out _).mono ?_
    rintro e w7 ⟨rfl, hb7⟩
    have B7 := Aside0.mk (B6.out.trans (hb7.mono B6.out.size))
    clear hb7
    go_wp2_with fail
    refine (A8.out _).mono ?_
    rintro e w8 ⟨rfl, hb8⟩
    have B8 := Aside0.mk (B7.out.trans (hb8.mono B7.out.size))
    clear hb8
    go_wp2_with fail
    refine (HZC.out _ _ hz).mono ?_
    rintro e w9 ⟨rfl, hb9⟩
    have B9 := Aside0.mk (B8.out.trans (hb9.mono B8.out.size))
    clear hb9 hz
    go_wp2_with fail
    refine (HPC.out _).mono ?_
    rintro e w10 ⟨rfl, hb10⟩
    have B10 := Aside0.mk (B9.out.trans (hb10.mono B9.out.size))
    clear hb10
    go_wp2_with fail
    go_ret2
    exact ⟨_, rfl, B10.out.size, blk_new _ _, B10.out.alloc B10.out.size _⟩
  · have hz1' : ¬ (1 : Int) < (n.size : Int) := by omega
    go_enter Tryd.func21, Tryd.ntmps21
    have B0 := Aside0.mk (Below.refl w.heap.size w)
    go_wp2_with fail
    refine (A0.out _).mono ?_
    rintro e w1 ⟨rfl, hb1⟩
    have B1 := Aside0.mk (B0.out.trans (hb1.mono B0.out.size))
    clear hb1
    go_wp2_with fail
    refine (HC.out _).mono ?_
    rintro e w101 ⟨rfl, rfl⟩
    go_wp2_with fail
    refine (A2.out _).mono ?_
    rintro e w2 ⟨rfl, hb2⟩
    have B2 := Aside0.mk (B1.out.trans (hb2.mono B1.out.size))
    clear hb2
    go_wp2_with fail
    refine (A3.out _).mono ?_
    rintro e w3 ⟨rfl, hb3⟩
    have B3 := Aside0.mk (B2.out.trans (hb3.mono B2.out.size))
    clear hb3
    go_wp2_with fail
    refine (A4.out _).mono ?_
    rintro e w4 ⟨rfl, hb4⟩
    have B4 := Aside0.mk (B3.out.trans (hb4.mono B3.out.size))
    clear hb4
    go_wp2_with fail
    refine (A5.out _).mono ?_
    rintro e w5 ⟨rfl, hb5⟩
    have B5 := Aside0.mk (B4.out.trans (hb5.mono B4.out.size))
    clear hb5
    go_wp2_with fail
    refine (A6.out _).mono ?_
    rintro e w6 ⟨rfl, hb6⟩
    have B6 := Aside0.mk (B5.out.trans (hb6.mono B5.out.size))
    clear hb6
    go_wp2_with fail
    refine (A7.out _).mono ?_
    rintro e w7 ⟨rfl, hb7⟩
    have B7 := Aside0.mk (B6.out.trans (hb7.mono B6.out.size))
    clear hb7
    go_wp2_with fail
    refine (A8.out _).mono ?_
    rintro e w8 ⟨rfl, hb8⟩
    have B8 := Aside0.mk (B7.out.trans (hb8.mono B7.out.size))
    clear hb8
    go_wp2_with fail
    refine (HZC.out _ _ hz).mono ?_
    rintro e w9 ⟨rfl, hb9⟩
    have B9 := Aside0.mk (B8.out.trans (hb9.mono B8.out.size))
    clear hb9 hz
    go_wp2_with fail
    refine (HPC.out _).mono ?_
    rintro e w10 ⟨rfl, hb10⟩
    have B10 := Aside0.mk (B9.out.trans (hb10.mono B9.out.size))
    clear hb10
    go_wp2_with fail
    go_ret2
    exact ⟨_, rfl, B10.out.size, blk_new _ _, B10.out.alloc B10.out.size _⟩

set_option maxHeartbeats 4000000 in
set_option maxRecDepth 100000 in
theorem toNum_hex (s n r : ByteArray) (a : Int) (h0 : s.size ≠ 0) (hsz : s.size ≤ 140737488355327) (hus : hp s ⟨#[95]⟩ = false) (hdot : cnt 46 s = 0) (hneg : hp s ⟨#[45]⟩ = false) (hplus : tp s ⟨#[43]⟩ = s) (hmin : tp s ⟨#[45]⟩ = n) (hn : (95 : UInt8) ∉ n.data.toList) (hnz : n.size ≤ 140737488355327) (hhex : hp n ⟨#[48, 120]⟩ = true) (hr : tp n ⟨#[48, 120]⟩ = r) (HP : ∀ W, Calls Tryd.prog 33 #[.string r, .int .i64 16, .int .i64 64] W (UOk a W)) (w : World) : Calls Tryd.prog 21 #[.string s] w (Numb ⟨#[104, 101, 120]⟩ (.iface 22 (.int .u64 a)) r w) := by
  have HC : Aside0 (∀ W, Calls Tryd.prog 29 #[.string s, .string ⟨#[46]⟩] W (Cnt 0 W)) := ⟨fun W => (count_one s 46 (by omega) W).mono fun e w' h => ⟨by rw [h.1, hdot]; rfl, h.2⟩⟩
  have HPC := Aside0.mk HP
  have hse : ((s.size : Int) == 0) = false := beq_eq_false_iff_ne.mpr (by omega)
  have A0 := Aside0.mk (fun W => hp_any hus W)
  have A2 := Aside0.mk (fun W => hp_any hneg W)
  have A3 := Aside0.mk (fun W => tp_any hplus W)
  have A4 := Aside0.mk (fun W => tp_any hmin W)
  have A5 := Aside0.mk (fun W => rep_any hn hnz W)
  have A6 := Aside0.mk (fun W => hp_any hhex W)
  have A7 := Aside0.mk (fun W => tp_any hr W)
  clear HP hus hdot hneg hplus hmin hn hhex hr
  go_enter Tryd.func21, Tryd.ntmps21
  have B0 := Aside0.mk (Below.refl w.heap.size w)
  go_wp2_with fail
  refine (A0.out _).mono ?_
  rintro e w1 ⟨rfl, hb1⟩
  have B1 := Aside0.mk (B0.out.trans (hb1.mono B0.out.size))
  clear hb1
  go_wp2_with fail
  refine (HC.out _).mono ?_
  rintro e w101 ⟨rfl, rfl⟩
  go_wp2_with fail
  refine (A2.out _).mono ?_
  rintro e w2 ⟨rfl, hb2⟩
  have B2 := Aside0.mk (B1.out.trans (hb2.mono B1.out.size))
  clear hb2
  go_wp2_with fail
  refine (A3.out _).mono ?_
  rintro e w3 ⟨rfl, hb3⟩
  have B3 := Aside0.mk (B2.out.trans (hb3.mono B2.out.size))
  clear hb3
  go_wp2_with fail
  refine (A4.out _).mono ?_
  rintro e w4 ⟨rfl, hb4⟩
  have B4 := Aside0.mk (B3.out.trans (hb4.mono B3.out.size))
  clear hb4
  go_wp2_with fail
  refine (A5.out _).mono ?_
  rintro e w5 ⟨rfl, hb5⟩
  have B5 := Aside0.mk (B4.out.trans (hb5.mono B4.out.size))
  clear hb5
  go_wp2_with fail
  refine (A6.out _).mono ?_
  rintro e w6 ⟨rfl, hb6⟩
  have B6 := Aside0.mk (B5.out.trans (hb6.mono B5.out.size))
  clear hb6
  go_wp2_with fail
  refine (A7.out _).mono ?_
  rintro e w7 ⟨rfl, hb7⟩
  have B7 := Aside0.mk (B6.out.trans (hb7.mono B6.out.size))
  clear hb7
  go_wp2_with fail
  refine (HPC.out _).mono ?_
  rintro e w8 ⟨rfl, hb8⟩
  have B8 := Aside0.mk (B7.out.trans (hb8.mono B7.out.size))
  clear hb8
  go_wp2_with fail
  go_ret2
  exact ⟨_, rfl, B8.out.size, blk_new _ _, B8.out.alloc B8.out.size _⟩

set_option maxHeartbeats 4000000 in
set_option maxRecDepth 100000 in
theorem toNum_oct (s n r : ByteArray) (a : Int) (h0 : s.size ≠ 0) (hsz : s.size ≤ 140737488355327) (hus : hp s ⟨#[95]⟩ = false) (hdot : cnt 46 s = 0) (hneg : hp s ⟨#[45]⟩ = false) (hplus : tp s ⟨#[43]⟩ = s) (hmin : tp s ⟨#[45]⟩ = n) (hn : (95 : UInt8) ∉ n.data.toList) (hnz : n.size ≤ 140737488355327) (hhex : hp n ⟨#[48, 120]⟩ = false) (hoct : hp n ⟨#[48, 111]⟩ = true) (hr : tp n ⟨#[48, 111]⟩ = r) (HP : ∀ W, Calls Tryd.prog 33 #[.string r, .int .i64 8, .int .i64 64] W (UOk a W)) (w : World) : Calls Tryd.prog 21 #[.string s] w (Numb ⟨#[111, 99, 116, 101, 116]⟩ (.iface 22 (.int .u64 a)) r w) := by
  have HC : Aside0 (∀ W, Calls Tryd.prog 29 #[.string s, .string ⟨#[46]⟩] W (Cnt 0 W)) := ⟨fun W => (count_one s 46 (by omega) W).mono fun e w' h => ⟨by rw [h.1, hdot]; rfl, h.2⟩⟩
  have HPC := Aside0.mk HP
  have hse : ((s.size : Int) == 0) = false := beq_eq_false_iff_ne.mpr (by omega)
  have A0 := Aside0.mk (fun W => hp_any hus W)
  have A2 := Aside0.mk (fun W => hp_any hneg W)
  have A3 := Aside0.mk (fun W => tp_any hplus W)
  have A4 := Aside0.mk (fun W => tp_any hmin W)
  have A5 := Aside0.mk (fun W => rep_any hn hnz W)
  have A6 := Aside0.mk (fun W => hp_any hhex W)
  have A7 := Aside0.mk (fun W => hp_any hoct W)
  have A8 := Aside0.mk (fun W => tp_any hr W)
  clear HP hus hdot hneg hplus hmin hn hhex hoct hr
  go_enter Tryd.func21, Tryd.ntmps21
  have B0 := Aside0.mk (Below.refl w.heap.size w)
  go_wp2_with fail
  refine (A0.out _).mono ?_
  rintro e w1 ⟨rfl, hb1⟩
  have B1 := Aside0.mk (B0.out.trans (hb1.mono B0.out.size))
  clear hb1
  go_wp2_with fail
  refine (HC.out _).mono ?_
  rintro e w101 ⟨rfl, rfl⟩
  go_wp2_with fail
  refine (A2.out _).mono ?_
  rintro e w2 ⟨rfl, hb2⟩
  have B2 := Aside0.mk (B1.out.trans (hb2.mono B1.out.size))
  clear hb2
  go_wp2_with fail
  refine (A3.out _).mono ?_
  rintro e w3 ⟨rfl, hb3⟩
  have B3 := Aside0.mk (B2.out.trans (hb3.mono B2.out.size))
  clear hb3
  go_wp2_with fail
  refine (A4.out _).mono ?_
  rintro e w4 ⟨rfl, hb4⟩
  have B4 := Aside0.mk (B3.out.trans (hb4.mono B3.out.size))
  clear hb4
  go_wp2_with fail
  refine (A5.out _).mono ?_
  rintro e w5 ⟨rfl, hb5⟩
  have B5 := Aside0.mk (B4.out.trans (hb5.mono B4.out.size))
  clear hb5
  go_wp2_with fail
  refine (A6.out _).mono ?_
  rintro e w6 ⟨rfl, hb6⟩
  have B6 := Aside0.mk (B5.out.trans (hb6.mono B5.out.size))
  clear hb6
  go_wp2_with fail
  refine (A7.out _).mono ?_
  rintro e w7 ⟨rfl, hb7⟩
  have B7 := Aside0.mk (B6.out.trans (hb7.mono B6.out.size))
  clear hb7
  go_wp2_with fail
  refine (A8.out _).mono ?_
  rintro e w8 ⟨rfl, hb8⟩
  have B8 := Aside0.mk (B7.out.trans (hb8.mono B7.out.size))
  clear hb8
  go_wp2_with fail
  refine (HPC.out _).mono ?_
  rintro e w9 ⟨rfl, hb9⟩
  have B9 := Aside0.mk (B8.out.trans (hb9.mono B8.out.size))
  clear hb9
  go_wp2_with fail
  go_ret2
  exact ⟨_, rfl, B9.out.size, blk_new _ _, B9.out.alloc B9.out.size _⟩

set_option maxHeartbeats 4000000 in
set_option maxRecDepth 100000 in
theorem toNum_bin (s n r : ByteArray) (a : Int) (h0 : s.size ≠ 0) (hsz : s.size ≤ 140737488355327) (hus : hp s ⟨#[95]⟩ = false) (hdot : cnt 46 s = 0) (hneg : hp s ⟨#[45]⟩ = false) (hplus : tp s ⟨#[43]⟩ = s) (hmin : tp s ⟨#[45]⟩ = n) (hn : (95 : UInt8) ∉ n.data.toList) (hnz : n.size ≤ 140737488355327) (hhex : hp n ⟨#[48, 120]⟩ = false) (hoct : hp n ⟨#[48, 111]⟩ = false) (hbin : hp n ⟨#[48, 98]⟩ = true) (hr : tp n ⟨#[48, 98]⟩ = r) (HP : ∀ W, Calls Tryd.prog 33 #[.string r, .int .i64 2, .int .i64 64] W (UOk a W)) (w : World) : Calls Tryd.prog 21 #[.string s] w (Numb ⟨#[98, 105, 110, 97, 114, 121]⟩ (.iface 22 (.int .u64 a)) r w) := by
  have HC : Aside0 (∀ W, Calls Tryd.prog 29 #[.string s, .string ⟨#[46]⟩] W (Cnt 0 W)) := ⟨fun W => (count_one s 46 (by omega) W).mono fun e w' h => ⟨by rw [h.1, hdot]; rfl, h.2⟩⟩
  have HPC := Aside0.mk HP
  have hse : ((s.size : Int) == 0) = false := beq_eq_false_iff_ne.mpr (by omega)
  have A0 := Aside0.mk (fun W => hp_any hus W)
  have A2 := Aside0.mk (fun W => hp_any hneg W)
  have A3 := Aside0.mk (fun W => tp_any hplus W)
  have A4 := Aside0.mk (fun W => tp_any hmin W)
  have A5 := Aside0.mk (fun W => rep_any hn hnz W)
  have A6 := Aside0.mk (fun W => hp_any hhex W)
  have A7 := Aside0.mk (fun W => hp_any hoct W)
  have A8 := Aside0.mk (fun W => hp_any hbin W)
  have A9 := Aside0.mk (fun W => tp_any hr W)
  clear HP hus hdot hneg hplus hmin hn hhex hoct hbin hr
  go_enter Tryd.func21, Tryd.ntmps21
  have B0 := Aside0.mk (Below.refl w.heap.size w)
  go_wp2_with fail
  refine (A0.out _).mono ?_
  rintro e w1 ⟨rfl, hb1⟩
  have B1 := Aside0.mk (B0.out.trans (hb1.mono B0.out.size))
  clear hb1
  go_wp2_with fail
  refine (HC.out _).mono ?_
  rintro e w101 ⟨rfl, rfl⟩
  go_wp2_with fail
  refine (A2.out _).mono ?_
  rintro e w2 ⟨rfl, hb2⟩
  have B2 := Aside0.mk (B1.out.trans (hb2.mono B1.out.size))
  clear hb2
  go_wp2_with fail
  refine (A3.out _).mono ?_
  rintro e w3 ⟨rfl, hb3⟩
  have B3 := Aside0.mk (B2.out.trans (hb3.mono B2.out.size))
  clear hb3
  go_wp2_with fail
  refine (A4.out _).mono ?_
  rintro e w4 ⟨rfl, hb4⟩
  have B4 := Aside0.mk (B3.out.trans (hb4.mono B3.out.size))
  clear hb4
  go_wp2_with fail
  refine (A5.out _).mono ?_
  rintro e w5 ⟨rfl, hb5⟩
  have B5 := Aside0.mk (B4.out.trans (hb5.mono B4.out.size))
  clear hb5
  go_wp2_with fail
  refine (A6.out _).mono ?_
  rintro e w6 ⟨rfl, hb6⟩
  have B6 := Aside0.mk (B5.out.trans (hb6.mono B5.out.size))
  clear hb6
  go_wp2_with fail
  refine (A7.out _).mono ?_
  rintro e w7 ⟨rfl, hb7⟩
  have B7 := Aside0.mk (B6.out.trans (hb7.mono B6.out.size))
  clear hb7
  go_wp2_with fail
  refine (A8.out _).mono ?_
  rintro e w8 ⟨rfl, hb8⟩
  have B8 := Aside0.mk (B7.out.trans (hb8.mono B7.out.size))
  clear hb8
  go_wp2_with fail
  refine (A9.out _).mono ?_
  rintro e w9 ⟨rfl, hb9⟩
  have B9 := Aside0.mk (B8.out.trans (hb9.mono B8.out.size))
  clear hb9
  go_wp2_with fail
  refine (HPC.out _).mono ?_
  rintro e w10 ⟨rfl, hb10⟩
  have B10 := Aside0.mk (B9.out.trans (hb10.mono B9.out.size))
  clear hb10
  go_wp2_with fail
  go_ret2
  exact ⟨_, rfl, B10.out.size, blk_new _ _, B10.out.alloc B10.out.size _⟩
end Go.Proofs.YtlkbhmmelejmjaaDoor.NumTok
