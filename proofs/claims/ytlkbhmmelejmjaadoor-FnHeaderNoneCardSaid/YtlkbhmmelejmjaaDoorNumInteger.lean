/- FnNumberInteger: the law's walk. -/
import Derived.Test.YtlkbhmmelejmjaaDoorNumDec
import Derived.Test.YtlkbhmmelejmjaaDoorNumTold
namespace Go.Proofs.YtlkbhmmelejmjaaDoor.NumInteger
open Go.RowKit Go.Proofs.YtlkbhmmelejmjaaDoorW.PrintWords Go.Proofs.YtlkbhmmelejmjaaDoor.NumKnown Go.Proofs.YtlkbhmmelejmjaaDoor.NumPure Go.Proofs.YtlkbhmmelejmjaaDoor.NumParse Go.Proofs.YtlkbhmmelejmjaaDoor.NumTok Go.Proofs.YtlkbhmmelejmjaaDoor.NumImpl Go.Proofs.YtlkbhmmelejmjaaDoor.NumTold Go.Proofs.YtlkbhmmelejmjaaDoor.NumDec
set_option linter.unusedVariables false
set_option linter.unusedSimpArgs false

theorem hp_one (c b : UInt8) (r : List UInt8) : hp (ba (c :: r)) ⟨#[b]⟩ = (c == b) := by
  show (b == c && true) = (c == b)
  rw [Bool.and_true, Bool.eq_iff_iff, beq_iff_eq, beq_iff_eq]
  exact eq_comm
theorem hp_two_first (c x y : UInt8) (r : List UInt8) (h : c ≠ x) : hp (ba (c :: r)) ⟨#[x, y]⟩ = false := by
  show (x == c && [y].isPrefixOf r) = false
  rw [beq_eq_false_iff_ne.mpr (fun e => h e.symm), Bool.false_and]
theorem hp_two_short (c x y : UInt8) : hp (ba [c]) ⟨#[x, y]⟩ = false := by
  show (x == c && false) = false
  rw [Bool.and_false]
theorem hp_two_second (c d x y : UInt8) (r : List UInt8) (h : d ≠ y) : hp (ba (c :: d :: r)) ⟨#[x, y]⟩ = false := by
  show (x == c && (y == d && true)) = false
  rw [beq_eq_false_iff_ne.mpr (show y ≠ d from fun e => h e.symm), Bool.false_and, Bool.and_false]
theorem hp_two_no (l : List UInt8) (x y : UInt8) (hl : l ≠ []) (h : ∀ c ∈ l, c ≠ y) : hp (ba l) ⟨#[x, y]⟩ = false := by
  match l, hl with
  | [c], _ => exact hp_two_short c x y
  | c :: d :: r, _ => exact hp_two_second c d x y r (h d (by simp))
theorem tp_no {s p : ByteArray} (h : hp s p = false) : tp s p = s := by unfold tp; rw [h]; rfl
theorem cnt_zero (l : List UInt8) (b : UInt8) (h : b ∉ l) : cnt b (ba l) = 0 := by unfold cnt; rw [ba_data]; exact List.count_eq_zero.2 h

def ten (l : List UInt8) : Prop := ∀ c ∈ l, 48 ≤ c.toNat ∧ c.toNat ≤ 57
theorem digs_ten (m n : Nat) (h : n < 10 ^ (m + 1)) : ten (digs 10 m n) := fun c hc => by
  obtain ⟨d, hd, rfl⟩ := digs_mem (by omega) m n h c hc
  exact hx_ten d hd
theorem ten_ne {l : List UInt8} (h : ten l) (b : UInt8) (hb : b.toNat < 48 ∨ 57 < b.toNat) : ∀ c ∈ l, c ≠ b := fun c hc e => by
  subst e; have := h _ hc; omega
theorem ten_not {l : List UInt8} (h : ten l) (b : UInt8) (hb : b.toNat < 48 ∨ 57 < b.toNat) : b ∉ l := fun hm => ten_ne h b hb b hm rfl
theorem hp_one_no (l : List UInt8) (b : UInt8) (hl : l ≠ []) (h : ∀ c ∈ l, c ≠ b) : hp (ba l) ⟨#[b]⟩ = false := by
  match l, hl with
  | c :: r, _ => rw [hp_one]; exact beq_eq_false_iff_ne.mpr (h c (by simp))

def D (n : Nat) : List UInt8 := digs 10 19 n
theorem D_ten (n : Nat) (h : n < 18446744073709551616) : ten (D n) := digs_ten 19 n (by omega)
theorem D_ne (n : Nat) : D n ≠ [] := fun e => by have := (digs_len 10 19 n).1; unfold D at e; rw [e] at this; simp at this
theorem D_size (n : Nat) : (ba (D n)).size ≤ 20 := by rw [ba_size]; exact (digs_len 10 19 n).2
theorem D_zero (n : Nat) (h : n < 18446744073709551616) : hp (ba (D n)) ⟨#[48]⟩ = false ∨ (hp (ba (D n)) ⟨#[48]⟩ = true ∧ (ba (D n)).size ≤ 1) := by
  rcases digs_head (b := 10) (by omega) (by omega) 19 n (by omega) with hl | ⟨c, r, he, hc⟩
  · cases hb : hp (ba (D n)) ⟨#[48]⟩ with
    | false => exact .inl rfl
    | true => exact .inr ⟨rfl, by rw [ba_size]; unfold D; omega⟩
  · left
    unfold D
    rw [he, hp_one]
    exact beq_eq_false_iff_ne.mpr hc
theorem D_parse (n : Nat) (h : n < 18446744073709551616) (a : Int) (ha : a = (n : Int)) (W : World) : Calls Tryd.prog 44 #[.string (ba (D n)), .int .i64 10, .int .i64 64] W (UOk a W) :=
  pu_ok (b := 10) (n := n) ha (fun W => parse_10 (ba (D n)) (by have := (digs_len 10 19 n).1; rw [ba_size]; unfold D; omega) (by have := D_size n; omega) W) (by rw [ba_data]; exact digs_pu (by omega) (by omega) 19 n (by omega) h) W

/-- The number that the digits are. -/
theorem pos_num (n : Nat) (h : n < 18446744073709551616) (a : Int) (ha : a = (n : Int)) (w : World) : Calls Tryd.prog 7 #[.string (ba (D n))] w (NumD ⟨#[100, 101, 99, 105, 109, 97, 108]⟩ (ba (D n)) 2 0 a 0 w) := by
  have ht := D_ten n h
  have hne := D_ne n
  have hz := D_size n
  have h1 := (digs_len 10 19 n).1
  have hs0 : (ba (D n)).size ≠ 0 := by rw [ba_size]; unfold D; omega
  refine impl_uint _ _ _ a (fun W => toNumP _ _ _ _ (fun W => toNum_pos (ba (D n)) (ba (D n)) a hs0 (by omega) ?_ ?_ ?_ ?_ ?_ ?_ (by omega) ?_ ?_ ?_ (D_zero n h) (fun W => uint_ok _ 10 a (fun W => D_parse n h a ha W) W) W) W) w
  · exact hp_one_no _ _ hne (ten_ne ht _ (by decide))
  · exact cnt_zero _ _ (ten_not ht _ (by decide))
  · exact hp_one_no _ _ hne (ten_ne ht _ (by decide))
  · exact tp_no (hp_one_no _ _ hne (ten_ne ht _ (by decide)))
  · exact tp_no (hp_one_no _ _ hne (ten_ne ht _ (by decide)))
  · exact ten_not ht _ (by decide)
  · exact hp_two_no _ _ _ hne (ten_ne ht _ (by decide))
  · exact hp_two_no _ _ _ hne (ten_ne ht _ (by decide))
  · exact hp_two_no _ _ _ hne (ten_ne ht _ (by decide))

theorem minus_eq (l : List UInt8) : (⟨#[45]⟩ : ByteArray) ++ ba l = ba (45 :: l) := ba_append [45] l
theorem neg_num (n : Nat) (h : n ≤ 9223372036854775808) (a : Int) (ha : a = (n : Int)) (w : World) : Calls Tryd.prog 7 #[.string (⟨#[45]⟩ ++ ba (D n))] w (NumD ⟨#[100, 101, 99, 105, 109, 97, 108]⟩ (⟨#[45]⟩ ++ ba (D n)) 1 (-a) 0 0 w) := by
  have ht := D_ten n (by omega)
  have hne := D_ne n
  have hz := D_size n
  have h1 := (digs_len 10 19 n).1
  have hm : ∀ c ∈ (45 : UInt8) :: D n, c = 45 ∨ (48 ≤ c.toNat ∧ c.toNat ≤ 57) := fun c hc => by
    rcases List.mem_cons.1 hc with rfl | hc
    · exact .inl rfl
    · exact .inr (ht c hc)
  have hno : ∀ b : UInt8, (b ≠ 45 ∧ (b.toNat < 48 ∨ 57 < b.toNat)) → ∀ c ∈ (45 : UInt8) :: D n, c ≠ b := fun b hb c hc e => by
    subst e
    rcases hm _ hc with h | h
    · exact hb.1 h
    · omega
  have hs : (⟨#[45]⟩ ++ ba (D n)).size = (ba (D n)).size + 1 := by rw [minus_eq, ba_size, ba_size]; rfl
  refine impl_int _ _ _ (-a) (fun W => toNumP _ _ _ _ (fun W => toNum_neg (⟨#[45]⟩ ++ ba (D n)) (ba (D n)) (-a) (by omega) (by omega) ?_ ?_ ?_ ?_ ?_ ?_ (by omega) ?_ ?_ ?_ (D_zero n (by omega)) (fun W => pint_ok _ 10 (-a) (fun W => int_ok (ba (D n)) _ 10 a (by omega) (by omega) rfl (by omega) (fun W => D_parse n (by omega) a ha W) W) W) W) W) w
  · rw [minus_eq]; exact hp_one_no _ _ (by simp) (hno _ (by decide))
  · rw [minus_eq]; exact cnt_zero _ _ (fun hm => hno _ (by decide) _ hm rfl)
  · rw [minus_eq, hp_one]; rfl
  · rw [minus_eq]; exact tp_no (hp_one_no _ _ (by simp) (hno _ (by decide)))
  · rw [minus_eq]
    unfold tp
    rw [hp_one]
    show (ba (45 :: D n)).extract 1 (ba (45 :: D n)).size = ba (D n)
    rw [Lib.extract_eq, ba_data, ba_size]
    simp [ba]
  · exact ten_not ht _ (by decide)
  · exact hp_two_no _ _ _ hne (ten_ne ht _ (by decide))
  · exact hp_two_no _ _ _ hne (ten_ne ht _ (by decide))
  · exact hp_two_no _ _ _ hne (ten_ne ht _ (by decide))

def Yes (w : World) (e : Ending) (w' : World) : Prop := e = .returned (.bool true) ∧ Below w.heap.size w w'
theorem dec_any (n : Nat) (h : n < 18446744073709551616) (a : Int) (ha : a = (n : Int)) (w : World) : Calls Tryd.prog 10 #[.int .u64 a] w (Str (ba (D n)) w) :=
  (spec_Decimal.calls 20 a (ba (D n)) w (by rw [ha]; exact dec_f 19 n (by omega) h 20 (by omega) (by omega))).mono fun e w' hh => ⟨hh.1, hh.2⟩

set_option maxHeartbeats 2000000 in
set_option maxRecDepth 100000 in
theorem law_any (a : Int) (m : Bool) (h0 : 0 ≤ a) (h1 : a < 18446744073709551616) (w : World) : Calls Tryd.prog 4 #[.int .u64 a, .bool m] w (Yes w) := by
  obtain ⟨n, hn⟩ : ∃ n : Nat, a = (n : Int) := ⟨a.toNat, by omega⟩
  have CD := Aside0.mk (dec_any n (by omega) a hn)
  have hsz := D_size n
  cases m with
  | false =>
    have CN := Aside0.mk (pos_num n (by omega) a hn)
    have CT := Aside0.mk (told_10 (ba (D n)) a)
    have HN := Aside0.mk hn
    clear hn
    generalize ba (D n) = t at CD CN CT hsz
    unfold wantV at CT
    go_enter Tryd.func4, Tryd.ntmps4
    go_wp2_with fail
    refine (CD.out _).mono ?_
    rintro e w1 ⟨rfl, hb1⟩
    have B1 := Aside0.mk hb1
    clear hb1
    go_wp2_with fail
    refine (CN.out _).mono ?_
    rintro e w2 ⟨rfl, hb2⟩
    have B2 := Aside0.mk (B1.out.trans (hb2.mono B1.out.size))
    clear hb2
    go_wp2_with fail
    refine (CT.out _).mono ?_
    rintro e w3 ⟨rfl, hb3⟩
    have B3 := Aside0.mk (B2.out.trans (hb3.mono B2.out.size))
    clear hb3
    go_wp2_with fail
    go_ret
    exact ⟨rfl, B3.out⟩
  | true =>
    by_cases hbig : 9223372036854775808 < a
    · clear hn CD hsz
      go_enter Tryd.func4, Tryd.ntmps4
      go_wp2_with fail
      go_ret
      exact ⟨rfl, Below.refl _ _⟩
    · have CN := Aside0.mk (neg_num n (by omega) a hn)
      have CT := Aside0.mk (told_neg (⟨#[45]⟩ ++ ba (D n)) a h0 (by omega))
      have HN := Aside0.mk hn
      clear hn
      generalize ba (D n) = t at CD CN CT hsz
      unfold wantV at CT
      go_enter Tryd.func4, Tryd.ntmps4
      go_wp2_with fail
      refine (CD.out _).mono ?_
      rintro e w1 ⟨rfl, hb1⟩
      have B1 := Aside0.mk hb1
      clear hb1
      go_wp2_with fail
      refine (CN.out _).mono ?_
      rintro e w2 ⟨rfl, hb2⟩
      have B2 := Aside0.mk (B1.out.trans (hb2.mono B1.out.size))
      clear hb2
      go_wp2_with fail
      refine (CT.out _).mono ?_
      rintro e w3 ⟨rfl, hb3⟩
      have B3 := Aside0.mk (B2.out.trans (hb3.mono B2.out.size))
      clear hb3
      go_wp2_with fail
      go_ret
      exact ⟨rfl, B3.out⟩
end Go.Proofs.YtlkbhmmelejmjaaDoor.NumInteger
