/- FnNumberBased: the digits in a base; the law's walk. -/
import Derived.Test.YtlkbhmmelejmjaaDoorNumInteger
namespace Go.Proofs.YtlkbhmmelejmjaaDoor.NumBased
open Go.RowKit Go.Proofs.YtlkbhmmelejmjaaDoorW.PrintWords Go.Proofs.YtlkbhmmelejmjaaDoor.NumKnown Go.Proofs.YtlkbhmmelejmjaaDoor.NumPure Go.Proofs.YtlkbhmmelejmjaaDoor.NumParse Go.Proofs.YtlkbhmmelejmjaaDoor.NumTok Go.Proofs.YtlkbhmmelejmjaaDoor.NumImpl Go.Proofs.YtlkbhmmelejmjaaDoor.NumTold Go.Proofs.YtlkbhmmelejmjaaDoor.NumDec Go.Proofs.YtlkbhmmelejmjaaDoor.NumInteger
set_option linter.unusedVariables false
set_option linter.unusedSimpArgs false

theorem hex_at (d : Nat) (h : d < 16) : (⟨#[48, 49, 50, 51, 52, 53, 54, 55, 56, 57, 97, 98, 99, 100, 101, 102]⟩ : ByteArray).extract d (d + 1) = ba [hx d] := by
  have : d = 0 ∨ d = 1 ∨ d = 2 ∨ d = 3 ∨ d = 4 ∨ d = 5 ∨ d = 6 ∨ d = 7 ∨ d = 8 ∨ d = 9 ∨ d = 10 ∨ d = 11 ∨ d = 12 ∨ d = 13 ∨ d = 14 ∨ d = 15 := by omega
  rcases this with rfl | rfl | rfl | rfl | rfl | rfl | rfl | rfl | rfl | rfl | rfl | rfl | rfl | rfl | rfl | rfl <;> rfl

theorem based_step (k n b : Nat) (mark : ByteArray) (acc : List UInt8) (first : Bool) (hb : 2 ≤ b) (hb16 : b ≤ 16) (hn : n < 18446744073709551616) (hgo : first = true ∨ 0 < n) (hl : acc.length ≤ 1000) :
    spec_Based.l0 (k + 1) (n : Int) (b : Int) mark (ba acc) first = spec_Based.l0 k ((n / b : Nat) : Int) (b : Int) mark (ba (hx (n % b) :: acc)) false := by
  have hm : n % b < b := Nat.mod_lt _ (by omega)
  have e1 : IntKind.u64.wrap (b : Int) = (b : Int) := by rw [IntKind.wrap_u64]; omega
  have e2 : Int.tmod (n : Int) (b : Int) = ((n % b : Nat) : Int) := by rw [Int.tmod_eq_emod_of_nonneg (by omega)]; rfl
  have e3 : IntKind.u64.wrap (((n % b : Nat) : Int) + 1) = ((n % b + 1 : Nat) : Int) := by rw [IntKind.wrap_u64]; omega
  have hq : n / b ≤ n := Nat.div_le_self _ _
  have e4 : IntKind.u64.wrap (Int.tdiv (n : Int) (b : Int)) = ((n / b : Nat) : Int) := by
    rw [Int.tdiv_eq_ediv_of_nonneg (by omega), show (n : Int) / (b : Int) = ((n / b : Nat) : Int) from rfl, IntKind.wrap_u64]; clear hgo e1 e2 e3 hm; generalize n / b = q at hq ⊢; omega
  have e5 := hex_at (n % b) (by omega)
  have body : (if IntKind.u64.wrap (b : Int) = 0 then (none : Option ByteArray) else (if 0 ≤ (Int.tmod (n : Int) (IntKind.u64.wrap (b : Int))) then (if (Int.tmod (n : Int) (IntKind.u64.wrap (b : Int))) ≤ (IntKind.u64.wrap ((Int.tmod (n : Int) (IntKind.u64.wrap (b : Int))) + 1)) then (if (IntKind.u64.wrap ((Int.tmod (n : Int) (IntKind.u64.wrap (b : Int))) + 1)) ≤ 16 then (if ((⟨#[48, 49, 50, 51, 52, 53, 54, 55, 56, 57, 97, 98, 99, 100, 101, 102]⟩ : ByteArray).extract ((Int.tmod (n : Int) (IntKind.u64.wrap (b : Int))) : Int).toNat ((IntKind.u64.wrap ((Int.tmod (n : Int) (IntKind.u64.wrap (b : Int))) + 1)) : Int).toNat).size + (ba acc).size ≤ 9223372036854775807 then (spec_Based.l0 k (IntKind.u64.wrap (Int.tdiv (n : Int) (IntKind.u64.wrap (b : Int)))) (b : Int) mark (((⟨#[48, 49, 50, 51, 52, 53, 54, 55, 56, 57, 97, 98, 99, 100, 101, 102]⟩ : ByteArray).extract ((Int.tmod (n : Int) (IntKind.u64.wrap (b : Int))) : Int).toNat ((IntKind.u64.wrap ((Int.tmod (n : Int) (IntKind.u64.wrap (b : Int))) + 1)) : Int).toNat) ++ ba acc) false) else none) else none) else none) else none)) = spec_Based.l0 k ((n / b : Nat) : Int) (b : Int) mark (ba (hx (n % b) :: acc)) false := by
    rw [e1, e2, e3, e4, Int.toNat_natCast, Int.toNat_natCast, e5, if_neg (by omega), if_pos (by omega), if_pos (by omega), if_pos (by omega), if_pos (by rw [ba_size, ba_size]; simp only [List.length_singleton]; omega), ba_append]
    rfl
  simp only [spec_Based.l0]
  by_cases hf : first = true
  · rw [if_pos hf]; exact body
  · rw [if_neg hf, if_pos (by rcases hgo with h | h; exact absurd h hf; omega)]; exact body

theorem based_end (k b : Nat) (mark acc : List UInt8) (h1 : mark.length ≤ 10) (h2 : acc.length ≤ 1000) : spec_Based.l0 (k + 1) 0 (b : Int) (ba mark) (ba acc) false = some (ba (mark ++ acc)) := by
  simp only [spec_Based.l0]
  rw [if_neg (by simp), if_neg (by omega), if_pos (by rw [ba_size, ba_size]; omega), ba_append]

theorem based_l0 {b : Nat} (hb : 2 ≤ b) (hb16 : b ≤ 16) (mark : List UInt8) (hm : mark.length ≤ 10) : ∀ (m n : Nat) (acc : List UInt8) (first : Bool) (k : Nat), n < b ^ (m + 1) → n < 18446744073709551616 → (first = true ∨ 0 < n) → m + 2 ≤ k → acc.length + m ≤ 900 →
    spec_Based.l0 k (n : Int) (b : Int) (ba mark) (ba acc) first = some (ba (mark ++ (digs b m n ++ acc)))
  | 0, n, acc, first, k, h, hn, hgo, hk, hl => by
    obtain ⟨k, rfl⟩ : ∃ j, k = j + 1 + 1 := ⟨k - 2, by omega⟩
    rw [Nat.zero_add, Nat.pow_one] at h
    rw [based_step (k + 1) n b _ acc first hb hb16 hn hgo (by omega), Nat.div_eq_of_lt h, Nat.mod_eq_of_lt h]
    exact based_end k b mark _ hm (by simp; omega)
  | m + 1, n, acc, first, k, h, hn, hgo, hk, hl => by
    obtain ⟨k, rfl⟩ : ∃ j, k = j + 1 + 1 := ⟨k - 2, by omega⟩
    rw [based_step (k + 1) n b _ acc first hb hb16 hn hgo (by omega)]
    by_cases hlt : n < b
    · rw [Nat.div_eq_of_lt hlt, Nat.mod_eq_of_lt hlt]
      have hd : digs b (m + 1) n = [hx n] := by unfold digs; rw [if_pos hlt]
      rw [hd]
      exact based_end k b mark _ hm (by simp; omega)
    · have hq : n / b < b ^ (m + 1) := by
        rw [Nat.div_lt_iff_lt_mul (by omega)]
        rwa [Nat.pow_succ] at h
      have hle : n / b ≤ n := Nat.div_le_self _ _
      have h1' : 1 ≤ n / b := by
        rw [Nat.le_div_iff_mul_le (by omega)]; omega
      rw [based_l0 hb hb16 mark hm m (n / b) (hx (n % b) :: acc) false (k + 1) hq (by omega) (.inr h1') (by omega) (by simp; omega)]
      have hd : digs b (m + 1) n = digs b m (n / b) ++ [hx (n % b)] := by
        conv => lhs; unfold digs
        rw [if_neg hlt]
      rw [hd, List.append_assoc]
      rfl

/-- Digits and small letters to f. -/
def hexy (l : List UInt8) : Prop := ∀ c ∈ l, (48 ≤ c.toNat ∧ c.toNat ≤ 57) ∨ (97 ≤ c.toNat ∧ c.toNat ≤ 102)
def DB (b n : Nat) : List UInt8 := digs b 63 n
theorem DB_lt {b n : Nat} (hb : 2 ≤ b) (h : n < 18446744073709551616) : n < b ^ (63 + 1) := Nat.lt_of_lt_of_le h (Nat.le_trans (by decide) (Nat.pow_le_pow_left hb 64))
theorem DB_hexy {b n : Nat} (hb : 2 ≤ b) (hb16 : b ≤ 16) (h : n < 18446744073709551616) : hexy (DB b n) := fun c hc => by
  obtain ⟨d, hd, rfl⟩ := digs_mem hb 63 n (DB_lt hb h) c hc
  exact hx_in d (by omega)
theorem DB_parse {b n : Nat} (B : Int) (hp : ∀ (t : ByteArray) (hne : t.size ≠ 0) (hmax : t.size ≤ 9223372036854775806) (w : World), Calls Tryd.prog 44 #[.string t, .int .i64 B, .int .i64 64] w (PUd t b w)) (hb : 2 ≤ b) (hb16 : b ≤ 16) (h : n < 18446744073709551616) (a : Int) (ha : a = (n : Int)) (W : World) :
    Calls Tryd.prog 44 #[.string (ba (DB b n)), .int .i64 B, .int .i64 64] W (UOk a W) := by
  have hl := digs_len b 63 n
  exact pu_ok (b := b) (n := n) ha (fun W => hp (ba (DB b n)) (by rw [ba_size]; unfold DB; omega) (by rw [ba_size]; unfold DB; omega) W) (by rw [ba_data]; exact digs_pu hb hb16 63 n (DB_lt hb h) h) W

theorem hp_two_yes (c d : UInt8) (r : List UInt8) : hp (ba (c :: d :: r)) ⟨#[c, d]⟩ = true := by
  show (c == c && (d == d && true)) = true
  simp
theorem tp_two (c d : UInt8) (r : List UInt8) : tp (ba (c :: d :: r)) ⟨#[c, d]⟩ = ba r := by
  unfold tp
  rw [hp_two_yes]
  show (ba (c :: d :: r)).extract 2 (ba (c :: d :: r)).size = ba r
  rw [Lib.extract_eq, ba_data, ba_size]
  simp [ba]

theorem hex_mem {n : Nat} (h : n < 18446744073709551616) (y : UInt8) (hy : y ≠ 48 ∧ y ≠ 120 ∧ (y.toNat < 48 ∨ (57 < y.toNat ∧ y.toNat < 97) ∨ 102 < y.toNat)) : ∀ c ∈ (48 : UInt8) :: 120 :: DB 16 n, c ≠ y := fun c hc e => by
  subst e
  rcases List.mem_cons.1 hc with e | hc
  · exact hy.1 e
  · rcases List.mem_cons.1 hc with e | hc
    · exact hy.2.1 e
    · have := DB_hexy (b := 16) (by omega) (by omega) h _ hc
      omega
theorem hex_num (n : Nat) (h : n < 18446744073709551616) (a : Int) (ha : a = (n : Int)) (w : World) : Calls Tryd.prog 7 #[.string (ba (48 :: 120 :: DB 16 n))] w (NumD ⟨#[104, 101, 120]⟩ (ba (DB 16 n)) 2 0 a 0 w) := by
  have hl := digs_len 16 63 n
  have hm := fun y hy => hex_mem h y hy
  have hsz : (ba (48 :: 120 :: DB 16 n)).size = (DB 16 n).length + 2 := by rw [ba_size]; rfl
  have hz : (DB 16 n).length ≤ 64 := hl.2
  refine impl_uint _ _ _ a (fun W => toNumP _ _ _ _ (fun W => toNum_hex (ba (48 :: 120 :: DB 16 n)) (ba (48 :: 120 :: DB 16 n)) (ba (DB 16 n)) a (by omega) (by omega) ?_ ?_ ?_ ?_ ?_ ?_ (by omega) ?_ ?_ (fun W => uint_ok _ 16 a (fun W => DB_parse 16 parse_16 (by omega) (by omega) h a ha W) W) W) W) w
  · exact hp_one_no _ _ (by simp) (hm _ (by decide))
  · exact cnt_zero _ _ (fun hh => hm _ (by decide) _ hh rfl)
  · exact hp_one_no _ _ (by simp) (hm _ (by decide))
  · exact tp_no (hp_one_no _ _ (by simp) (hm _ (by decide)))
  · exact tp_no (hp_one_no _ _ (by simp) (hm _ (by decide)))
  · exact fun hh => hm _ (by decide) _ hh rfl
  · exact hp_two_yes _ _ _
  · exact tp_two _ _ _

theorem oct_mem {n : Nat} (h : n < 18446744073709551616) (y : UInt8) (hy : y ≠ 48 ∧ y ≠ 111 ∧ (y.toNat < 48 ∨ (57 < y.toNat ∧ y.toNat < 97) ∨ 102 < y.toNat)) : ∀ c ∈ (48 : UInt8) :: 111 :: DB 8 n, c ≠ y := fun c hc e => by
  subst e
  rcases List.mem_cons.1 hc with e | hc
  · exact hy.1 e
  · rcases List.mem_cons.1 hc with e | hc
    · exact hy.2.1 e
    · have := DB_hexy (b := 8) (by omega) (by omega) h _ hc
      omega
theorem oct_num (n : Nat) (h : n < 18446744073709551616) (a : Int) (ha : a = (n : Int)) (w : World) : Calls Tryd.prog 7 #[.string (ba (48 :: 111 :: DB 8 n))] w (NumD ⟨#[111, 99, 116, 101, 116]⟩ (ba (DB 8 n)) 2 0 a 0 w) := by
  have hl := digs_len 8 63 n
  have hm := fun y hy => oct_mem h y hy
  have hsz : (ba (48 :: 111 :: DB 8 n)).size = (DB 8 n).length + 2 := by rw [ba_size]; rfl
  have hz : (DB 8 n).length ≤ 64 := hl.2
  refine impl_uint _ _ _ a (fun W => toNumP _ _ _ _ (fun W => toNum_oct (ba (48 :: 111 :: DB 8 n)) (ba (48 :: 111 :: DB 8 n)) (ba (DB 8 n)) a (by omega) (by omega) ?_ ?_ ?_ ?_ ?_ ?_ (by omega) ?_ ?_ ?_ (fun W => uint_ok _ 8 a (fun W => DB_parse 8 parse_8 (by omega) (by omega) h a ha W) W) W) W) w
  · exact hp_one_no _ _ (by simp) (hm _ (by decide))
  · exact cnt_zero _ _ (fun hh => hm _ (by decide) _ hh rfl)
  · exact hp_one_no _ _ (by simp) (hm _ (by decide))
  · exact tp_no (hp_one_no _ _ (by simp) (hm _ (by decide)))
  · exact tp_no (hp_one_no _ _ (by simp) (hm _ (by decide)))
  · exact fun hh => hm _ (by decide) _ hh rfl
  · exact hp_two_second _ _ _ _ _ (by decide)
  · exact hp_two_yes _ _ _
  · exact tp_two _ _ _

theorem bin_mem {n : Nat} (h : n < 18446744073709551616) (y : UInt8) (hy : y ≠ 48 ∧ y ≠ 98 ∧ (y.toNat < 48 ∨ (57 < y.toNat ∧ y.toNat < 97) ∨ 102 < y.toNat)) : ∀ c ∈ (48 : UInt8) :: 98 :: DB 2 n, c ≠ y := fun c hc e => by
  subst e
  rcases List.mem_cons.1 hc with e | hc
  · exact hy.1 e
  · rcases List.mem_cons.1 hc with e | hc
    · exact hy.2.1 e
    · have := DB_hexy (b := 2) (by omega) (by omega) h _ hc
      omega
theorem bin_num (n : Nat) (h : n < 18446744073709551616) (a : Int) (ha : a = (n : Int)) (w : World) : Calls Tryd.prog 7 #[.string (ba (48 :: 98 :: DB 2 n))] w (NumD ⟨#[98, 105, 110, 97, 114, 121]⟩ (ba (DB 2 n)) 2 0 a 0 w) := by
  have hl := digs_len 2 63 n
  have hm := fun y hy => bin_mem h y hy
  have hsz : (ba (48 :: 98 :: DB 2 n)).size = (DB 2 n).length + 2 := by rw [ba_size]; rfl
  have hz : (DB 2 n).length ≤ 64 := hl.2
  refine impl_uint _ _ _ a (fun W => toNumP _ _ _ _ (fun W => toNum_bin (ba (48 :: 98 :: DB 2 n)) (ba (48 :: 98 :: DB 2 n)) (ba (DB 2 n)) a (by omega) (by omega) ?_ ?_ ?_ ?_ ?_ ?_ (by omega) ?_ ?_ ?_ ?_ (fun W => uint_ok _ 2 a (fun W => DB_parse 2 parse_2 (by omega) (by omega) h a ha W) W) W) W) w
  · exact hp_one_no _ _ (by simp) (hm _ (by decide))
  · exact cnt_zero _ _ (fun hh => hm _ (by decide) _ hh rfl)
  · exact hp_one_no _ _ (by simp) (hm _ (by decide))
  · exact tp_no (hp_one_no _ _ (by simp) (hm _ (by decide)))
  · exact tp_no (hp_one_no _ _ (by simp) (hm _ (by decide)))
  · exact fun hh => hm _ (by decide) _ hh rfl
  · exact hp_two_second _ _ _ _ _ (by decide)
  · exact hp_two_second _ _ _ _ _ (by decide)
  · exact hp_two_yes _ _ _
  · exact tp_two _ _ _

theorem based_any (b : Nat) (x : UInt8) (B : Int) (n : Nat) (h : n < 18446744073709551616) (a : Int) (ha : a = (n : Int)) (hB : (B = 2 ∧ b = 2 ∧ x = 98) ∨ (B = 8 ∧ b = 8 ∧ x = 111) ∨ (B ≠ 2 ∧ B ≠ 8 ∧ b = 16 ∧ x = 120)) (w : World) : Calls Tryd.prog 8 #[.int .u64 a, .int .i64 B] w (Str (ba (48 :: x :: DB b n)) w) := by
  refine (spec_Based.calls 70 a B (ba (48 :: x :: DB b n)) w ?_).mono fun e w' hh => ⟨hh.1, hh.2.below⟩
  subst ha
  unfold spec_Based.f
  rcases hB with ⟨rfl, rfl, rfl⟩ | ⟨rfl, rfl, rfl⟩ | ⟨h1, h2, rfl, rfl⟩
  · rw [if_pos rfl]
    simp only [spec_Based.j0]
    have := based_l0 (b := 2) (by omega) (by omega) [48, 98] (by simp) 63 n [] true 69 (DB_lt (by omega) h) h (.inl rfl) (by omega) (by simp)
    rw [List.append_nil] at this
    exact this
  · rw [if_neg (by decide), if_pos rfl]
    simp only [spec_Based.j0]
    have := based_l0 (b := 8) (by omega) (by omega) [48, 111] (by simp) 63 n [] true 69 (DB_lt (by omega) h) h (.inl rfl) (by omega) (by simp)
    rw [List.append_nil] at this
    exact this
  · rw [if_neg h1, if_neg h2]
    simp only [spec_Based.j0]
    have := based_l0 (b := 16) (by omega) (by omega) [48, 120] (by simp) 63 n [] true 69 (DB_lt (by omega) h) h (.inl rfl) (by omega) (by simp)
    rw [List.append_nil] at this
    exact this

attribute [local go_sem] run_store_float

set_option maxHeartbeats 4000000 in
set_option maxRecDepth 100000 in
theorem law_2 (a : Int) (h0 : 0 ≤ a) (h1 : a < 18446744073709551616) (w : World) : Calls Tryd.prog 3 #[.int .u64 a, .int .i64 2] w (Yes w) := by
  obtain ⟨n, hn⟩ : ∃ n : Nat, a = (n : Int) := ⟨a.toNat, by omega⟩
  have CD := Aside0.mk (based_any 2 98 2 n (by omega) a hn (.inl ⟨rfl, rfl, rfl⟩))
  have CN := Aside0.mk (bin_num n (by omega) a hn)
  have HN := Aside0.mk hn
  clear hn
  generalize ba (48 :: 98 :: DB 2 n) = t at CD CN
  generalize ba (DB 2 n) = t2 at CN
  go_enter Tryd.func3, Tryd.ntmps3
  go_wp2_with fail
  refine (CD.out _).mono ?_
  rintro e w1 ⟨rfl, hb1⟩
  have B1 := Aside0.mk hb1
  clear hb1
  go_wp2_with fail
  refine (CN.out _).mono ?_
  rintro e w2 ⟨rfl, hb2⟩
  have B2 := Aside0.mk (B1.out.trans (hb2.mono B1.out.size))
  clear hb2
  unfold numV
  go_wp2_with fail
  go_ret
  exact ⟨rfl, B2.out.alloc B2.out.size _⟩

set_option maxHeartbeats 4000000 in
set_option maxRecDepth 100000 in
theorem law_8 (a : Int) (h0 : 0 ≤ a) (h1 : a < 18446744073709551616) (w : World) : Calls Tryd.prog 3 #[.int .u64 a, .int .i64 8] w (Yes w) := by
  obtain ⟨n, hn⟩ : ∃ n : Nat, a = (n : Int) := ⟨a.toNat, by omega⟩
  have CD := Aside0.mk (based_any 8 111 8 n (by omega) a hn (.inr (.inl ⟨rfl, rfl, rfl⟩)))
  have CN := Aside0.mk (oct_num n (by omega) a hn)
  have HN := Aside0.mk hn
  clear hn
  have CT := Aside0.mk (told_8 (ba (DB 8 n)) a)
  unfold wantV numV at CT
  generalize ba (48 :: 111 :: DB 8 n) = t at CD CN
  generalize ba (DB 8 n) = t2 at CN CT
  go_enter Tryd.func3, Tryd.ntmps3
  go_wp2_with fail
  refine (CD.out _).mono ?_
  rintro e w1 ⟨rfl, hb1⟩
  have B1 := Aside0.mk hb1
  clear hb1
  go_wp2_with fail
  refine (CN.out _).mono ?_
  rintro e w2 ⟨rfl, hb2⟩
  have B2 := Aside0.mk (B1.out.trans (hb2.mono B1.out.size))
  clear hb2
  unfold numV
  go_wp2_with fail
  refine (CT.out _).mono ?_
  rintro e w3 ⟨rfl, hb3⟩
  have B3 := Aside0.mk ((B2.out.alloc B2.out.size _).trans (hb3.mono (by have := B2.out.size; simp; omega)))
  clear hb3
  go_wp2_with fail
  go_ret
  exact ⟨rfl, B3.out⟩

set_option maxHeartbeats 4000000 in
set_option maxRecDepth 100000 in
theorem law_16 (a : Int) (h0 : 0 ≤ a) (h1 : a < 18446744073709551616) (w : World) : Calls Tryd.prog 3 #[.int .u64 a, .int .i64 16] w (Yes w) := by
  obtain ⟨n, hn⟩ : ∃ n : Nat, a = (n : Int) := ⟨a.toNat, by omega⟩
  have CD := Aside0.mk (based_any 16 120 16 n (by omega) a hn (.inr (.inr ⟨by decide, by decide, rfl, rfl⟩)))
  have CN := Aside0.mk (hex_num n (by omega) a hn)
  have HN := Aside0.mk hn
  clear hn
  have CT := Aside0.mk (told_16 (ba (DB 16 n)) a)
  unfold wantV numV at CT
  generalize ba (48 :: 120 :: DB 16 n) = t at CD CN
  generalize ba (DB 16 n) = t2 at CN CT
  go_enter Tryd.func3, Tryd.ntmps3
  go_wp2_with fail
  refine (CD.out _).mono ?_
  rintro e w1 ⟨rfl, hb1⟩
  have B1 := Aside0.mk hb1
  clear hb1
  go_wp2_with fail
  refine (CN.out _).mono ?_
  rintro e w2 ⟨rfl, hb2⟩
  have B2 := Aside0.mk (B1.out.trans (hb2.mono B1.out.size))
  clear hb2
  unfold numV
  go_wp2_with fail
  refine (CT.out _).mono ?_
  rintro e w3 ⟨rfl, hb3⟩
  have B3 := Aside0.mk ((B2.out.alloc B2.out.size _).trans (hb3.mono (by have := B2.out.size; simp; omega)))
  clear hb3
  go_wp2_with fail
  go_ret
  exact ⟨rfl, B3.out⟩

set_option maxHeartbeats 4000000 in
set_option maxRecDepth 100000 in
theorem law_other (a : Int) (B : Int) (hB2 : B ≠ 2) (hB8 : B ≠ 8) (hB16 : B ≠ 16) (h0 : 0 ≤ a) (h1 : a < 18446744073709551616) (w : World) : Calls Tryd.prog 3 #[.int .u64 a, .int .i64 B] w (Yes w) := by
  obtain ⟨n, hn⟩ : ∃ n : Nat, a = (n : Int) := ⟨a.toNat, by omega⟩
  have CD := Aside0.mk (based_any 16 120 B n (by omega) a hn (.inr (.inr ⟨hB2, hB8, rfl, rfl⟩)))
  have CN := Aside0.mk (hex_num n (by omega) a hn)
  have HN := Aside0.mk hn
  clear hn
  have g2 : (B == 2) = false := beq_eq_false_iff_ne.mpr hB2
  have g8 : (B == 8) = false := beq_eq_false_iff_ne.mpr hB8
  have g16 : (B == 16) = false := beq_eq_false_iff_ne.mpr hB16
  clear hB2 hB8 hB16
  generalize ba (48 :: 120 :: DB 16 n) = t at CD CN
  generalize ba (DB 16 n) = t2 at CN
  go_enter Tryd.func3, Tryd.ntmps3
  go_wp2_with fail
  refine (CD.out _).mono ?_
  rintro e w1 ⟨rfl, hb1⟩
  have B1 := Aside0.mk hb1
  clear hb1
  go_wp2_with fail
  refine (CN.out _).mono ?_
  rintro e w2 ⟨rfl, hb2⟩
  have B2 := Aside0.mk (B1.out.trans (hb2.mono B1.out.size))
  clear hb2
  unfold numV
  go_wp2_with fail
  go_ret
  exact ⟨rfl, B2.out.alloc B2.out.size _⟩

theorem law_any (a B : Int) (h0 : 0 ≤ a) (h1 : a < 18446744073709551616) (w : World) : Calls Tryd.prog 3 #[.int .u64 a, .int .i64 B] w (Yes w) := by
  by_cases e2 : B = 2
  · subst e2; exact law_2 a h0 h1 w
  by_cases e8 : B = 8
  · subst e8; exact law_8 a h0 h1 w
  by_cases e16 : B = 16
  · subst e16; exact law_16 a h0 h1 w
  exact law_other a B e2 e8 e16 h0 h1 w
end Go.Proofs.YtlkbhmmelejmjaaDoor.NumBased
