/- Parts of the proof of FnPartLines, one behind the other: LnRun, LnInv. Each part says ahead of itself what it proves. -/
import Derived.Test.YtgglhfbjbddjjaaDoorPkFnPartLines5

/- Plain: the reference's reading of a quoted text, step by step, keeps pace with the scanner's. No program in sight. -/
namespace Go.Proofs.YtgglhfbjbddjjaaDoor.LnRun
open Go.Proofs.YtgglhfbjbddjjaaDoor.Utf Go.Proofs.YtgglhfbjbddjjaaDoor.LnPure
set_option linter.unusedVariables false
set_option linter.unusedSimpArgs false

/-- Texts without tabs, carriage returns, spaces ahead of a break or at the end or behind a backslash, without an empty line behind a backslash, and without the digits 20 ahead of a break. -/
structure Neat (rs : List Int) : Prop where
  tab : ∀ A C, rs ≠ A ++ 9 :: C
  cr : ∀ A C, rs ≠ A ++ 13 :: C
  sp10 : ∀ A C, rs ≠ A ++ 32 :: 10 :: C
  bs32 : ∀ A C, rs ≠ A ++ 92 :: 32 :: C
  bs10 : ∀ A C, rs ≠ A ++ 92 :: 10 :: 10 :: C
  x20 : ∀ A C, rs ≠ A ++ 50 :: 48 :: 10 :: C
theorem Neat.drop {rs : List Int} (h : Neat rs) (i : Nat) : Neat (rs.drop i) := by
  have e : ∀ X : List Int, rs.drop i = X → rs = rs.take i ++ X := fun X hX => by rw [← hX, List.take_append_drop]
  refine ⟨fun A C h' => ?_, fun A C h' => ?_, fun A C h' => ?_, fun A C h' => ?_, fun A C h' => ?_, fun A C h' => ?_⟩
  · exact h.tab (rs.take i ++ A) C (by rw [List.append_assoc]; exact e _ h')
  · exact h.cr (rs.take i ++ A) C (by rw [List.append_assoc]; exact e _ h')
  · exact h.sp10 (rs.take i ++ A) C (by rw [List.append_assoc]; exact e _ h')
  · exact h.bs32 (rs.take i ++ A) C (by rw [List.append_assoc]; exact e _ h')
  · exact h.bs10 (rs.take i ++ A) C (by rw [List.append_assoc]; exact e _ h')
  · exact h.x20 (rs.take i ++ A) C (by rw [List.append_assoc]; exact e _ h')
theorem Neat.tl {c : Int} {r : List Int} (h : Neat (c :: r)) : Neat r := h.drop 1

theorem scan_feed (q : Int) (n : Nat) (r v : List Int) (f : Bool) (h : mkr r = false) : scan q (n + 1) (10 :: r) v f = scan q n r (trim v ++ [if f = true then 10 else 32]) true := by
  simp only [scan]
  rw [if_pos (by trivial), if_neg (by rw [h]; decide)]
theorem scan_space (q : Int) (n : Nat) (r v : List Int) : scan q (n + 1) (32 :: r) v true = scan q n r v true := by
  simp only [scan]
  rw [if_neg (by decide), if_neg (by decide), if_pos ⟨by trivial, by trivial⟩]
theorem scan_other (q : Int) (n : Nat) (c : Int) (r v : List Int) (f : Bool) (h10 : c ≠ 10) (h13 : c ≠ 13) (h9 : c ≠ 9) (hf : f = true → c ≠ 32) (hq : c ≠ q) (hb : q = 34 → c ≠ 92) : scan q (n + 1) (c :: r) v f = scan q n r (v ++ [c]) false := by
  simp only [scan]
  rw [if_neg h10, if_neg h13, if_neg (fun h => hf h.1 h.2), if_neg h9, if_neg (fun h => hb h.1 h.2), if_neg hq]
theorem scan_join (n : Nat) (r v : List Int) (f : Bool) : scan 34 (n + 1) (92 :: 10 :: r) v f = scan 34 n r v true := by
  simp only [scan]
  rw [if_neg (by decide), if_neg (by decide), if_neg (fun h => absurd h.2 (by decide)), if_neg (by decide), if_pos ⟨by trivial, by trivial⟩, if_pos (by rfl)]
  rfl
theorem scan_esc (n : Nat) (r v t : List Int) (x : Int) (f : Bool) (h10 : r.head? ≠ some 10) (h : esc r = some (x, t)) : scan 34 (n + 1) (92 :: r) v f = scan 34 n t (v ++ [x]) false := by
  simp only [scan]
  rw [if_neg (by decide), if_neg (by decide), if_neg (fun h => absurd h.2 (by decide)), if_neg (by decide), if_pos ⟨by trivial, by trivial⟩, if_neg h10, h]
theorem scan_end (q : Int) (hq : q = 34 ∨ q = 39) (n : Nat) (v : List Int) (f : Bool) : scan q (n + 1) [q, 10] v f = some v := by
  simp only [scan]
  rcases hq with rfl | rfl
  · rw [if_neg (by decide), if_neg (by decide), if_neg (fun h => absurd h.2 (by decide)), if_neg (by decide), if_neg (fun h => absurd h.2 (by decide)), if_pos (by trivial), if_pos (by trivial)]
  · rw [if_neg (by decide), if_neg (by decide), if_neg (fun h => absurd h.2 (by decide)), if_neg (by decide), if_neg (fun h => absurd h.1 (by decide)), if_pos (by trivial), if_pos (by trivial)]

theorem mkr_tail (q : Int) (hq : q = 34 ∨ q = 39) (l : List Int) : mkr (l ++ [q, 10]) = mkr l := by
  have n45 : (q == 45) = false := by rcases hq with rfl | rfl <;> rfl
  have n46 : (q == 46) = false := by rcases hq with rfl | rfl <;> rfl
  have n32 : (q == 32) = false := by rcases hq with rfl | rfl <;> rfl
  have n9 : (q == 9) = false := by rcases hq with rfl | rfl <;> rfl
  have n10 : (q == 10) = false := by rcases hq with rfl | rfl <;> rfl
  match l with
  | [] => simp [mkr, n45, n46]
  | [a] => simp [mkr, n45, n46]
  | [a, b] => simp [mkr, n45, n46]
  | [a, b, c] =>
    have h : ((some q == some (32 : Int)) = false) ∧ ((some q == some (9 : Int)) = false) ∧ ((some q == some (10 : Int)) = false) := by rcases hq with rfl | rfl <;> decide
    simp [mkr]
    intro _
    rcases hq with rfl | rfl <;> decide
  | a :: b :: c :: d :: r => simp [mkr]

/-- The value behind so many breaks ahead of further ones. -/
def wv (u : List Int) (a : Nat) : List Int := if a = 0 then u ++ [32] else u ++ List.replicate a 10
theorem wv_step (u : List Int) (hu : trim u = u) (a : Nat) : trim (wv u a) ++ [10] = wv u (a + 1) := by
  unfold wv
  rw [if_neg (by omega : ¬ a + 1 = 0)]
  by_cases h : a = 0
  · subst h
    rw [if_pos rfl, trim_space, hu]; rfl
  · obtain ⟨a, rfl⟩ : ∃ m, a = m + 1 := ⟨a - 1, by omega⟩
    rw [if_neg (by omega), List.replicate_succ' , ← List.append_assoc, trim_other _ _ (by decide), List.append_assoc, List.append_assoc, List.replicate_succ', List.replicate_succ', List.append_assoc]
theorem wv_enc (u : List Int) (n : Nat) : enc (wv u n) = enc u ++ B (LnSpec.gap n) := by
  have e10 : ∀ n, enc (List.replicate n 10) = List.replicate n 10 := fun n => by
    induction n with
    | zero => rfl
    | succ n ih => rw [List.replicate_succ, enc_cons, ih, encodeRune_ascii 10 (by omega) (by omega)]; rfl
  unfold wv LnSpec.gap
  by_cases h : n = 0
  · rw [if_pos h, if_pos h, enc_append]; congr 1
  · rw [if_neg h, if_neg h, enc_append, e10]; rfl

theorem skip_spaces (q : Int) (tail : List Int) : ∀ (l : List Int) (m : Nat) (v : List Int), Neat l → (l ++ tail).length ≤ m → ∃ m', ((skip l) ++ tail).length ≤ m' ∧ scan q m (l ++ tail) v true = scan q m' (skip l ++ tail) v true
  | [], m, v, hN, hm => ⟨m, hm, rfl⟩
  | c :: r, m, v, hN, hm => by
    unfold skip
    by_cases h : c = 32 ∨ c = 9
    · rw [if_pos h]
      have hc : c = 32 := h.resolve_right fun e => hN.tab [] r (by rw [e]; rfl)
      subst hc
      simp only [List.cons_append, List.length_cons] at hm
      obtain ⟨m, rfl⟩ : ∃ k, m = k + 1 := ⟨m - 1, by omega⟩
      obtain ⟨m', h1, h2⟩ := skip_spaces q tail r m v hN.tl (by omega)
      exact ⟨m', h1, by rw [List.cons_append, scan_space, h2]⟩
    · rw [if_neg h]; exact ⟨m, hm, rfl⟩
/-- With no space ahead of a break, what begins with a break behind white begins with it. -/
theorem skip_feed : ∀ (l : List Int), Neat l → (skip l).head? = some 10 → skip l = l
  | [], _, h => by cases h
  | c :: r, hN, h => by
    unfold skip at h ⊢
    by_cases hw : c = 32 ∨ c = 9
    · rw [if_pos hw] at h
      have hc : c = 32 := hw.resolve_right fun e => hN.tab [] r (by rw [e]; rfl)
      have ih := skip_feed r hN.tl h
      rw [ih] at h
      cases r with
      | nil => cases h
      | cons d t =>
        injection h with h
        subst h
        exact absurd rfl (hc ▸ hN.sp10 [] t)
    · rw [if_neg hw]
theorem gaps (q : Int) (hq : q = 34 ∨ q = 39) (u : List Int) (hu : trim u = u) : ∀ (k a : Nat) (l : List Int) {n : Nat} {r : List Int} (m : Nat), empt k a l = some (n, r) → Neat l → (l ++ [q, 10]).length ≤ m →
    mkr (l ++ [q, 10]) = false ∧ ∃ m', (r ++ [q, 10]).length ≤ m' ∧ scan q m (l ++ [q, 10]) (wv u a) true = scan q m' (r ++ [q, 10]) (wv u n) true
  | 0, a, l, n, r, m, h, hN, hm => by cases h
  | k + 1, a, l, n, r, m, h, hN, hm => by
    unfold empt at h
    by_cases hk : mkr l = true
    · rw [if_pos hk] at h; cases h
    rw [if_neg hk] at h
    refine ⟨by rw [mkr_tail q hq]; exact Bool.not_eq_true _ ▸ hk, ?_⟩
    obtain ⟨m1, h1, h2⟩ := skip_spaces q [q, 10] l m (wv u a) hN hm
    rw [h2]
    by_cases h10 : (skip l).head? = some 10
    · rw [if_pos h10] at h
      have e := skip_feed l hN h10
      rw [e] at h h1 h10 ⊢
      cases l with
      | nil => cases h10
      | cons c t =>
        injection h10 with h10
        subst h10
        rw [show (10 :: t).drop 1 = t from rfl] at h
        simp only [List.cons_append, List.length_cons] at h1
        obtain ⟨m1, rfl⟩ : ∃ j, m1 = j + 1 := ⟨m1 - 1, by omega⟩
        obtain ⟨g1, m', g2, g3⟩ := gaps q hq u hu k (a + 1) t m1 h hN.tl (by simpa using h1)
        refine ⟨m', g2, ?_⟩
        rw [List.cons_append, scan_feed q m1 _ _ _ g1, if_pos (by trivial), wv_step u hu]
        exact g3
    · rw [if_neg h10] at h
      injection h with h
      injection h with h3 h4
      subst h3; subst h4
      exact ⟨m1, h1, rfl⟩
theorem skip_head : ∀ l : List Int, (skip l).head? ≠ some 32 ∧ (skip l).head? ≠ some 9
  | [] => ⟨by simp [skip], by simp [skip]⟩
  | c :: r => by
    unfold skip
    by_cases h : c = 32 ∨ c = 9
    · rw [if_pos h]; exact skip_head r
    · rw [if_neg h]; exact ⟨fun e => h (.inl (by injection e)), fun e => h (.inr (by injection e))⟩
theorem empt_head : ∀ (k a : Nat) (l : List Int) {n : Nat} {r : List Int}, empt k a l = some (n, r) → r.head? ≠ some 10 ∧ r.head? ≠ some 32 ∧ ∃ j, r = l.drop j
  | 0, a, l, n, r, h => by cases h
  | k + 1, a, l, n, r, h => by
    have hs : ∀ l : List Int, ∃ j, skip l = l.drop j := fun l => by
      induction l with
      | nil => exact ⟨0, rfl⟩
      | cons c t ih =>
        obtain ⟨j, hj⟩ := ih
        unfold skip
        split
        · exact ⟨j + 1, by rw [hj]; rfl⟩
        · exact ⟨0, rfl⟩
    obtain ⟨j, hj⟩ := hs l
    unfold empt at h
    split at h
    · cases h
    · split at h
      · obtain ⟨g1, g2, i, g3⟩ := empt_head k (a + 1) _ h
        exact ⟨g1, g2, j + (1 + i), by rw [g3, hj, List.drop_drop, List.drop_drop]⟩
      · rename_i hh
        injection h with h
        injection h with h3 h4
        subst h3; subst h4
        exact ⟨hh, (skip_head l).1, j, hj⟩
end Go.Proofs.YtgglhfbjbddjjaaDoor.LnRun

/- Plain: what the reference has read at a place of a quoted text, and what the scanner has there: the steps. No program in sight. -/
namespace Go.Proofs.YtgglhfbjbddjjaaDoor.LnInv
open Go Go.Lib Go.Proofs.YtgglhfbjbddjjaaDoor.Utf Go.Proofs.YtgglhfbjbddjjaaDoor.LnPure Go.Proofs.YtgglhfbjbddjjaaDoor.LnRun
set_option linter.unusedVariables false
set_option linter.unusedSimpArgs false

theorem B_append (a b : ByteArray) : B (a ++ b) = B a ++ B b := by
  show (a ++ b).data.toList = _
  rw [ByteArray.data_append, Array.toList_append]
/-- At place i the reference has 'o' and then the white 'wh'; the scanner has the same value there, and comes to R. -/
def Inv (q : Int) (rs : List Int) (R : Option (List Int)) (i : Nat) (o wh : ByteArray) : Prop :=
  i ≤ rs.length ∧ o.size + wh.size ≤ 4 * i ∧ ∃ (v : List Int) (f : Bool) (n : Nat), (rs.drop i ++ [q, 10]).length ≤ n ∧ scan q n (rs.drop i ++ [q, 10]) v f = R ∧ B o ++ B wh = enc v ∧
    (f = true → (rs.drop i).head? ≠ some 10 ∧ (rs.drop i).head? ≠ some 32) ∧ ((rs.drop i).head? = some 10 → trim v = v ∧ B wh = [])

theorem inv_start (q : Int) (rs : List Int) : Inv q rs (scan q (rs.length + 2) (rs ++ [q, 10]) [] false) 0 ⟨#[]⟩ ⟨#[]⟩ :=
  ⟨Nat.zero_le _, Nat.le_refl _, [], false, rs.length + 2, by simp, rfl, rfl, fun h => (by cases h), fun _ => ⟨rfl, rfl⟩⟩
theorem inv_size {q : Int} {rs : List Int} {R : Option (List Int)} {i : Nat} {o wh : ByteArray} (h : Inv q rs R i o wh) : o.size + wh.size ≤ 4 * rs.length := by
  have h1 := h.1
  have h2 := h.2.1
  omega
theorem at_i {rs : List Int} {i : Nat} {c : Int} (hi : i < rs.length) (hc : rs.getD i 0 = c) : rs.drop i = c :: rs.drop (i + 1) := by
  rw [List.drop_eq_getElem_cons hi]
  congr 1
  rw [← hc]
  simp [List.getD, hi]
theorem take_eq (rs : List Int) (i : Nat) {X : List Int} (h : rs.drop i = X) : rs = rs.take i ++ X := by rw [← h, List.take_append_drop]
theorem enc_one (v : List Int) (c : Int) : enc (v ++ [c]) = enc v ++ encodeRune c := by rw [enc_append, enc_cons, enc_nil, List.append_nil]
theorem size_encode (c : Int) : (ba (encodeRune c)).size ≤ 4 := by rw [ba_size]; exact (encodeRune_length c).2

theorem inv_white {q : Int} {rs : List Int} {R : Option (List Int)} {i : Nat} {o wh : ByteArray} (h : Inv q rs R i o wh) (hN : Neat rs) (hq : q = 34 ∨ q = 39) (hi : i < rs.length) (hc : rs.getD i 0 = 32) : Inv q rs R (i + 1) o (wh ++ ba (encodeRune 32)) := by
  obtain ⟨h1, h2, v, f, n, h3, h4, h5, h6, h7⟩ := h
  have e := at_i hi hc
  rw [e] at h3 h4 h6
  have hf : f = false := by
    cases f with
    | false => rfl
    | true => exact absurd rfl (h6 rfl).2
  subst hf
  simp only [List.cons_append, List.length_cons] at h3 h4
  obtain ⟨n, rfl⟩ : ∃ m, n = m + 1 := ⟨n - 1, by omega⟩
  rw [scan_other q n 32 _ v false (by decide) (by decide) (by decide) (fun h => by cases h) (by rcases hq with rfl | rfl <;> decide) (fun _ => by decide)] at h4
  refine ⟨hi, ?_, v ++ [32], false, n, by omega, h4, ?_, fun h => (by cases h), fun h => ?_⟩
  · have : (wh ++ ba (encodeRune 32)).size = wh.size + (ba (encodeRune 32)).size := ByteArray.size_append
    have := size_encode 32
    omega
  · rw [B_append, ← List.append_assoc, h5, enc_one]; rfl
  · exfalso
    cases hd : rs.drop (i + 1) with
    | nil => rw [hd] at h; cases h
    | cons d t =>
      rw [hd] at h
      injection h with h
      subst h
      exact hN.sp10 _ t (take_eq rs i (by rw [e, hd]))
theorem inv_other {q : Int} {rs : List Int} {R : Option (List Int)} {i : Nat} {o wh : ByteArray} {c : Int} (h : Inv q rs R i o wh) (hi : i < rs.length) (hc : rs.getD i 0 = c) (h32 : c ≠ 32) (h10 : c ≠ 10) (h9 : c ≠ 9) (h13 : c ≠ 13) (hq : c ≠ q) (hb : q = 34 → c ≠ 92) : Inv q rs R (i + 1) (o ++ wh ++ ba (encodeRune c)) ⟨#[]⟩ := by
  obtain ⟨h1, h2, v, f, n, h3, h4, h5, h6, h7⟩ := h
  have e := at_i hi hc
  rw [e] at h3 h4
  simp only [List.cons_append, List.length_cons] at h3 h4
  obtain ⟨n, rfl⟩ : ∃ m, n = m + 1 := ⟨n - 1, by omega⟩
  rw [scan_other q n c _ v f h10 h13 h9 (fun _ => h32) hq hb] at h4
  refine ⟨hi, ?_, v ++ [c], false, n, by omega, h4, ?_, fun h => (by cases h), fun h => ⟨trim_other v c h32, rfl⟩⟩
  · have : (o ++ wh ++ ba (encodeRune c)).size = o.size + wh.size + (ba (encodeRune c)).size := by rw [ByteArray.size_append, ByteArray.size_append]
    have := size_encode c
    have : (⟨#[]⟩ : ByteArray).size = 0 := rfl
    omega
  · rw [B_append, B_append, h5, enc_one]; simp [B, ba]
theorem inv_break {q : Int} {rs : List Int} {R : Option (List Int)} {i : Nat} {o wh : ByteArray} (h : Inv q rs R i o wh) (hN : Neat rs) (hq : q = 34 ∨ q = 39) (hi : i < rs.length) (hc : rs.getD i 0 = 10) {k n : Nat} {r : List Int} (he : empt k 0 (rs.drop (i + 1)) = some (n, r)) : Inv q rs R (rs.length - r.length) (o ++ LnSpec.gap n) ⟨#[]⟩ := by
  obtain ⟨h1, h2, v, f, m, h3, h4, h5, h6, h7⟩ := h
  have e := at_i hi hc
  rw [e] at h3 h4 h6 h7
  have hf : f = false := by
    cases f with
    | false => rfl
    | true => exact absurd rfl (h6 rfl).1
  subst hf
  obtain ⟨ht, hw⟩ := h7 rfl
  simp only [List.cons_append, List.length_cons] at h3 h4
  obtain ⟨m, rfl⟩ : ∃ j, m = j + 1 := ⟨m - 1, by omega⟩
  obtain ⟨g1, m', g2, g3⟩ := gaps q hq v ht k 0 _ m he (hN.drop (i + 1)) (by omega)
  rw [scan_feed q m _ _ _ g1, if_neg (by decide), ht] at h4
  rw [show v ++ [32] = wv v 0 from rfl, g3] at h4
  have hl := empt_len _ _ _ he
  rw [List.length_drop] at hl
  obtain ⟨k1, k2, j, hj⟩ := empt_head _ _ _ he
  have hr : rs.drop (rs.length - r.length) = r := by
    rw [hj, List.drop_drop, List.length_drop]
    by_cases hb : i + 1 + j ≤ rs.length
    · congr 1; omega
    · rw [List.drop_eq_nil_of_le (show rs.length ≤ i + 1 + j by omega), List.drop_eq_nil_of_le (by omega)]
  refine ⟨by omega, ?_, wv v n, true, m', by rw [hr]; exact g2, by rw [hr]; exact h4, ?_, fun _ => by rw [hr]; exact ⟨k1, k2⟩, fun h => by rw [hr] at h; exact absurd h k1⟩
  · have hg : (LnSpec.gap n).size ≤ n + 1 := by
      unfold LnSpec.gap
      split
      · exact Nat.le_add_left _ _
      · rw [ba_size, List.length_replicate]; omega
    have : (o ++ LnSpec.gap n).size = o.size + (LnSpec.gap n).size := ByteArray.size_append
    have : (⟨#[]⟩ : ByteArray).size = 0 := rfl
    omega
  · rw [B_append, wv_enc, ← h5, hw]; simp [B]
theorem inv_join {rs : List Int} {R : Option (List Int)} {i : Nat} {o wh : ByteArray} (h : Inv 34 rs R i o wh) (hN : Neat rs) (hi : i + 1 < rs.length) (hc : rs.getD i 0 = 92) (hd : rs.getD (i + 1) 0 = 10) {k n : Nat} {r : List Int} (he : empt k 0 (rs.drop (i + 2)) = some (n, r)) : n = 0 ∧ Inv 34 rs R (rs.length - r.length) (o ++ wh) ⟨#[]⟩ := by
  obtain ⟨h1, h2, v, f, m, h3, h4, h5, h6, h7⟩ := h
  have e := at_i (show i < rs.length by omega) hc
  have e2 : rs.drop (i + 1) = 10 :: rs.drop (i + 2) := at_i hi hd
  rw [e, e2] at h3 h4
  simp only [List.cons_append, List.length_cons] at h3 h4
  obtain ⟨m, rfl⟩ : ∃ j, m = j + 1 := ⟨m - 1, by omega⟩
  rw [scan_join] at h4
  have hN2 := hN.drop (i + 2)
  obtain ⟨k, rfl⟩ : ∃ j, k = j + 1 := by
    cases k with
    | zero => cases he
    | succ k => exact ⟨k, rfl⟩
  have he' := he
  unfold empt at he'
  split at he'
  · cases he'
  have hns : (skip (rs.drop (i + 2))).head? ≠ some 10 := fun hs => by
    have := skip_feed _ hN2 hs
    rw [this] at hs
    cases hx : rs.drop (i + 2) with
    | nil => rw [hx] at hs; cases hs
    | cons y t =>
      rw [hx] at hs
      injection hs with hs
      subst hs
      exact hN.bs10 _ t (take_eq rs i (by rw [e, e2, hx]))
  rw [if_neg hns] at he'
  injection he' with he'
  injection he' with e3 e4
  subst e3
  refine ⟨rfl, ?_⟩
  have hl := empt_len _ _ _ he
  rw [List.length_drop] at hl
  obtain ⟨k1, k2, j, hj⟩ := empt_head _ _ _ he
  obtain ⟨m', g2, g3⟩ := skip_spaces 34 [34, 10] (rs.drop (i + 2)) m v hN2 (by omega)
  have hr : rs.drop (rs.length - r.length) = r := by
    rw [hj, List.drop_drop, List.length_drop]
    by_cases hb : i + 2 + j ≤ rs.length
    · congr 1; omega
    · rw [List.drop_eq_nil_of_le (show rs.length ≤ i + 2 + j by omega), List.drop_eq_nil_of_le (by omega)]
  refine ⟨by omega, ?_, v, true, m', by rw [hr, ← e4]; exact g2, by rw [hr, ← e4, ← g3]; exact h4, ?_, fun _ => by rw [hr]; exact ⟨k1, k2⟩, fun h => by rw [hr] at h; exact absurd h k1⟩
  · have : (o ++ wh).size = o.size + wh.size := ByteArray.size_append
    have : (⟨#[]⟩ : ByteArray).size = 0 := rfl
    omega
  · rw [B_append, h5]; simp [B]
theorem hx_two {a b : Int} {x : Int} {v : Int} (h : hexs [a, b] v = some x) (hx32 : x = v * 256 + 32) : a = 50 ∧ b = 48 := by
  simp only [hexs] at h
  cases ha : hx a with
  | none => rw [ha] at h; cases h
  | some c =>
    rw [ha] at h
    simp only at h
    cases hb : hx b with
    | none => rw [hb] at h; cases h
    | some d =>
      rw [hb] at h
      simp only at h
      injection h with h
      unfold hx at ha hb
      repeat' split at ha
      all_goals (try cases ha)
      all_goals (repeat' split at hb)
      all_goals (try cases hb)
      all_goals omega
theorem ite_some' {p : Prop} [Decidable p] {a x : Int} {r : Option Int} (h : (if p then some a else r) = some x) : (p ∧ a = x) ∨ r = some x := by
  split at h
  · rename_i hp; injection h with h; exact .inl ⟨hp, h⟩
  · exact .inr h
theorem named_space {d : Int} (h : named d = some 32) : d = 32 := by
  unfold named at h
  iterate 16 (replace h := ite_some' h; rcases h with h | h; · omega)
  cases h
/-- An escape of a space, ahead of a break: it ends with 20, or it is the space behind a backslash. -/
theorem esc_space {l t : List Int} (h : esc l = some (32, t)) : (∃ C, l = 32 :: C) ∨ ∃ A, l = A ++ 50 :: 48 :: t := by
  cases l with
  | nil => cases h
  | cons d r =>
    simp only [esc] at h
    by_cases a : d = 120
    · rw [if_pos a] at h
      by_cases hl : 2 ≤ r.length
      · rw [if_pos hl] at h
        match r, hl with
        | x :: y :: r, _ =>
          simp only [List.take_succ_cons, List.take_zero, List.drop_succ_cons, List.drop_zero, Option.map_eq_some_iff, Prod.mk.injEq] at h
          obtain ⟨z, h1, h2, h3⟩ := h
          subst h3
          obtain ⟨rfl, rfl⟩ := hx_two h1 (by omega)
          exact .inr ⟨[d], rfl⟩
      · rw [if_neg hl] at h; cases h
    · rw [if_neg a] at h
      by_cases b : d = 117
      · rw [if_pos b] at h
        by_cases hl : 4 ≤ r.length
        · rw [if_pos hl] at h
          match r, hl with
          | x :: y :: p :: s :: r, _ =>
            simp only [List.take_succ_cons, List.take_zero, List.drop_succ_cons, List.drop_zero] at h
            cases hh : hexs [x, y, p, s] 0 with
            | none => rw [hh] at h; cases h
            | some z =>
              rw [hh] at h
              simp only at h
              split at h
              · injection h with h
                injection h with h1 h2
                subst h1; subst h2
                simp only [hexs] at hh
                cases hx1 : hx x with
                | none => rw [hx1] at hh; cases hh
                | some c1 =>
                  rw [hx1] at hh
                  simp only at hh
                  cases hx2 : hx y with
                  | none => rw [hx2] at hh; cases hh
                  | some c2 =>
                    rw [hx2] at hh
                    simp only at hh
                    have hh2 : hexs [p, s] ((0 * 16 + c1) * 16 + c2) = some 32 := by simp only [hexs]; exact hh
                    have r1 : 0 ≤ c1 := by
                      unfold hx at hx1
                      repeat' split at hx1
                      all_goals (try cases hx1)
                      all_goals omega
                    have r2 : 0 ≤ c2 := by
                      unfold hx at hx2
                      repeat' split at hx2
                      all_goals (try cases hx2)
                      all_goals omega
                    have rp : ∀ {z d : Int}, hx z = some d → 0 ≤ d := fun {z d} hz => by
                      unfold hx at hz
                      repeat' split at hz
                      all_goals (try cases hz)
                      all_goals omega
                    have hv : (0 * 16 + c1) * 16 + c2 = 0 := by
                      cases hp : hx p with
                      | none => rw [hp] at hh; cases hh
                      | some c3 =>
                        rw [hp] at hh
                        simp only at hh
                        cases hs : hx s with
                        | none => rw [hs] at hh; cases hh
                        | some c4 =>
                          rw [hs] at hh
                          simp only at hh
                          injection hh with hh
                          have := rp hp
                          have := rp hs
                          omega
                    obtain ⟨rfl, rfl⟩ := hx_two hh2 (by omega)
                    exact .inr ⟨[d, x, y], rfl⟩
              · cases h
        · rw [if_neg hl] at h; cases h
      · rw [if_neg b] at h
        simp only [Option.map_eq_some_iff, Prod.mk.injEq] at h
        obtain ⟨z, h1, h2, h3⟩ := h
        subst h2
        refine .inl ⟨r, ?_⟩
        rw [named_space h1]
theorem inv_esc {rs : List Int} {R : Option (List Int)} {i : Nat} {o wh : ByteArray} {x : Int} {n : Nat} (h : Inv 34 rs R i o wh) (hN : Neat rs) (hi : i < rs.length) (hc : rs.getD i 0 = 92) (h10 : (rs.drop (i + 1)).head? ≠ some 10) (hn : n ≤ rs.length) (hin : i + 2 ≤ n) (he : esc (rs.drop (i + 1)) = some (x, rs.drop n)) : Inv 34 rs R n (o ++ wh ++ ba (encodeRune x)) ⟨#[]⟩ := by
  obtain ⟨h1, h2, v, f, m, h3, h4, h5, h6, h7⟩ := h
  have e := at_i hi hc
  rw [e] at h3 h4
  simp only [List.cons_append, List.length_cons] at h3 h4
  obtain ⟨m, rfl⟩ : ∃ j, m = j + 1 := ⟨m - 1, by omega⟩
  have he2 : esc (rs.drop (i + 1) ++ [34, 10]) = some (x, rs.drop n ++ [34, 10]) := by
    cases hl : rs.drop (i + 1) with
    | nil => rw [hl] at he; cases he
    | cons d r =>
      rw [hl] at he
      simp only [List.cons_append, esc] at he ⊢
      by_cases a : d = 120
      · rw [if_pos a] at he ⊢
        by_cases hz : 2 ≤ r.length
        · rw [if_pos hz] at he
          rw [if_pos (by simp), List.take_append_of_le_length hz, List.drop_append_of_le_length hz]
          simp only [Option.map_eq_some_iff, Prod.mk.injEq] at he ⊢
          obtain ⟨z, g1, g2, g3⟩ := he
          exact ⟨z, g1, g2, by rw [g3]⟩
        · rw [if_neg hz] at he; cases he
      · rw [if_neg a] at he ⊢
        by_cases b : d = 117
        · rw [if_pos b] at he ⊢
          by_cases hz : 4 ≤ r.length
          · rw [if_pos hz] at he
            rw [if_pos (by simp; omega), List.take_append_of_le_length hz, List.drop_append_of_le_length hz]
            cases hh : hexs (r.take 4) 0 with
            | none => rw [hh] at he; cases he
            | some z =>
              rw [hh] at he
              simp only at he ⊢
              split at he
              · rename_i hr
                rw [if_pos hr]
                injection he with he
                injection he with g1 g2
                rw [g1, g2]
              · cases he
          · rw [if_neg hz] at he; cases he
        · rw [if_neg b] at he ⊢
          simp only [Option.map_eq_some_iff, Prod.mk.injEq] at he ⊢
          obtain ⟨z, g1, g2, g3⟩ := he
          exact ⟨z, g1, g2, by rw [g3]⟩
  have h10' : (rs.drop (i + 1) ++ [34, 10]).head? ≠ some 10 := by
    cases hl : rs.drop (i + 1) with
    | nil => simp
    | cons d r => rw [hl] at h10; simpa using h10
  rw [scan_esc m _ v _ x f h10' he2] at h4
  refine ⟨hn, ?_, v ++ [x], false, m, ?_, h4, ?_, fun h => (by cases h), fun h => ⟨?_, rfl⟩⟩
  · have : (o ++ wh ++ ba (encodeRune x)).size = o.size + wh.size + (ba (encodeRune x)).size := by rw [ByteArray.size_append, ByteArray.size_append]
    have := size_encode x
    have : (⟨#[]⟩ : ByteArray).size = 0 := rfl
    omega
  · simp only [List.length_append, List.length_drop] at h3 ⊢; omega
  · rw [B_append, B_append, h5, enc_one]; simp [B, ba]
  · by_cases h32 : x = 32
    · exfalso
      subst h32
      cases hd : rs.drop n with
      | nil => rw [hd] at h; cases h
      | cons d t =>
        rw [hd] at h he
        injection h with h
        subst h
        rcases esc_space he with ⟨C, hC⟩ | ⟨A, hA⟩
        · exact hN.bs32 _ C (take_eq rs i (by rw [e, hC]))
        · exact hN.x20 (rs.take (i + 1) ++ A) t (by rw [List.append_assoc]; exact take_eq rs (i + 1) hA)
    · exact trim_other v x h32
theorem inv_fin {q : Int} (hq : q = 34 ∨ q = 39) {rs : List Int} {R : Option (List Int)} {o wh : ByteArray} (h : Inv q rs R rs.length o wh) : ∃ v, R = some v ∧ B (o ++ wh) = enc v := by
  obtain ⟨h1, h2, v, f, n, h3, h4, h5, h6, h7⟩ := h
  rw [List.drop_length] at h3 h4
  simp only [List.nil_append, List.length_cons, List.length_nil] at h3 h4
  obtain ⟨n, rfl⟩ : ∃ j, n = j + 1 := ⟨n - 1, by omega⟩
  rw [scan_end q hq] at h4
  exact ⟨v, h4.symm, by rw [B_append, h5]⟩
end Go.Proofs.YtgglhfbjbddjjaaDoor.LnInv
