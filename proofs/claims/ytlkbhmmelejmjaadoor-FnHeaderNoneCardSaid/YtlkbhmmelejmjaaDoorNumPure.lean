/- Numbers: prefixes, the place of a text and its replacement, as plain functions on lists; the count of a text in another. -/
import Derived.Test.YtlkbhmmelejmjaaDoorNumKnown
import Derived.Lib.Strings
import Derived.Lib.IndexBytes
import Derived.Laws.Strings3
import Derived.WalkSpells
namespace Go.Proofs.YtlkbhmmelejmjaaDoor.NumPure
open Go.RowKit Go.Proofs.YtlkbhmmelejmjaaDoorW.PrintWords Go.Proofs.YtlkbhmmelejmjaaDoor.NumKnown
set_option linter.unusedVariables false
set_option linter.unusedSimpArgs false

def hp (s p : ByteArray) : Bool := Lib.hasPrefix s.data.toList p.data.toList
def tp (s p : ByteArray) : ByteArray := if hp s p = true then s.extract p.size s.size else s

theorem sl_HP_f (s p : ByteArray) : stringslite_HasPrefix.f s p = some (hp s p) := by
  have h := Lib.hasPrefix_raw s p
  unfold stringslite_HasPrefix.f hp
  rw [← h]
  by_cases hc : p.size ≤ s.size
  · rw [if_pos (by omega), if_pos (by omega), if_pos (by omega), decide_eq_true hc, Bool.true_and, Int.toNat_natCast]
  · rw [if_neg (by omega), decide_eq_false hc, Bool.false_and]
theorem HP_f (s p : ByteArray) : strings_HasPrefix.f s p = some (hp s p) := by
  unfold strings_HasPrefix.f; rw [sl_HP_f]; rfl
theorem hp_size {s p : ByteArray} (h : hp s p = true) : p.size ≤ s.size := by
  unfold hp at h
  rw [← Lib.hasPrefix_raw, Bool.and_eq_true] at h
  exact of_decide_eq_true h.1
theorem TP_f (s p : ByteArray) : strings_TrimPrefix.f s p = some (tp s p) := by
  have e : stringslite_TrimPrefix.f s p = some (tp s p) := by
    unfold stringslite_TrimPrefix.f tp
    rw [sl_HP_f]
    simp only [Option.bind_some]
    by_cases h : hp s p = true
    · have := hp_size h
      rw [if_pos h, if_pos h, if_pos (by omega), if_pos (by omega), Int.toNat_natCast]
    · rw [if_neg h, if_neg h]
  unfold strings_TrimPrefix.f
  rw [e]; rfl

theorem piece_mem {s p : ByteArray} {i : Nat} {b : UInt8} (hb : p.data.toList.head? = some b) (h : (s.extract i (i + p.size)).toList = p.toList) : b ∈ s.data.toList := by
  rw [Lib.extract_toList, Lib.toList_data] at h
  have : b ∈ p.data.toList := List.mem_of_mem_head? hb
  rw [← h] at this
  exact List.mem_of_mem_drop (List.mem_of_mem_take this)

theorem idx_none {s p : ByteArray} {b : UInt8} (hb : p.data.toList.head? = some b) (hn : b ∉ s.data.toList) (hs : s.size ≤ 2305843009213693952) (hp : p.size ≤ 2305843009213693952) (h1 : 0 < p.size) (d : Nat) : ∀ (k i : Nat), s.size + 1 - i ≤ d → i ≤ s.size → d < k → token_zzIndex.l0 k s p (i : Int) = some (-1) := by
  induction d with
  | zero => intro k i h2 h3 h4; omega
  | succ d ih =>
    intro k i h2 h3 h4
    obtain ⟨k, rfl⟩ : ∃ m, k = m + 1 := ⟨k - 1, by omega⟩
    have hw : wrap64 ((i : Int) + (p.size : Int)) = ((i + p.size : Nat) : Int) := by unfold wrap64; omega
    have hw1 : wrap64 ((i : Int) + 1) = ((i + 1 : Nat) : Int) := by unfold wrap64; omega
    simp only [token_zzIndex.l0, hw, hw1]
    by_cases hle : i + p.size ≤ s.size
    · rw [if_pos (by omega), if_pos (by omega), if_pos (by omega), if_neg ?_]
      · exact ih k (i + 1) (by omega) (by omega) (by omega)
      · intro h
        rw [Int.toNat_natCast, Int.toNat_natCast] at h
        exact hn (piece_mem hb h)
    · rw [if_neg (by omega)]
theorem idx_none_f {s p : ByteArray} {b : UInt8} (hb : p.data.toList.head? = some b) (hn : b ∉ s.data.toList) (hs : s.size ≤ 2305843009213693952) (hp : p.size ≤ 2305843009213693952) (h1 : 0 < p.size) (k : Nat) (hk : s.size + 1 < k) : token_zzIndex.f k s p = some (-1) :=
  idx_none hb hn hs hp h1 (s.size + 1) k 0 (by omega) (by omega) hk

theorem strOfNums_bytes (s : ByteArray) : strOfNums (bytesOf s) = s := by
  have e : (bytesOf s).map (fun z => UInt8.ofNat z.toNat) = s.data.toList := by
    unfold bytesOf
    rw [List.map_map]
    conv => rhs; rw [← List.map_id s.data.toList]
    refine List.map_congr_left fun b _ => ?_
    simp
  unfold strOfNums
  first
    | (rw [e])
    | (show (⟨⟨_⟩⟩ : ByteArray) = s; simp [e])

/-- Nothing to replace. -/
theorem rep_none {s : ByteArray} {p q : ByteArray} {b : UInt8} (hb : p.data.toList.head? = some b) (hn : b ∉ s.data.toList) (hs : s.size ≤ 140737488355327) (hp : p.size ≤ 2305843009213693952) (h1 : 0 < p.size) (k : Nat) (hk : s.size + 2 < k) : token_zzReplaceAll.f k s p q = some s := by
  obtain ⟨k, rfl⟩ : ∃ m, k = m + 1 := ⟨k - 1, by omega⟩
  simp only [token_zzReplaceAll.f, token_zzReplaceAll.l0]
  rw [idx_none_f hb hn (by omega) hp h1 k (by omega)]
  simp only [Option.bind_some]
  rw [if_pos (by omega), if_pos (by simp; omega), List.nil_append, strOfNums_bytes]

theorem piece_one (s : ByteArray) (i : Nat) (h : i < s.size) : (s.extract i (i + 1)).toList = [s[i]] := by
  rw [Lib.extract_toList, show i + 1 - i = 1 by omega]
  have hl : i < s.data.toList.length := by rw [← Lib.size_eq]; exact h
  rw [List.drop_eq_getElem_cons hl]
  rfl
theorem count_take (L : List UInt8) (b : UInt8) (i : Nat) (h : i < L.length) : (L.take (i + 1)).count b = (L.take i).count b + (if L[i] == b then 1 else 0) := by
  rw [List.take_succ_eq_append_getElem h, List.count_append, List.count_singleton]

/-- How often a byte stands in a text. -/
def cnt (b : UInt8) (s : ByteArray) : Nat := s.data.toList.count b
def Cnt (n : Int) (w : World) (e : Ending) (w' : World) : Prop := e = .returned (.int .i64 n) ∧ w = w'

set_option maxRecDepth 100000 in
/-- The count of a byte. -/
theorem count_one (s : ByteArray) (b : UInt8) (hs : s.size ≤ 2305843009213693952) (w : World) : Calls Tryd.prog 29 #[.string s, .string ⟨#[b]⟩] w (Cnt (cnt b s : Int) w) := by
  have hL : s.data.toList.length = s.size := (Lib.size_eq s).symm
  go_enter Tryd.func29, Tryd.ntmps29
  go_wp2_with fail
  go_loop [5, 6] (fun vn vi => ∃ i n : Nat, i ≤ s.size ∧ vi = .int .i64 i ∧ vn = .int .i64 n ∧ n ≤ i ∧ n = (s.data.toList.take i).count b) (fun _ vi => s.size - (intOf vi).toNat)
  case atStart => exact ⟨0, 0, Nat.zero_le _, rfl, rfl, Nat.le_refl _, rfl⟩
  case round =>
    obtain ⟨i, n, hi, rfl, rfl, hni, hn⟩ := hrel
    have HN := Aside0.mk hn
    clear hn
    by_cases hlt : i < s.size
    · have hp1 := piece_one s i hlt
      have hct := count_take s.data.toList b i (by rw [hL]; exact hlt)
      have hge : s.data.toList[i]'(by rw [hL]; exact hlt) = s[i] := rfl
      rw [hge] at hct
      by_cases hb : s[i] = b
      · rw [hb] at hct hp1
        rw [if_pos (by simp)] at hct
        have HC := Aside0.mk hct
        have hq : ((s.extract i (i + 1)).toList == [b]) = true := by rw [hp1]; simp
        clear hct hp1 hge hb
        go_wp2_with fail
        go_round
        case rel => exact ⟨i + 1, n + 1, by omega, by go_num, by go_num, by omega, by rw [HC.out, HN.out]⟩
        case measure => simp [intOf]; omega
      · rw [if_neg (by simpa using hb)] at hct
        have HC := Aside0.mk hct
        have hq : ((s.extract i (i + 1)).toList == [b]) = false := by rw [hp1]; simpa using hb
        clear hct hp1 hge hb
        go_wp2_with fail
        go_round
        case rel => exact ⟨i + 1, n, by omega, by go_num, rfl, by omega, by rw [HC.out, HN.out]; rfl⟩
        case measure => simp [intOf]; omega
    · obtain rfl : i = s.size := by omega
      go_wp2_with fail
      go_ret
      have hn := HN.out
      rw [List.take_of_length_le (by rw [hL]; exact Nat.le_refl _)] at hn
      exact ⟨by unfold cnt; rw [← hn]; rfl, rfl⟩

set_option maxRecDepth 100000 in
/-- Two bytes of which the first does not occur. -/
theorem count_two (s : ByteArray) (b c : UInt8) (hn : b ∉ s.data.toList) (hs : s.size ≤ 2305843009213693952) (w : World) : Calls Tryd.prog 29 #[.string s, .string ⟨#[b, c]⟩] w (Cnt 0 w) := by
  have HN := Aside0.mk hn
  clear hn
  go_enter Tryd.func29, Tryd.ntmps29
  go_wp2_with fail
  go_loop [5, 6] (fun vn vi => ∃ i : Nat, i ≤ s.size ∧ vi = .int .i64 i ∧ vn = .int .i64 0) (fun _ vi => s.size - (intOf vi).toNat)
  case atStart => exact ⟨0, Nat.zero_le _, rfl, rfl⟩
  case round =>
    obtain ⟨i, hi, rfl, rfl⟩ := hrel
    by_cases hlt : i + 2 ≤ s.size
    · have hq : ((s.extract i (i + 2)).toList == [b, c]) = false := by
        rw [beq_eq_false_iff_ne]
        intro h
        exact HN.out (piece_mem (p := ⟨#[b, c]⟩) (i := i) (b := b) rfl (by rw [Lib.toList_data ⟨#[b, c]⟩]; exact h))
      go_wp2_with fail
      go_round
      case rel => exact ⟨i + 1, by omega, by go_num, rfl⟩
      case measure => simp [intOf]; omega
    · go_wp2_with fail
      go_ret
      exact ⟨rfl, rfl⟩
end Go.Proofs.YtlkbhmmelejmjaaDoor.NumPure
