/- Plain facts for FnBreakCounted: what Has and Broken come to, and that the three texts have as many breaks. For texts of at most 2147483647 bytes. -/
import Derived.Test.YtmildhkegpmacaaPFnBreakCountedx1
import Derived.Test.YtmildhkegpmacaaRunes
namespace Go.Proofs.Ytmildhkegpmacaa.BreakPure
open Go.RowKit Go.Proofs.Ytmildhkegpmacaa.PFnBreakCounted Go.Proofs.YtmildhkegpmacaaW.PrintWords Go.Proofs.YtmildhkegpmacaaW.PrintLast Go.Proofs.Ytmildhkegpmacaa.Runes

theorem bt_at' (s : ByteArray) (i : Nat) (h : i < s.size) : bt s (i : Int) = ((s[i]'h).toNat : Int) := by simp [bt, h]

theorem bytesAt_bt (s : ByteArray) (i : Nat) (h : i < s.size) : bytesAt s i = bt s (i : Int) :: bytesAt s (i + 1) := by
  rw [bytesAt_cons s i h, bt_at' s i h]

theorem wrap_up (i : Nat) (n : Nat) (h : i < n) (hn : n ≤ 140737488351232) : wrap64 ((i : Int) + 1) = ((i + 1 : Nat) : Int) := by
  unfold wrap64; omega

/-- Has of one sign. -/
theorem has_one (c : UInt8) (s : ByteArray) (hs : s.size ≤ 2147483647) (d : Nat) : ∀ (k i : Nat), i ≤ s.size → s.size - i = d → 3 * d + 3 < k →
    spec_Has.l0 k s ⟨#[c]⟩ (i : Int) = some (decide ((c.toNat : Int) ∈ bytesAt s i)) := by
  induction d with
  | zero =>
    intro k i h1 h2 h3
    obtain ⟨k, rfl⟩ : ∃ m, k = m + 1 := ⟨k - 1, by omega⟩
    simp only [spec_Has.l0]
    rw [if_neg (by omega), bytesAt_end s i (by omega)]
    simp
  | succ d ih =>
    intro k i h1 h2 h3
    obtain ⟨k, rfl⟩ : ∃ m, k = m + 3 := ⟨k - 3, by omega⟩
    have hi : i < s.size := by omega
    have e1 : bt (⟨#[c]⟩ : ByteArray) 0 = (c.toNat : Int) := by simp [bt]; rfl
    have e2 : ((⟨#[c]⟩ : ByteArray).size : Int) = 1 := rfl
    have r := ih k (i + 1) (by omega) (by omega) (by omega)
    simp only [spec_Has.l0, spec_Has.l1, e1, e2]
    rw [if_pos (by omega), if_pos (by omega), if_pos (by omega), if_pos (by omega), if_pos (by omega), bytesAt_bt s i hi]
    by_cases hc : bt s (i : Int) = (c.toNat : Int)
    · rw [if_pos hc]; simp [hc]
    · rw [if_neg hc, show wrap64 (0 + 1) = (1 : Int) from by unfold wrap64; omega, if_neg (by omega), wrap_up i s.size hi (by omega), r]
      have : ¬ (c.toNat : Int) = bt s (i : Int) := fun h => hc h.symm
      simp [this]

theorem has_cr (s : ByteArray) (hs : s.size ≤ 2147483647) : ∃ k, spec_Has.f k s ⟨#[13]⟩ = some (decide ((13 : Int) ∈ bytesAt s 0)) :=
  ⟨3 * s.size + 4, has_one 13 s hs s.size _ 0 (by omega) (by omega) (by omega)⟩

/-- Broken, on numbers. -/
def brk (both : Bool) : List Int → List Int
  | [] => []
  | c :: t => (if c = 10 then (if both = true then [13, 10] else [13]) else [c]) ++ brk both t

theorem brk_l0 (s : ByteArray) (both : Bool) (hs : s.size ≤ 2147483647) (d : Nat) : ∀ (k i : Nat) (acc : List Int), i ≤ s.size → s.size - i = d → d < k → acc.length ≤ 2 * i →
    spec_Broken.l0 k s both acc (i : Int) = some (strOfNums (acc ++ brk both (bytesAt s i))) := by
  induction d with
  | zero =>
    intro k i acc h1 h2 h3 h4
    obtain ⟨k, rfl⟩ : ∃ m, k = m + 1 := ⟨k - 1, by omega⟩
    simp only [spec_Broken.l0]
    rw [if_neg (by omega), bytesAt_end s i (by omega)]
    simp [brk]
  | succ d ih =>
    intro k i acc h1 h2 h3 h4
    obtain ⟨k, rfl⟩ : ∃ m, k = m + 1 := ⟨k - 1, by omega⟩
    have hi : i < s.size := by omega
    simp only [spec_Broken.l0]
    rw [if_pos (by omega), if_pos (by omega), wrap_up i s.size hi (by omega), bytesAt_bt s i hi]
    by_cases hc : bt s (i : Int) = 10
    · rw [if_pos hc]
      cases both with
      | true =>
        simp only [if_true, Option.bind_some]
        rw [if_pos (by simp; omega), ih k (i + 1) _ (by omega) (by omega) (by omega) (by simp; omega)]
        simp [brk, hc]
      | false =>
        simp only [Bool.false_eq_true, if_false]
        rw [if_pos (by omega), ih k (i + 1) _ (by omega) (by omega) (by omega) (by simp; omega)]
        simp [brk, hc]
    · rw [if_neg hc, if_pos (by omega), ih k (i + 1) _ (by omega) (by omega) (by omega) (by simp; omega)]
      simp [brk, hc]

def broken (both : Bool) (s : ByteArray) : ByteArray := strOfNums (brk both (bytesAt s 0))

theorem broken_f (both : Bool) (s : ByteArray) (hs : s.size ≤ 2147483647) : ∃ k, spec_Broken.f k s both = some (broken both s) :=
  ⟨s.size + 1, by have := brk_l0 s both hs s.size (s.size + 1) 0 [] (by omega) (by omega) (by omega) (by simp); simpa [spec_Broken.f, broken] using this⟩

theorem strOfNums_bytes (l : List Int) (h : ∀ c ∈ l, 0 ≤ c ∧ c ≤ 255) : bytesAt (strOfNums l) 0 = l := by
  unfold bytesAt
  rw [strOfNums_data, List.drop_zero, List.map_map]
  conv => rhs; rw [← List.map_id l]
  refine List.map_congr_left fun c hc => ?_
  have := h c hc
  simp [UInt8.toNat_ofNat']
  omega

/-- How many line feeds. -/
def nl : List Int → Nat
  | [] => 0
  | c :: t => (if c = 10 then 1 else 0) + nl t

theorem cnt_plain : ∀ (l : List Int), (13 : Int) ∉ l → cnt false l = nl l
  | [], _ => rfl
  | c :: t, h => by
    have h1 : c ≠ 13 := fun e => h (by simp [e])
    have h2 : (13 : Int) ∉ t := fun e => h (by simp [e])
    simp [cnt, nl, h1, cnt_plain t h2]

theorem brk_no_feed : ∀ (l : List Int), (10 : Int) ∉ brk false l
  | [] => by simp [brk]
  | c :: t => by
    have := brk_no_feed t
    by_cases hc : c = 10
    · simp [brk, hc, this]
    · simp [brk, hc, this]; omega

theorem cnt_cr : ∀ (l : List Int), (13 : Int) ∉ l → cnt false (brk false l) = nl l
  | [], _ => rfl
  | c :: t, h => by
    have h1 : c ≠ 13 := fun e => h (by simp [e])
    have h2 : (13 : Int) ∉ t := fun e => h (by simp [e])
    have hf := brk_no_feed t
    have e : cnt true (brk false t) = cnt false (brk false t) := cnt_true _ (fun x hx hx2 => hf (by rw [← hx2]; exact List.mem_of_mem_head? hx))
    by_cases hc : c = 10
    · simp [brk, hc, cnt, nl, e, cnt_cr t h2]
    · simp [brk, hc, cnt, nl, h1, cnt_cr t h2]

theorem cnt_crlf : ∀ (l : List Int), (13 : Int) ∉ l → cnt false (brk true l) = nl l
  | [], _ => rfl
  | c :: t, h => by
    have h1 : c ≠ 13 := fun e => h (by simp [e])
    have h2 : (13 : Int) ∉ t := fun e => h (by simp [e])
    by_cases hc : c = 10
    · simp [brk, hc, cnt, nl, cnt_crlf t h2]
    · simp [brk, hc, cnt, nl, h1, cnt_crlf t h2]

theorem brk_bytes (both : Bool) : ∀ (l : List Int), (∀ c ∈ l, 0 ≤ c ∧ c ≤ 255) → ∀ c ∈ brk both l, 0 ≤ c ∧ c ≤ 255
  | [], _ => by simp [brk]
  | a :: t, h => by
    intro c hc
    have ht := brk_bytes both t (fun x hx => h x (by simp [hx]))
    unfold brk at hc
    rcases List.mem_append.1 hc with hc | hc
    · by_cases ha : a = 10
      · cases both <;> simp [ha] at hc <;> omega
      · simp [ha] at hc; exact hc ▸ h a (by simp)
    · exact ht c hc

theorem bytesAt_range (s : ByteArray) (i : Nat) : ∀ c ∈ bytesAt s i, 0 ≤ c ∧ c ≤ 255 := by
  intro c hc
  unfold bytesAt at hc
  obtain ⟨b, _, rfl⟩ := List.mem_map.1 hc
  have := b.toNat_lt
  omega

theorem bytesAt_length (s : ByteArray) (i : Nat) : (bytesAt s i).length = s.size - i := by
  unfold bytesAt; simp

theorem brk_length (both : Bool) : ∀ (l : List Int), (brk both l).length ≤ 2 * l.length
  | [] => by simp [brk]
  | c :: t => by
    have := brk_length both t
    by_cases hc : c = 10 <;> cases both <;> simp [brk, hc] <;> omega

/-- Breaks of a string: of its runes. -/
def breaks (s : ByteArray) : Nat := cnt false (runes s s.size 0)

theorem breaks_plain (s : ByteArray) (h : (13 : Int) ∉ bytesAt s 0) : breaks s = nl (bytesAt s 0) := by
  unfold breaks; rw [cnt_runes s _ 0 false (by omega), cnt_plain _ h]
theorem breaks_broken (both : Bool) (s : ByteArray) (h : (13 : Int) ∉ bytesAt s 0) : breaks (broken both s) = nl (bytesAt s 0) := by
  unfold breaks
  rw [cnt_runes _ _ 0 false (by omega)]
  unfold broken
  rw [strOfNums_bytes _ (brk_bytes both _ (bytesAt_range s 0))]
  cases both
  · exact cnt_cr _ h
  · exact cnt_crlf _ h
theorem broken_size (both : Bool) (s : ByteArray) : (broken both s).size ≤ 2 * s.size := by
  have h := bytesAt_length (broken both s) 0
  unfold broken at h ⊢
  rw [strOfNums_bytes _ (brk_bytes both _ (bytesAt_range s 0))] at h
  have := brk_length both (bytesAt s 0)
  rw [bytesAt_length] at this
  omega

end Go.Proofs.Ytmildhkegpmacaa.BreakPure
