/- Plain facts for FnHeaderWritten: a text's lines, in bytes and in runes; what the printed helpers come to. No program runs here. -/
import Derived.Test.YtmildhkegpmacaaDoorQuoteFind
import Derived.Test.YtmildhkegpmacaaDoorHeadIndent
import Derived.Test.YtmildhkegpmacaaDoorHeadSpaces
namespace Go.Proofs.YtmildhkegpmacaaDoor.HeadPure
open Go.RowKit Go.Proofs.YtmildhkegpmacaaDoorW.PrintWords Go.Proofs.YtmildhkegpmacaaDoorW.PrintLast Go.Proofs.YtmildhkegpmacaaDoorW.PrintMore Go.Proofs.YtmildhkegpmacaaDoor.PFnHeaderWritten Go.Proofs.YtmildhkegpmacaaDoor.Utf
open Go.Proofs.YtmildhkegpmacaaDoor.Runes (content all all_cons mayStand)
open Go.Proofs.YtmildhkegpmacaaDoor.QuoteFind (ints ints_append ints_length strOfNums_ints hit round_hit)
set_option linter.unusedVariables false
set_option linter.unusedSimpArgs false

/-! ### lines -/
def split : List UInt8 → List UInt8 → List (List UInt8)
  | acc, [] => if acc = [] then [] else [acc]
  | acc, c :: t => if c = 10 then acc :: split [] t else split (acc ++ [c]) t
def rsplit : List Int → List Int → List (List Int)
  | acc, [] => if acc = [] then [] else [acc]
  | acc, c :: t => if c = 10 then acc :: rsplit [] t else rsplit (acc ++ [c]) t
/-- Lines, each with its line feed. -/
def J (ls : List (List UInt8)) : List UInt8 := ls.flatMap (· ++ [10])
theorem J_cons (l : List UInt8) (ls : List (List UInt8)) : J (l :: ls) = l ++ [10] ++ J ls := by simp [J]
theorem J_append (a b : List (List UInt8)) : J (a ++ b) = J a ++ J b := by simp [J]

theorem J_split : ∀ (t acc : List UInt8), (t.getLast? = some 10 → J (split acc t) = acc ++ t) ∧ (t.getLast? ≠ some 10 → acc ++ t ≠ [] → (t = [] → acc ≠ []) → J (split acc t) = acc ++ t ++ [10])
  | [], acc => ⟨fun h => by simp at h, fun _ h _ => by
      have : acc ≠ [] := by simpa using h
      simp [split, this, J]⟩
  | c :: t, acc => by
    have ih1 := J_split t []
    have ih2 := J_split t (acc ++ [c])
    simp only [split]
    by_cases hc : c = 10
    · subst hc
      simp only [if_true]
      rw [J_cons]
      cases t with
      | nil => exact ⟨fun _ => by simp [split, J], fun h => by simp at h⟩
      | cons d u =>
        have e : (10 :: d :: u : List UInt8).getLast? = (d :: u).getLast? := by simp [List.getLast?_cons]
        rw [e]
        refine ⟨fun h => ?_, fun h _ _ => ?_⟩
        · rw [ih1.1 h]; simp
        · rw [ih1.2 h (by simp) (by simp)]; simp
    · simp only [hc, if_false]
      cases t with
      | nil => exact ⟨fun h => by simp at h; exact absurd h hc, fun _ _ _ => by simp [split, J]⟩
      | cons d u =>
        have e : (c :: d :: u : List UInt8).getLast? = (d :: u).getLast? := by simp [List.getLast?_cons]
        rw [e]
        refine ⟨fun h => ?_, fun h _ _ => ?_⟩
        · rw [ih2.1 h]; simp
        · rw [ih2.2 h (by simp) (by simp)]; simp

theorem split_pre (p t : List UInt8) (h : (10 : UInt8) ∉ p) : ∀ acc, split acc (p ++ t) = split (acc ++ p) t := by
  induction p with
  | nil => intro acc; simp
  | cons c q ih =>
    intro acc
    have hc : c ≠ 10 := fun e => h (by simp [e])
    simp only [List.cons_append, split, hc, if_false]
    rw [ih (fun e => h (by simp [e]))]
    simp

theorem byte_not_in (b : Nat) (hb : b < 128) (r : Int) (h : Scalar r) (hne : r ≠ b) : (b.toUInt8) ∉ Lib.encodeRune r := by
  intro hm
  unfold Lib.encodeRune at hm
  obtain ⟨z, hz, e⟩ := List.mem_map.1 hm
  have hzb := Lib.encodeRuneZ_byte r z hz
  have hz39 : z = b := by
    have := congrArg UInt8.toNat e
    rw [toByte' z hzb.1 hzb.2] at this
    have h39 : (b.toUInt8).toNat = b := by simp; omega
    omega
  subst hz39
  obtain ⟨h0, h1⟩ := h
  unfold Lib.encodeRuneZ at hz
  repeat' split at hz
  all_goals (simp at hz; try omega)

theorem enc_not_in (b : Nat) (hb : b < 128) (rs : List Int) (h : ∀ r ∈ rs, Scalar r) (hne : ∀ r ∈ rs, r ≠ b) : (b.toUInt8) ∉ enc rs := by
  intro hm
  obtain ⟨r, hr, he⟩ := List.mem_flatMap.1 hm
  exact byte_not_in b hb r (h r hr) (hne r hr) he

theorem enc_eq_nil (rs : List Int) : enc rs = [] ↔ rs = [] := by
  constructor
  · intro h
    cases rs with
    | nil => rfl
    | cons r t =>
      rw [enc_cons] at h
      have := (encodeRune_length r).1
      have h2 := congrArg List.length h
      rw [List.length_append, List.length_nil] at h2
      omega
  · rintro rfl; rfl

theorem split_enc : ∀ (rs acc : List Int), (∀ r ∈ rs, Scalar r) → split (enc acc) (enc rs) = (rsplit acc rs).map enc
  | [], acc, _ => by
    simp only [rsplit, split, enc_nil]
    by_cases h : acc = []
    · simp [h, enc_nil]
    · have : enc acc ≠ [] := fun e => h ((enc_eq_nil acc).1 e)
      simp [h, this]
  | r :: t, acc, h => by
    rw [enc_cons]
    by_cases hr : r = 10
    · subst hr
      rw [encodeRune_ascii 10 (by omega) (by omega)]
      have := split_enc t [] (fun x hx => h x (by simp [hx]))
      rw [enc_nil] at this
      show split (enc acc) ((10 : UInt8) :: enc t) = _
      simp only [rsplit, split, if_true, List.map_cons, this]
    · rw [split_pre _ _ (byte_not_in 10 (by omega) r (h r (by simp)) hr)]
      have := split_enc t (acc ++ [r]) (fun x hx => h x (by simp [hx]))
      simp only [rsplit, hr, if_false]
      rw [← this, enc_append, enc_cons]
      simp [enc_nil]

theorem rsplit_mem : ∀ (rs acc : List Int), ∀ l ∈ rsplit acc rs, ∀ r ∈ l, (r ∈ acc ∨ (r ∈ rs ∧ r ≠ 10))
  | [], acc, l, hl, r, hr => by
    simp only [rsplit] at hl
    split at hl
    · simp at hl
    · simp at hl; subst hl; exact .inl hr
  | c :: t, acc, l, hl, r, hr => by
    simp only [rsplit] at hl
    split at hl
    · rcases List.mem_cons.1 hl with rfl | hl
      · exact .inl hr
      · rcases rsplit_mem t [] l hl r hr with h | h
        · simp at h
        · exact .inr ⟨by simp [h.1], h.2⟩
    · rcases rsplit_mem t (acc ++ [c]) l hl r hr with h | h
      · rcases List.mem_append.1 h with h | h
        · exact .inl h
        · simp at h; subst h; exact .inr ⟨by simp, by assumption⟩
      · exact .inr ⟨by simp [h.1], h.2⟩

theorem rsplit_head : ∀ (rs acc : List Int), acc ≠ [] → ∃ l ls, rsplit acc rs = (acc ++ l) :: ls
  | [], acc, h => ⟨[], [], by simp [rsplit, h]⟩
  | c :: t, acc, h => by
    simp only [rsplit]
    split
    · exact ⟨[], rsplit [] t, by simp⟩
    · obtain ⟨l, ls, e⟩ := rsplit_head t (acc ++ [c]) (by simp)
      exact ⟨c :: l, ls, by rw [e]; simp⟩

theorem rsplit_length : ∀ (rs acc : List Int), (rsplit acc rs).length ≤ rs.length + 1 ∧ ∀ l ∈ rsplit acc rs, l.length ≤ acc.length + rs.length
  | [], acc => by
    simp only [rsplit]
    split <;> simp
  | c :: t, acc => by
    have h1 := rsplit_length t []
    have h2 := rsplit_length t (acc ++ [c])
    simp only [rsplit]
    split
    · refine ⟨by simp; omega, fun l hl => ?_⟩
      rcases List.mem_cons.1 hl with rfl | hl
      · simp
      · have := h1.2 l hl; simp at this ⊢; omega
    · refine ⟨by simp; omega, fun l hl => ?_⟩
      have := h2.2 l hl; simp at this ⊢; omega

/-! ### the printed helpers -/
theorem spaces_f (k : Nat) (hk : 5 ≤ k) : spec_scSpaces.f k 2 = some (ba [32, 32]) := by
  obtain ⟨k, rfl⟩ : ∃ m, k = m + 5 := ⟨k - 5, by omega⟩
  simp [spec_scSpaces.f, spec_scSpaces.l0, mx, wrap64, List.replicate]
  decide

def lined (l : List UInt8) : ByteArray := if l = [] then ba [] else ba (32 :: 32 :: l)

theorem line_f (k : Nat) (hk : 5 ≤ k) (l : List UInt8) (hl : l.length ≤ 8796093022208) : spec_scLine.f k (ba l) 2 = some (lined l) := by
  unfold spec_scLine.f lined
  rw [ByteArray.toList_eq]
  by_cases h : l = []
  · subst h; rfl
  · rw [if_neg h, if_neg (by exact h), spaces_f k hk]
    simp only [Option.bind_some]
    rw [ba_size, ba_size, if_pos (by simp; omega)]
    rfl

theorem bt_nat (s : ByteArray) (i : Nat) (hi : i < s.size) : bt s (i : Int) = (((B s).getD i 0).toNat : Int) := by
  unfold bt
  rw [dif_pos (by simpa using hi)]
  have hi2 : i < s.data.size := hi
  have hj : i < (B s).length := by rw [B_length]; exact hi
  simp only [List.getD, List.getElem?_eq_getElem hj, Option.getD_some]
  show ((s.data[i]'hi2).toNat : Int) = _
  simp [B]

theorem ba_append (a b : List UInt8) : ba a ++ ba b = ba (a ++ b) := by
  refine eq_of_B ?_
  simp [B, ba]

theorem indented_l0 (v : ByteArray) (hv : v.size ≤ 65536) (d : Nat) : ∀ (k i : Nat) (done : List ByteArray) (acc : List UInt8), i ≤ v.size → v.size - i = d → d + 6 < k → acc.length ≤ i → done.length ≤ i →
    spec_Indented.l0 k v 2 done (ba acc) (i : Int) = some (done ++ (split acc ((B v).drop i)).map lined) := by
  induction d with
  | zero =>
    intro k i done acc h1 h2 h3 h4 h5
    obtain ⟨k, rfl⟩ : ∃ m, k = m + 1 := ⟨k - 1, by omega⟩
    simp only [spec_Indented.l0]
    rw [if_neg (by omega), List.drop_eq_nil_of_le (by rw [B_length]; omega), ByteArray.toList_eq]
    by_cases h : acc = []
    · subst h
      rw [if_pos (by rfl)]; simp [split]
    · rw [if_neg (by exact h), line_f k (by omega) acc (by omega)]
      simp only [Option.bind_some]
      rw [if_pos (by omega)]
      simp [split, h]
  | succ d ih =>
    intro k i done acc h1 h2 h3 h4 h5
    obtain ⟨k, rfl⟩ : ∃ m, k = m + 1 := ⟨k - 1, by omega⟩
    have hi : i < v.size := by omega
    have hiB : i < (B v).length := by rw [B_length]; exact hi
    have e : (B v).drop i = (B v).getD i 0 :: (B v).drop (i + 1) := by rw [List.drop_eq_getElem_cons hiB]; congr 1; simp only [List.getD, List.getElem?_eq_getElem hiB, Option.getD_some]
    have hw : wrap64 ((i : Int) + 1) = ((i + 1 : Nat) : Int) := by unfold wrap64; omega
    simp only [spec_Indented.l0, hw]
    rw [if_pos (by omega), if_pos (by omega), bt_nat v i hi, e]
    obtain ⟨c, hc⟩ : ∃ c, c = (B v).getD i 0 := ⟨_, rfl⟩
    rw [← hc] at e ⊢
    by_cases h10 : c = 10
    · subst h10
      rw [if_pos (by rfl), line_f k (by omega) acc (by omega)]
      simp only [Option.bind_some]
      rw [if_pos (by omega)]
      have := ih k (i + 1) (done ++ [lined acc]) [] (by omega) (by omega) (by omega) (by simp) (by simp; omega)
      rw [show (⟨#[]⟩ : ByteArray) = ba [] from rfl, this]
      simp [split]
    · have hcn : ¬ ((c.toNat : Int) = 10) := by
        intro h
        apply h10
        have : c.toNat = 10 := by omega
        exact UInt8.toNat_inj.1 this
      have ex : v.extract ((i : Int)).toNat (((i + 1 : Nat) : Int)).toNat = ba [c] := by
        refine eq_of_B ?_
        show (v.extract _ _).data.toList = [c]
        rw [Lib.extract_data, show ((i : Int)).toNat = i by omega, show (((i + 1 : Nat) : Int)).toNat = i + 1 by omega, show v.data.toList.drop i = c :: (B v).drop (i + 1) from e]
        simp
      rw [if_neg hcn, if_pos (by omega), if_pos (by omega), ex, ba_size, ba_size, if_pos (by simp; omega), ba_append, ih k (i + 1) done (acc ++ [c]) (by omega) (by omega) (by omega) (by simp; omega) (by omega)]
      simp [split, h10]

theorem indented_f (v : ByteArray) (hv : v.size ≤ 65536) : spec_Indented.f (v.size + 7) v 2 = some ((split [] (B v)).map lined) := by
  have := indented_l0 v hv v.size (v.size + 7) 0 [] [] (by omega) (by omega) (by omega) (by simp) (by simp)
  exact this

/-! ### line feeds -/
theorem feeds_l0 (n : Nat) (hn : n ≤ 65536) (d : Nat) : ∀ (k i : Nat), i ≤ n → n - i = d → d < k →
    spec_scFeeds.l0 k (List.replicate i 10 ++ List.replicate (n - i) 0) (n : Int) (i : Int) = some (ba (List.replicate n 10)) := by
  induction d with
  | zero =>
    intro k i h1 h2 h3
    obtain ⟨k, rfl⟩ : ∃ m, k = m + 1 := ⟨k - 1, by omega⟩
    obtain rfl : i = n := by omega
    simp only [spec_scFeeds.l0]
    rw [if_neg (by omega), Nat.sub_self]
    have : (List.replicate i (10 : Int) ++ List.replicate 0 0) = ints (List.replicate i 10) := by simp [ints]
    rw [this, strOfNums_ints]
  | succ d ih =>
    intro k i h1 h2 h3
    obtain ⟨k, rfl⟩ : ∃ m, k = m + 1 := ⟨k - 1, by omega⟩
    simp only [spec_scFeeds.l0]
    have hl : (List.replicate i (10 : Int) ++ List.replicate (n - i) 0).length = n := by simp; omega
    rw [if_pos (by omega), if_pos (by omega), if_pos (by omega), show wrap64 ((i : Int) + 1) = ((i + 1 : Nat) : Int) by unfold wrap64; omega]
    have e : (List.replicate i (10 : Int) ++ List.replicate (n - i) 0).set ((i : Int)).toNat 10 = List.replicate (i + 1) 10 ++ List.replicate (n - (i + 1)) 0 := by
      rw [show ((i : Int)).toNat = i by omega, show n - i = (n - (i + 1)) + 1 by omega, List.replicate_succ, List.replicate_succ']
      rw [List.set_append_right _ _ (by simp)]
      simp
    rw [e]
    exact ih k (i + 1) (by omega) (by omega) (by omega)

theorem feeds_f (n : Nat) (hn : n ≤ 65536) (k : Nat) (hk : n < k) : spec_scFeeds.f k (n : Int) = some (ba (List.replicate n 10)) := by
  unfold spec_scFeeds.f
  have hm : mx (n : Int) 0 = (n : Int) := by unfold mx; split <;> omega
  rw [hm, if_pos (by omega), if_pos (by omega), show ((n : Int)).toNat = n by omega]
  simp only [Option.bind_some, List.length_replicate]
  have := feeds_l0 n hn n k 0 (by omega) (by omega) (by omega)
  simpa using this

/-! ### suffixes -/
theorem suffix_f (s p : ByteArray) (hs : s.size ≤ 65536) (hp : p.size ≤ s.size) : strings_HasSuffix.f s p = some ((B s).drop (s.size - p.size) == B p) := by
  unfold strings_HasSuffix.f stringslite_HasSuffix.f
  have hw : wrap64 ((s.size : Int) - (p.size : Int)) = ((s.size - p.size : Nat) : Int) := by unfold wrap64; omega
  rw [if_pos (by omega), hw, if_pos (by omega), if_pos (by omega)]
  simp only [Option.bind_some]
  rw [ByteArray.toList_eq, ByteArray.toList_eq, Lib.extract_data, show (((s.size - p.size : Nat) : Int)).toNat = s.size - p.size by omega]
  congr 1
  congr 1
  rw [List.take_of_length_le (by rw [List.length_drop]; show (B s).length - _ ≤ _; rw [B_length]; omega)]

theorem suffix_small (s p : ByteArray) (hp : s.size < p.size) : strings_HasSuffix.f s p = some false := by
  unfold strings_HasSuffix.f stringslite_HasSuffix.f
  rw [if_neg (by omega)]
  rfl

theorem suffix_any (s p : ByteArray) (hs : s.size ≤ 65536) : ∃ b : Bool, strings_HasSuffix.f s p = some b ∧ (b = true ↔ ∃ u, B s = u ++ B p) := by
  by_cases h : p.size ≤ s.size
  · refine ⟨_, suffix_f s p hs h, ?_⟩
    rw [beq_iff_eq]
    constructor
    · intro e
      refine ⟨(B s).take (s.size - p.size), ?_⟩
      rw [← e, List.take_append_drop]
    · rintro ⟨u, e⟩
      have hl : u.length = s.size - p.size := by
        have := congrArg List.length e
        rw [List.length_append, B_length, B_length] at this
        omega
      rw [e, ← hl, List.drop_left]
  · refine ⟨_, suffix_small s p (by omega), ?_⟩
    constructor
    · intro h; cases h
    · rintro ⟨u, e⟩
      have := congrArg List.length e
      rw [List.length_append, B_length, B_length] at this
      omega

/-! ### finding -/
theorem index_at (s sep : ByteArray) (hs : s.size ≤ 8796093022208) (hp : sep.size ≤ 8) (p : Nat) (hpl : p + sep.size ≤ s.size) (hh : hit s sep p) (hno : ∀ j, j < p → ¬ hit s sep j) (d : Nat) :
    ∀ (k i : Nat), i ≤ p → p - i = d → d < k → token_zzIndex.l0 k s sep (i : Int) = some (p : Int) := by
  induction d with
  | zero =>
    intro k i h0 h1 h2
    obtain ⟨k, rfl⟩ : ∃ m, k = m + 1 := ⟨k - 1, by omega⟩
    obtain rfl : i = p := by omega
    have hw : wrap64 ((i : Int) + (sep.size : Int)) = ((i + sep.size : Nat) : Int) := by unfold wrap64; omega
    simp only [token_zzIndex.l0, hw]
    rw [if_pos (by omega), if_pos (by omega), if_pos (by omega), if_pos ((round_hit s sep i).2 hh)]
  | succ d ih =>
    intro k i h0 h1 h2
    obtain ⟨k, rfl⟩ : ∃ m, k = m + 1 := ⟨k - 1, by omega⟩
    have hw : wrap64 ((i : Int) + (sep.size : Int)) = ((i + sep.size : Nat) : Int) := by unfold wrap64; omega
    simp only [token_zzIndex.l0, hw]
    rw [if_pos (by omega), if_pos (by omega), if_pos (by omega), if_neg (fun e => hno i (by omega) ((round_hit s sep i).1 e)), show wrap64 ((i : Int) + 1) = ((i + 1 : Nat) : Int) by unfold wrap64; omega]
    exact ih k (i + 1) (by omega) (by omega) (by omega)

theorem contains_f (s : ByteArray) (hs : s.size ≤ 65536) (h : (10 : UInt8) ∈ B s) : ∃ k, token_zzContains.f k s ⟨#[10]⟩ = some true := by
  obtain ⟨a, b, hab, hna⟩ := List.eq_append_cons_of_mem h
  have hsz : s.size = a.length + 1 + b.length := by rw [← B_length, hab, List.length_append, List.length_cons]; omega
  have hz : ((⟨#[10]⟩ : ByteArray).size) = 1 := rfl
  refine ⟨a.length + 1, ?_⟩
  unfold token_zzContains.f token_zzIndex.f
  have := index_at s ⟨#[10]⟩ (by omega) (by decide) a.length (by rw [hz]; omega) ?_ ?_ a.length (a.length + 1) 0 (by omega) (by omega) (by omega)
  · rw [show ((0 : Int)) = ((0 : Nat) : Int) from rfl, this]
    simp
  · unfold hit; rw [hab, hz]; simp
  · intro j hj e
    unfold hit at e
    rw [hab, hz, List.drop_append_of_le_length (by omega)] at e
    have hj2 : (a.drop j) ≠ [] := by simp; omega
    obtain ⟨c, r, hcr⟩ := List.exists_cons_of_ne_nil hj2
    rw [hcr] at e
    have ec : c = 10 := by simpa [B] using e
    exact hna (ec ▸ List.mem_of_mem_drop (hcr ▸ List.mem_cons_self))

/-! ### the indentation of lines behind two spaces -/
theorem leading_l0 (l : List Int) (hl : l.length ≤ 65536) (d : Nat) : ∀ (k i : Nat), i ≤ l.length → l.length - i = d → d < k → (∀ j, j < i → l.getD j 0 = 32) →
    ∃ t : Nat, spec_scLeading.l0 k l (i : Int) = some (t : Int) ∧ t ≤ l.length ∧ (∀ j, j < t → l.getD j 0 = 32) ∧ (t < l.length → l.getD t 0 ≠ 32) := by
  induction d with
  | zero =>
    intro k i h1 h2 h3 h4
    obtain ⟨k, rfl⟩ : ∃ m, k = m + 1 := ⟨k - 1, by omega⟩
    refine ⟨i, ?_, h1, h4, fun h => by omega⟩
    simp only [spec_scLeading.l0]
    rw [if_neg (by omega)]
  | succ d ih =>
    intro k i h1 h2 h3 h4
    obtain ⟨k, rfl⟩ : ∃ m, k = m + 1 := ⟨k - 1, by omega⟩
    simp only [spec_scLeading.l0]
    have hr : rd l (i : Int) = l.getD i 0 := by simp [rd]
    rw [if_pos (by omega), if_pos (by omega), hr]
    by_cases h : l.getD i 0 = 32
    · rw [if_pos h, show wrap64 ((i : Int) + 1) = ((i + 1 : Nat) : Int) by unfold wrap64; omega]
      exact ih k (i + 1) (by omega) (by omega) (by omega) (fun j hj => by
        rcases Nat.lt_or_ge j i with h' | h'
        · exact h4 j h'
        · obtain rfl : j = i := by omega
          exact h)
    · rw [if_neg h]
      exact ⟨i, rfl, h1, h4, fun _ => h⟩

theorem leading_f (l : List Int) (hl : l.length ≤ 65536) (k : Nat) (hk : l.length < k) :
    ∃ t : Nat, spec_scLeading.f k l = some (t : Int) ∧ t ≤ l.length ∧ (∀ j, j < t → l.getD j 0 = 32) ∧ (t < l.length → l.getD t 0 ≠ 32) :=
  leading_l0 l hl l.length k 0 (by omega) (by omega) (by omega) (fun j hj => by omega)

def rlined (l : List Int) : List Int := if l = [] then [] else 32 :: 32 :: l

theorem rd_map (xs : List (List Int)) (i : Nat) (hi : i < xs.length) : rd_L1 (xs.map rlined) (i : Int) = rlined (xs[i]) := by
  unfold rd_L1
  simp [List.getD, hi]

/-- A line behind the first: it is skipped, or is indented enough. -/
theorem indent_tail (xs : List (List Int)) (hx : xs.length ≤ 65536) (hxl : ∀ l ∈ xs, l.length ≤ 65534) (hlast : ∀ k, 65540 < k → spec_scIndent.l1 k 0 2 (xs.map rlined) ((xs.map rlined).length : Int) 0 = some (2, true)) (d : Nat) :
    ∀ (k i : Nat), i ≤ xs.length → xs.length - i = d → d + 65541 < k → spec_scIndent.l0 k (xs.map rlined) 0 0 2 (xs.map rlined) ((xs.map rlined).length : Int) (i : Int) = some (2, true) := by
  induction d with
  | zero =>
    intro k i h1 h2 h3
    obtain ⟨k, rfl⟩ : ∃ m, k = m + 1 := ⟨k - 1, by omega⟩
    simp only [spec_scIndent.l0]
    rw [if_neg (by simp; omega), if_neg (by decide +kernel), hlast k (by omega)]
  | succ d ih =>
    intro k i h1 h2 h3
    obtain ⟨k, rfl⟩ : ∃ m, k = m + 1 := ⟨k - 1, by omega⟩
    have hi : i < xs.length := by omega
    have hl := hxl xs[i] (List.getElem_mem hi)
    have hl2 : (rlined xs[i]).length ≤ 65536 := by unfold rlined; split <;> simp; omega
    obtain ⟨t, ht, ht1, ht2, ht3⟩ := leading_f (rlined xs[i]) hl2 k (by omega)
    have r := ih k (i + 1) (by omega) (by omega) (by omega)
    simp only [spec_scIndent.l0]
    rw [if_pos (by simp; omega), if_pos (by omega), if_pos (by simp; omega), rd_map xs i hi, ht]
    simp only [Option.bind_some]
    rw [show wrap64 ((i : Int) + 1) = ((i + 1 : Nat) : Int) by unfold wrap64; omega]
    by_cases he : (t : Int) = ((rlined xs[i]).length : Int)
    · rw [if_pos he]; exact r
    · rw [if_neg he, if_neg (by omega)]
      have h2t : 2 ≤ t := by
        rcases Nat.lt_or_ge t 2 with h | h
        · exfalso
          have hne : xs[i] ≠ [] := by
            intro e
            rw [e] at he ht1
            simp [rlined] at he ht1
            omega
          have := ht3 (by omega)
          unfold rlined at this
          rw [if_neg hne] at this
          rcases (by omega : t = 0 ∨ t = 1) with rfl | rfl <;> simp [List.getD] at this
        · exact h
      rw [if_neg (by omega)]
      exact r

theorem indent_f (k : Nat) (hk : 200000 ≤ k) (r : Int) (t : List Int) (xs : List (List Int)) (h32 : r ≠ 32) (h9 : r ≠ 9) (ht : t.length ≤ 65533) (hx : xs.length ≤ 65535) (hxl : ∀ l ∈ xs, l.length ≤ 65534) :
    spec_scIndent.f k (((r :: t) :: xs).map rlined) 0 0 = some (2, true) := by
  have hl2 : (rlined (r :: t)).length ≤ 65536 := by simp [rlined]; omega
  have hlead : ∀ k, 65536 < k → spec_scLeading.f k (rlined (r :: t)) = some 2 := by
    intro k hk
    obtain ⟨n, hn, h1, h2, h3⟩ := leading_f (rlined (r :: t)) hl2 k (by omega)
    rw [hn]
    have a : 2 ≤ n := by
      rcases Nat.lt_or_ge n 2 with h | h
      · exfalso
        have := h3 (by simp [rlined]; omega)
        rcases (by omega : n = 0 ∨ n = 1) with rfl | rfl <;> simp [rlined, List.getD] at this
      · exact h
    have b : n ≤ 2 := by
      rcases Nat.lt_or_ge 2 n with h | h
      · have := h2 2 h
        simp [rlined, List.getD] at this
        exact absurd this h32
      · exact h
    obtain rfl : n = 2 := by omega
    rfl
  have hlast : ∀ k, 65540 < k → spec_scIndent.l1 k 0 2 (((r :: t) :: xs).map rlined) ((((r :: t) :: xs).map rlined).length : Int) 0 = some (2, true) := by
    intro k hk
    obtain ⟨k, rfl⟩ : ∃ m, k = m + 1 := ⟨k - 1, by omega⟩
    simp only [spec_scIndent.l1]
    have e : rd_L1 (((r :: t) :: xs).map rlined) 0 = rlined (r :: t) := rfl
    rw [if_pos (by simp), if_pos (by omega), if_pos (by simp), e, hlead k (by omega)]
    simp only [Option.bind_some]
    rw [if_pos (by simp [rlined]; omega)]
  unfold spec_scIndent.f
  rw [if_neg (by omega)]
  obtain ⟨k, rfl⟩ : ∃ m, k = m + 1 + 1 := ⟨k - 2, by omega⟩
  simp only [spec_scIndent.j0, spec_scIndent.l0]
  have e : rd_L1 (((r :: t) :: xs).map rlined) 0 = rlined (r :: t) := rfl
  rw [if_pos (by simp), if_pos (by omega), if_pos (by simp), e, hlead _ (by omega)]
  simp only [Option.bind_some]
  have e2 : rd (rlined (r :: t)) 2 = r := rfl
  rw [if_neg (by simp [rlined]; omega), if_pos trivial, if_pos (by omega), if_pos (by simp [rlined]; omega), e2, if_neg h9]
  rw [show (decide ((2 : Int) < mx (wrap64 (0 + 1)) 1)) = false by decide +kernel]
  obtain ⟨k, rfl⟩ : ∃ m, k = m + 1 := ⟨k - 1, by omega⟩
  simp only [spec_scIndent.j2]
  rw [if_neg (by simp), if_neg (by omega)]
  have := indent_tail ((r :: t) :: xs) (by simp; omega) (fun l hl => by
    rcases List.mem_cons.1 hl with rfl | hl
    · simp; omega
    · exact hxl l hl) hlast xs.length k 1 (by simp) (by simp) (by omega)
  rw [show wrap64 (0 + 1) = ((1 : Nat) : Int) by decide +kernel]
  exact this
end Go.Proofs.YtmildhkegpmacaaDoor.HeadPure
