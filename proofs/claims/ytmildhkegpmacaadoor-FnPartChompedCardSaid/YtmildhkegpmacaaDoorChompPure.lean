/- Plain facts for FnPartChomped: what the printed helpers come to at a text with line feeds at its end; and the two small readers of the chomping sign. -/
import Derived.Test.YtmildhkegpmacaaDoorChompWalks
import Derived.Test.YtmildhkegpmacaaDoorPFnPartChompedx2
import Derived.Laws.Cover4
namespace Go.Proofs.YtmildhkegpmacaaDoor.ChompPure
open Go.RowKit Go.Proofs.YtmildhkegpmacaaDoorW.PrintWords Go.Proofs.YtmildhkegpmacaaDoor.Utf Go.Proofs.YtmildhkegpmacaaDoor.ChompWalks Go.Proofs.YtmildhkegpmacaaDoor.PFnPartChomped
open Go.Proofs.YtmildhkegpmacaaDoor.Runes (Reads reads_new runes_size)
open Go.Proofs.YtmildhkegpmacaaDoor.QuotePure (encode_eq)
open Go.Proofs.YtmildhkegpmacaaDoor.HeadPure (ba_append bt_nat)
set_option linter.unusedVariables false
set_option linter.unusedSimpArgs false

theorem has_f (c : UInt8) : spec_Has.f 8 (ba [c]) ⟨#[32, 9, 10]⟩ = some (decide (c = 32 ∨ c = 9 ∨ c = 10)) := by
  have h : ∀ n, n < 256 → spec_Has.f 8 (ba [UInt8.ofNat n]) ⟨#[32, 9, 10]⟩ = some (decide (UInt8.ofNat n = 32 ∨ UInt8.ofNat n = 9 ∨ UInt8.ofNat n = 10)) := by decide +kernel
  have := h c.toNat c.toNat_lt
  simpa using this

/-- A text and line feeds behind it. -/
def E (l : List UInt8) (m : Nat) : ByteArray := ba (l ++ List.replicate m 10)
theorem E_size (l : List UInt8) (m : Nat) : (E l m).size = l.length + m := by unfold E; rw [ba_size]; simp
theorem enc_feeds (m : Nat) : enc (List.replicate m 10) = List.replicate m 10 := by
  induction m with
  | zero => rfl
  | succ n ih => rw [List.replicate_succ, enc_cons, ih, encodeRune_ascii 10 (by omega) (by omega)]; rfl
theorem enc_E (rs : List Int) (m : Nat) : enc (rs ++ List.replicate m 10) = enc rs ++ List.replicate m 10 := by rw [enc_append, enc_feeds]

theorem trim_l0 (l : List UInt8) (c : UInt8) (m : Nat) (hl : l.length ≤ 65536) (hm : m ≤ 65536) (hne : l ≠ []) (hlast : l.getLast? ≠ some c) : ∀ (j k : Nat), j ≤ m → 3 * j + 3 < k →
    scanner_zzTrimRight.l0 k (ba (l ++ List.replicate m c)) (ba [c]) ((l.length + j : Nat) : Int) = some (ba l) := by
  intro j
  have hpos : 0 < l.length := by
    cases l with
    | nil => exact absurd rfl hne
    | cons a b => simp
  have hsz : (ba (l ++ List.replicate m c)).size = l.length + m := by rw [ba_size]; simp
  have hb1 : bt (ba [c]) 0 = (c.toNat : Int) := by
    exact bt_nat (ba [c]) 0 (by rw [ba_size]; simp)
  have hone : ((ba [c]).size : Int) = 1 := by rw [ba_size]; rfl
  have hw1 : wrap64 (0 + 1) = 1 := by decide +kernel
  induction j with
  | zero =>
    intro k h1 h2
    obtain ⟨k, rfl⟩ : ∃ q, k = q + 1 + 1 + 1 := ⟨k - 3, by omega⟩
    have hw : wrap64 (((l.length + 0 : Nat) : Int) - 1) = ((l.length - 1 : Nat) : Int) := by unfold wrap64; omega
    have hb : bt (ba (l ++ List.replicate m c)) ((l.length - 1 : Nat) : Int) ≠ (c.toNat : Int) := by
      rw [bt_nat _ _ (by omega), B_ba]
      intro h
      apply hlast
      have : (l ++ List.replicate m c).getD (l.length - 1) 0 = l[l.length - 1]'(by omega) := by
        rw [List.getD_eq_getElem?_getD, List.getElem?_append_left (show l.length - 1 < l.length by omega), List.getElem?_eq_getElem (show l.length - 1 < l.length by omega)]; rfl
      rw [this] at h
      have hc : l[l.length - 1]'(by omega) = c := UInt8.toNat_inj.1 (by omega)
      rw [List.getLast?_eq_getElem?, List.getElem?_eq_getElem (by omega), hc]
    simp only [scanner_zzTrimRight.l0, scanner_zzTrimRight.l1, hw, hone, hw1]
    rw [if_pos (by omega), if_pos (by omega), if_pos (by omega), if_pos (by omega), if_pos (by rw [hsz]; omega), hb1, if_neg (fun e => hb e.symm), if_neg (by omega), if_neg (by simp), if_pos (by omega), if_pos (by rw [hsz]; omega)]
    congr 1
    refine eq_of_B ?_
    show ((ba (l ++ List.replicate m c)).extract 0 _).data.toList = l
    rw [Lib.extract_data]
    simp [ba]
  | succ j ih =>
    intro k h1 h2
    obtain ⟨k, rfl⟩ : ∃ q, k = q + 1 + 1 + 1 := ⟨k - 3, by omega⟩
    have hw : wrap64 (((l.length + (j + 1) : Nat) : Int) - 1) = ((l.length + j : Nat) : Int) := by unfold wrap64; omega
    have hb : bt (ba (l ++ List.replicate m c)) ((l.length + j : Nat) : Int) = (c.toNat : Int) := by
      rw [bt_nat _ _ (by omega), B_ba]
      have : (l ++ List.replicate m c).getD (l.length + j) 0 = c := by
        simp [List.getD, List.getElem?_append_right (show l.length ≤ l.length + j by omega), List.getElem?_replicate, show j < m by omega]
      rw [this]
    have r := ih k (by omega) (by omega)
    simp only [scanner_zzTrimRight.l0, scanner_zzTrimRight.l1, hw, hone, hw1]
    rw [if_pos (by omega), if_pos (by omega), if_pos (by omega), if_pos (by omega), if_pos (by rw [hsz]; omega), hb1, if_pos hb.symm, if_neg (by omega), if_pos (by trivial)]
    exact r

theorem trim_f (l : List UInt8) (c : UInt8) (m : Nat) (hl : l.length ≤ 65536) (hm : m ≤ 65536) (hne : l ≠ []) (hlast : l.getLast? ≠ some c) (k : Nat) (hk : 3 * m + 3 < k) :
    scanner_zzTrimRight.f k (ba (l ++ List.replicate m c)) (ba [c]) = some (ba l) := by
  unfold scanner_zzTrimRight.f
  have := trim_l0 l c m hl hm hne hlast m k (Nat.le_refl _) hk
  rw [ba_size, List.length_append, List.length_replicate]
  exact this

theorem trimSuffix_f (l : List UInt8) (m : Nat) (hl : l.length ≤ 65536) (hm : m ≤ 65536) : strings_TrimSuffix.f (E l (m + 1)) ⟨#[10]⟩ = some (E l m) := by
  unfold strings_TrimSuffix.f stringslite_TrimSuffix.f stringslite_HasSuffix.f
  have hone : ((⟨#[10]⟩ : ByteArray).size : Int) = 1 := rfl
  have hsz : ((E l (m + 1)).size : Int) = ((l.length + m + 1 : Nat) : Int) := by rw [E_size]; omega
  have hw : wrap64 (((l.length + m + 1 : Nat) : Int) - 1) = ((l.length + m : Nat) : Int) := by unfold wrap64; omega
  rw [hone, hsz, hw]
  rw [if_pos (by omega), if_pos (by omega), if_pos (by omega)]
  have e1 : (E l (m + 1)).extract ((l.length + m : Nat) : Int).toNat (E l (m + 1)).size = ba [10] := by
    refine eq_of_B ?_
    show ((E l (m + 1)).extract _ _).data.toList = [10]
    rw [Lib.extract_data, E_size]
    have : (E l (m + 1)).data.toList = (l ++ List.replicate m 10) ++ [10] := by simp [E, ba, List.replicate_succ']
    rw [this, show (((l.length + m : Nat) : Int)).toNat = (l ++ List.replicate m (10 : UInt8)).length by simp only [List.length_append, List.length_replicate]; omega, List.drop_left, show l.length + (m + 1) - (l ++ List.replicate m (10 : UInt8)).length = 1 by simp; omega]
    rfl
  rw [e1]
  have e2 : ((ba [10]).toList == (⟨#[10]⟩ : ByteArray).toList) = true := by decide +kernel
  rw [e2]
  simp only [Option.bind_some]
  rw [if_pos trivial, if_pos (by omega), if_pos (by omega)]
  simp only [Option.bind_some]
  congr 1
  refine eq_of_B ?_
  show ((E l (m + 1)).extract 0 _).data.toList = l ++ List.replicate m 10
  rw [Lib.extract_data]
  have : (E l (m + 1)).data.toList = (l ++ List.replicate m 10) ++ [10] := by simp [E, ba, List.replicate_succ']
  rw [this, List.drop_zero, show (((l.length + m : Nat) : Int)).toNat - 0 = (l ++ List.replicate m (10 : UInt8)).length by simp only [List.length_append, List.length_replicate]; omega, List.take_left]

/-! ### conversions -/
theorem runesBytes_enc (rs : List Int) (h : ∀ r ∈ rs, Scalar r) : runesBytes rs = ba (enc rs) := by
  have : ∀ (rs : List Int) (s : List UInt8), (∀ r ∈ rs, Scalar r) → rs.foldl (fun r n => r ++ Utf8.encode n) (ba s) = ba (s ++ enc rs) := by
    intro rs
    induction rs with
    | nil => intro s _; simp [enc_nil]
    | cons r t ih =>
      intro s h
      simp only [List.foldl_cons]
      rw [encode_eq r (h r (by simp)), ba_append, ih _ (fun x hx => h x (by simp [hx])), enc_cons]
      simp
  exact this rs [] h

theorem to_str (W : World) (g : Nat) (L : List Int) (n cap : Nat) (hn : n = L.length) (hR : Reads W g L) (hsc : ∀ r ∈ L, Scalar r) :
    (convert 57 9 (.slice (some ⟨g, 0, none⟩) n cap)).run Tryd.prog W = .ok (.string (ba (enc L))) W := by
  subst hn
  have h := run_convert_runes (P := Tryd.prog) W 57 9 21 ⟨g, 0, none⟩ L.length cap L (Nat.le_refl _) Tryd.underlying57 Tryd.underlying21 Tryd.underlying9 (fun j hj => by
    have : Addr.add ⟨g, 0, none⟩ j = ⟨g, j, none⟩ := Runes.addr_add g j
    rw [this]; exact hR j hj)
  rw [List.take_length, runesBytes_enc _ hsc] at h
  exact h

theorem to_runes (s : ByteArray) (L : List Int) (n : Nat) (hn : n = L.length) (hs : s.size ≤ 65536) (hsc : ∀ r ∈ L, Scalar r) (he : B s = enc L) (W : World) :
    (convert 9 57 (.string s)).run Tryd.prog W = .ok (.slice (some ⟨W.heap.size, 0, none⟩) n (grownCap W n 0 21)) (W.drew.alloc (.cells (Conv.runesFrom s s.size 0 #[] ++ Array.replicate (grownCap W n 0 21 - n) (.int .i32 0)) 21)) := by
  subst hn
  have hru := runes_of s L hsc he
  have hrc := run_runes_of_string (P := Tryd.prog) W 9 57 21 s Tryd.underlying9 Tryd.underlying57 Tryd.underlying21 (by rw [runes_size, hru]; have := runes_length s s.size 0; rw [hru] at this; omega)
  rw [runes_size, hru] at hrc
  exact hrc

theorem new_reads (s : ByteArray) (L : List Int) (hsc : ∀ r ∈ L, Scalar r) (he : B s = enc L) (W : World) (C : Array Value) : Reads (W.alloc (.cells (Conv.runesFrom s s.size 0 #[] ++ C) 21)).drew W.heap.size L :=
  reads_new s W L (runes_of s L hsc he) C 21

/-! ### the sign -/
/-- A scalar's state in memory, with a sign. -/
def Sign (w : World) (g : Nat) (o : ByteArray) (x y : Bool) : Prop :=
  w.heap[g]? = some (.cells #[.string o, .int .i64 0, .int .i64 0, .int .i64 0, .int .i64 0, .int .i64 0, .bool false, .bool false, .bool x, .bool y] 100 (0, 0))

set_option maxHeartbeats 1000000 in
set_option maxRecDepth 100000 in
theorem trims_any (g : Nat) (o : ByteArray) (x y p1 p2 : Bool) (h1 : strings_HasPrefix.f o ⟨#[45]⟩ = some p1) (h2 : strings_HasSuffix.f o ⟨#[45]⟩ = some p2) (w : World) (h : Sign w g o x y) :
    Calls Tryd.prog 99 #[.pointer (some ⟨g, 0, none⟩)] w fun e w' => e = .returned (.bool (p1 || p2)) ∧ Drawn0 w w' := by
  have x0 := blk_cell h 0
  have x7 := blk_cell h 7
  simp only [List.getElem?_toArray, List.getElem?_cons_succ, List.getElem?_cons_zero] at x0 x7
  have H1 := Aside0.mk h1
  have H2 := Aside0.mk h2
  clear h h1 h2
  go_enter Tryd.func99, Tryd.ntmps99
  go_wp2_with fail
  refine (strings_HasPrefix.calls _ _ _ _ H1.out).mono ?_
  rintro e w1 ⟨rfl, ⟨m1, rfl⟩⟩
  cases p1 with
  | true =>
    go_wp2_with fail
    go_ret
    exact ⟨rfl, by repeat (first | exact Drawn0.refl _ | apply Drawn0.step)⟩
  | false =>
    go_wp2_with fail
    refine (strings_HasSuffix.calls _ _ _ _ H2.out).mono ?_
    rintro e w1 ⟨rfl, ⟨m2, rfl⟩⟩
    cases p2 with
    | true =>
      go_wp2_with fail
      go_ret
      exact ⟨rfl, by repeat (first | exact Drawn0.refl _ | apply Drawn0.step)⟩
    | false =>
      go_wp2_with fail
      go_ret
      exact ⟨rfl, by repeat (first | exact Drawn0.refl _ | apply Drawn0.step)⟩

set_option maxHeartbeats 1000000 in
set_option maxRecDepth 100000 in
theorem keeps_any (g : Nat) (o : ByteArray) (x y p1 p2 : Bool) (h1 : strings_HasPrefix.f o ⟨#[43]⟩ = some p1) (h2 : strings_HasSuffix.f o ⟨#[43]⟩ = some p2) (w : World) (h : Sign w g o x y) :
    Calls Tryd.prog 101 #[.pointer (some ⟨g, 0, none⟩)] w fun e w' => e = .returned (.bool (p1 || p2)) ∧ Drawn0 w w' := by
  have x0 := blk_cell h 0
  simp only [List.getElem?_toArray, List.getElem?_cons_succ, List.getElem?_cons_zero] at x0
  have H1 := Aside0.mk h1
  have H2 := Aside0.mk h2
  clear h h1 h2
  go_enter Tryd.func101, Tryd.ntmps101
  go_wp2_with fail
  refine (strings_HasPrefix.calls _ _ _ _ H1.out).mono ?_
  rintro e w1 ⟨rfl, ⟨m1, rfl⟩⟩
  cases p1 with
  | true =>
    go_wp2_with fail
    go_ret
    exact ⟨rfl, by repeat (first | exact Drawn0.refl _ | apply Drawn0.step)⟩
  | false =>
    go_wp2_with fail
    refine (strings_HasSuffix.calls _ _ _ _ H2.out).mono ?_
    rintro e w1 ⟨rfl, ⟨m2, rfl⟩⟩
    cases p2 with
    | true =>
      go_wp2_with fail
      go_ret
      exact ⟨rfl, by repeat (first | exact Drawn0.refl _ | apply Drawn0.step)⟩
    | false =>
      go_wp2_with fail
      go_ret
      exact ⟨rfl, by repeat (first | exact Drawn0.refl _ | apply Drawn0.step)⟩

set_option maxRecDepth 100000 in
theorem multi_any (g m : Nat) (idx size nsp nsop : Int) (src buf obuf tokens : Value) (w : World) (h : Ctx w g idx size nsp nsop src buf obuf tokens (.pointer (some ⟨m, 0, none⟩))) :
    Calls Tryd.prog 97 #[.pointer (some ⟨g, 0, none⟩)] w fun e w' => e = .returned (.bool true) ∧ Drawn0 w w' := by
  have x8 := blk_cell h 8
  simp only [List.getElem?_toArray, List.getElem?_cons_succ, List.getElem?_cons_zero] at x8
  clear h
  go_enter Tryd.func97, Tryd.ntmps97
  go_wp2_with fail
  go_ret
  exact ⟨rfl, by repeat (first | exact Drawn0.refl _ | apply Drawn0.step)⟩

set_option maxRecDepth 100000 in
theorem state_any (g m : Nat) (idx size nsp nsop : Int) (src buf obuf tokens : Value) (w : World) (h : Ctx w g idx size nsp nsop src buf obuf tokens (.pointer (some ⟨m, 0, none⟩))) :
    Calls Tryd.prog 98 #[.pointer (some ⟨g, 0, none⟩)] w fun e w' => e = .returned (.pointer (some ⟨m, 0, none⟩)) ∧ Drawn0 w w' := by
  have x8 := blk_cell h 8
  simp only [List.getElem?_toArray, List.getElem?_cons_succ, List.getElem?_cons_zero] at x8
  clear h
  go_enter Tryd.func98, Tryd.ntmps98
  go_wp2_with fail
  go_ret
  exact ⟨rfl, by repeat (first | exact Drawn0.refl _ | apply Drawn0.step)⟩
end Go.Proofs.YtmildhkegpmacaaDoor.ChompPure
