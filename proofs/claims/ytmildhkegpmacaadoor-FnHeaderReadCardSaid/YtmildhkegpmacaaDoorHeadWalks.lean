/- The walks of FnHeaderWritten: zzCount, DetectLineBreakCharacter, LiteralBlockHeader, BlockHeader, ReadHeader at the three headers; scRunes, with the row its own. -/
import Derived.Test.YtmildhkegpmacaaDoorHeadPure
namespace Go.Proofs.YtmildhkegpmacaaDoor.HeadWalks
open Go.RowKit Go.Proofs.YtmildhkegpmacaaDoorW.PrintWords Go.Proofs.YtmildhkegpmacaaDoor.Utf Go.Proofs.YtmildhkegpmacaaDoor.HeadPure
open Go.Proofs.YtmildhkegpmacaaDoor.Runes (Tabs tabs_below Reads scRunes_ok all all_f runes_size addr_add mayStand)
open Go.Proofs.YtmildhkegpmacaaDoor.QuoteFind (hit round_hit)
set_option linter.unusedVariables false
set_option linter.unusedSimpArgs false

/-- What a count says: no hit, nothing counted; a hit of a text of one byte is counted. -/
def Says (s sep : ByteArray) (k : Nat) (m : Nat) : Prop := m ≤ k ∧ ((∀ j, j + sep.size ≤ s.size → ¬ hit s sep j) → m = 0) ∧ (sep.size = 1 → (∃ j, j < k ∧ j + sep.size ≤ s.size ∧ hit s sep j) → 1 ≤ m)

theorem Says.zero (s sep : ByteArray) : Says s sep 0 0 := ⟨by omega, fun _ => rfl, fun _ ⟨j, h, _⟩ => by omega⟩
theorem Says.hit_ {s sep : ByteArray} {k m : Nat} (h : Says s sep k m) (hp : 1 ≤ sep.size) (hl : k + sep.size ≤ s.size) (hh : hit s sep k) : Says s sep (k + sep.size) (m + 1) :=
  ⟨by have := h.1; omega, fun hn => absurd hh (hn k hl), fun _ _ => by omega⟩
theorem Says.miss {s sep : ByteArray} {k m : Nat} (h : Says s sep k m) (hh : ¬ hit s sep k) : Says s sep (k + 1) m :=
  ⟨by have := h.1; omega, h.2.1, fun h1 ⟨j, hj, hl, hj2⟩ => h.2.2 h1 ⟨j, by
    rcases Nat.lt_or_ge j k with h' | h'
    · exact h'
    · obtain rfl : j = k := by omega
      exact absurd hj2 hh, hl, hj2⟩⟩

set_option maxHeartbeats 1000000 in
set_option maxRecDepth 100000 in
theorem count_any (s sep : ByteArray) (w : World) (hs : s.size ≤ 65536) (hp : 1 ≤ sep.size) (hp2 : sep.size ≤ 8) :
    Calls Tryd.prog 89 #[.string s, .string sep] w fun e w' => ∃ k m : Nat, s.size < k + sep.size ∧ k ≤ s.size ∧ Says s sep k m ∧ e = .returned (.int .i64 m) ∧ w = w' := by
  have h0 : ((sep.size : Int) == 0) = false := by
    have : (sep.size : Int) ≠ 0 := by omega
    simpa using this
  go_enter Tryd.func89, Tryd.ntmps89
  go_wp2_with fail
  go_loopw [5, 6] (fun c i wr => ∃ k m : Nat, k ≤ s.size ∧ i = .int .i64 k ∧ c = .int .i64 m ∧ Aside0 (Says s sep k m) ∧ Aside0 (wr = w)) (fun _ i _ => s.size - (intOf i).toNat)
  case atStart => exact ⟨0, 0, by omega, rfl, rfl, ⟨Says.zero s sep⟩, ⟨rfl⟩⟩
  case round =>
    obtain ⟨k, m, hk, rfl, rfl, hS, ⟨rfl⟩⟩ := hrel
    have hmk := hS.out.1
    by_cases hlt : k + sep.size ≤ s.size
    · have RH := Aside0.mk (round_hit s sep k)
      have HH := Aside0.mk fun h => hS.out.hit_ hp hlt h
      have HM := Aside0.mk fun h => hS.out.miss (k := k) h
      clear hS
      by_cases hh : hit s sep k
      · have hb : ((s.extract k (k + sep.size)).toList == sep.toList) = true := beq_iff_eq.mpr (by have := RH.out.2 hh; rwa [show ((k : Int)).toNat = k by omega, show (((k + sep.size : Nat) : Int)).toNat = k + sep.size by omega] at this)
        have HN := Aside0.mk (HH.out hh)
        clear hh HM HH RH
        go_wp2_with fail
        go_roundw
        case rel => exact ⟨k + sep.size, m + 1, by omega, by go_num, by go_num, HN, ⟨by trivial⟩⟩
        case measure => simp [intOf]; omega
      · have hb : ((s.extract k (k + sep.size)).toList == sep.toList) = false := beq_eq_false_iff_ne.mpr (fun h => hh (RH.out.1 (by rwa [show ((k : Int)).toNat = k by omega, show (((k + sep.size : Nat) : Int)).toNat = k + sep.size by omega])))
        have HN := Aside0.mk (HM.out hh)
        clear hh HM HH RH
        go_wp2_with fail
        go_roundw
        case rel => exact ⟨k + 1, m, by omega, by go_num, by go_num, HN, ⟨by trivial⟩⟩
        case measure => simp [intOf]; omega
    · go_wp2_with fail
      go_ret
      exact ⟨k, m, by omega, hk, hS.out, rfl, rfl⟩

theorem hit_head {s sep : ByteArray} {c : UInt8} {t : List UInt8} (hsep : B sep = c :: t) (j : Nat) (h : hit s sep j) : c ∈ B s := by
  unfold hit at h
  rw [hsep] at h
  have : c ∈ ((B s).drop j).take sep.size := by rw [h]; exact List.mem_cons_self
  exact List.mem_of_mem_drop (List.mem_of_mem_take this)

theorem hit_of_mem {s : ByteArray} (h : (10 : UInt8) ∈ B s) : ∃ j, j < s.size ∧ j + (⟨#[10]⟩ : ByteArray).size ≤ s.size ∧ hit s ⟨#[10]⟩ j := by
  obtain ⟨a, b, hab⟩ := List.append_of_mem h
  have hsz : s.size = a.length + 1 + b.length := by rw [← B_length, hab, List.length_append, List.length_cons]; omega
  have hz : ((⟨#[10]⟩ : ByteArray).size) = 1 := rfl
  refine ⟨a.length, by omega, by rw [hz]; omega, ?_⟩
  unfold hit; rw [hab, hz]; simp

set_option maxHeartbeats 1000000 in
set_option maxRecDepth 100000 in
theorem detect_any (s : ByteArray) (w : World) (hs : s.size ≤ 65536) (h10 : (10 : UInt8) ∈ B s) (h13 : (13 : UInt8) ∉ B s) :
    Calls Tryd.prog 57 #[.string s] w fun e w' => e = .returned (.string ⟨#[10]⟩) ∧ w = w' := by
  have C1 := Aside0.mk fun wx => count_any s ⟨#[10]⟩ wx hs (by decide) (by decide)
  have C2 := Aside0.mk fun wx => count_any s ⟨#[13]⟩ wx hs (by decide) (by decide)
  have C3 := Aside0.mk fun wx => count_any s ⟨#[13, 10]⟩ wx hs (by decide) (by decide)
  have N2 := Aside0.mk (show ∀ j, j + (⟨#[13]⟩ : ByteArray).size ≤ s.size → ¬ hit s ⟨#[13]⟩ j from fun j _ h => h13 (hit_head (c := 13) (t := []) rfl j h))
  have N3 := Aside0.mk (show ∀ j, j + (⟨#[13, 10]⟩ : ByteArray).size ≤ s.size → ¬ hit s ⟨#[13, 10]⟩ j from fun j _ h => h13 (hit_head (c := 13) (t := [10]) rfl j h))
  have N1 := Aside0.mk (hit_of_mem h10)
  clear h10 h13
  go_enter Tryd.func57, Tryd.ntmps57
  go_wp2_with fail
  refine (C1.out _).mono ?_
  rintro e w1 ⟨k1, m1, hk, hk', hS, rfl, rfl⟩
  have hm1 : 1 ≤ m1 := by
    obtain ⟨j, a, b, c⟩ := N1.out
    have hz : ((⟨#[10]⟩ : ByteArray).size) = 1 := rfl
    rw [hz] at hk b
    exact hS.2.2 rfl ⟨j, by omega, by rw [hz]; omega, c⟩
  have hm1b := hS.1
  clear hS hk
  go_wp2_with fail
  refine (C2.out _).mono ?_
  rintro e w2 ⟨k2, m2, _, _, hS, rfl, rfl⟩
  obtain rfl : m2 = 0 := hS.2.1 N2.out
  clear hS
  go_wp2_with fail
  refine (C3.out _).mono ?_
  rintro e w3 ⟨k3, m3, _, _, hS, rfl, rfl⟩
  obtain rfl : m3 = 0 := hS.2.1 N3.out
  clear hS
  have hne : ((m1 : Int) == 0) = false := by
    have : (m1 : Int) ≠ 0 := by omega
    simpa using this
  go_wp2_with fail
  go_ret
  exact ⟨rfl, rfl⟩

/-- The header of a value. -/
def header (b2 b1 : Bool) : ByteArray := if b2 then ⟨#[124, 43]⟩ else if b1 then ⟨#[124]⟩ else ⟨#[124, 45]⟩

set_option maxHeartbeats 1000000 in
set_option maxRecDepth 100000 in
theorem literal_any (s : ByteArray) (w : World) (hs : s.size ≤ 65536) (h10 : (10 : UInt8) ∈ B s) (h13 : (13 : UInt8) ∉ B s) (b2 b1 : Bool)
    (hb2 : PFnHeaderWritten.strings_HasSuffix.f s ⟨#[10, 10]⟩ = some b2) (hb1 : PFnHeaderWritten.strings_HasSuffix.f s ⟨#[10]⟩ = some b1) :
    Calls Tryd.prog 37 #[.string s] w fun e w' => e = .returned (.string (header b2 b1)) ∧ Below w.heap.size w w' := by
  have C1 := Aside0.mk fun wx => detect_any s wx hs h10 h13
  have CC := Aside0.mk (contains_f s hs h10)
  have H2 := Aside0.mk hb2
  have H1 := Aside0.mk hb1
  clear h10 h13 hb2 hb1
  have hcat : (⟨#[10]⟩ : ByteArray) ++ (⟨#[10]⟩ : ByteArray) = ⟨#[10, 10]⟩ := rfl
  go_enter Tryd.func37, Tryd.ntmps37
  go_wp2_with fail
  refine (C1.out _).mono ?_
  rintro e w1 ⟨rfl, rfl⟩
  go_wp2_with fail
  obtain ⟨kc, hc⟩ := CC.out
  refine (PFnHeaderWritten.token_zzContains.calls kc _ _ _ _ hc).mono ?_
  clear hc
  rintro e w2 ⟨rfl, b2'⟩
  have B2 := Aside0.mk b2'.below
  clear b2'
  go_wp2_with fail
  refine (PFnHeaderWritten.strings_HasSuffix.calls _ _ _ _ (show PFnHeaderWritten.strings_HasSuffix.f s _ = some b2 from H2.out)).mono ?_
  rintro e w3 ⟨rfl, b3⟩
  have B3 := Aside0.mk (B2.out.trans (b3.below.mono B2.out.size))
  clear b3
  cases b2 with
  | true =>
    go_wp2_with fail
    go_ret
    exact ⟨rfl, B3.out⟩
  | false =>
    go_wp2_with fail
    refine (PFnHeaderWritten.strings_HasSuffix.calls _ _ _ _ H1.out).mono ?_
    rintro e w4 ⟨rfl, b4⟩
    have B4 := Aside0.mk (B3.out.trans (b4.below.mono B3.out.size))
    clear b4
    cases b1 with
    | true =>
      go_wp2_with fail
      go_ret
      exact ⟨rfl, B4.out⟩
    | false =>
      go_wp2_with fail
      go_ret
      exact ⟨rfl, B4.out⟩

set_option maxRecDepth 100000 in
theorem block_any (s : ByteArray) (w : World) (hs : s.size ≤ 65536) (h10 : (10 : UInt8) ∈ B s) (h13 : (13 : UInt8) ∉ B s) (b2 b1 : Bool)
    (hb2 : PFnHeaderWritten.strings_HasSuffix.f s ⟨#[10, 10]⟩ = some b2) (hb1 : PFnHeaderWritten.strings_HasSuffix.f s ⟨#[10]⟩ = some b1) :
    Calls Tryd.prog 13 #[.string s] w fun e w' => e = .returned (.string (header b2 b1)) ∧ Below w.heap.size w w' := by
  have C := Aside0.mk fun wx => literal_any s wx hs h10 h13 b2 b1 hb2 hb1
  clear h10 h13 hb2 hb1
  go_enter Tryd.func13, Tryd.ntmps13
  go_wp2_with fail
  refine (C.out _).mono ?_
  rintro e w1 ⟨rfl, b⟩
  have B1 := Aside0.mk b
  clear b
  go_wp2_with fail
  go_ret
  exact ⟨rfl, B1.out⟩

set_option maxHeartbeats 1000000 in
set_option maxRecDepth 100000 in
theorem header_one (c ch : Int) (hc : (c = 43 ∧ ch = 2) ∨ (c = 45 ∧ ch = 0)) (s : ByteArray) (he : B s = enc [c]) (w : World) (hT : Tabs w) :
    Calls Tryd.prog 11 #[.string s] w fun e w' => e = .returned (.tuple #[.int .i64 ch, .int .i64 0, .int .i64 2]) ∧ Below w.heap.size w w' := by
  have hsc : ∀ r ∈ [c], Scalar r := by
    intro r hr
    simp at hr
    subst hr
    unfold Scalar
    omega
  have hsz : s.size ≤ 65536 := by
    rw [← B_length, he]
    have := (enc_length [c]).2
    simp at this
    omega
  have C := Aside0.mk (scRunes_ok s [c] w hT hsz hsc he)
  have HA : Aside0 (PFnPartQuotes.spec_scAll.f 3 [c] false = some true) := ⟨by
    have := all_f [c] false (by simp)
    rw [show all false [c] = true by rcases hc with ⟨rfl, _⟩ | ⟨rfl, _⟩ <;> rfl] at this
    exact this⟩
  clear hsc hsz he hT
  go_enter Tryd.func11, Tryd.ntmps11
  go_wp2_with fail
  refine C.out.mono ?_
  rintro e w1 ⟨g, cap, rfl, hr, hcap, _, _, b1⟩
  have B1 := Aside0.mk b1
  have HR := Aside0.mk hr
  clear b1
  have hcell : w1.cell? ⟨g, 0, none⟩ = some (.int .i32 c) := hr 0 (by simp)
  clear hr
  simp only [List.length_cons, List.length_nil] at hcap ⊢
  go_wp2_with fail
  refine (PFnPartQuotes.spec_scAll.calls 3 _ cap [c] false true _ (HR.out.kd (by simp)) hcap HA.out).mono ?_
  rintro e w2 ⟨rfl, ⟨m2, rfl⟩⟩
  clear HA HR C
  rcases hc with ⟨rfl, rfl⟩ | ⟨rfl, rfl⟩
  · go_wp2_with fail
    go_loopw [7, 8] (fun i wh wr => i = .int .i64 1 ∧ wh = .bool false ∧ wr = w1.drewN m2) (fun _ _ _ => 0)
    case atStart => exact ⟨rfl, rfl, rfl⟩
    case round =>
      obtain ⟨rfl, rfl, rfl⟩ := hrel
      go_wp2_with fail
      go_ret3
      exact ⟨rfl, B1.out.trans (Drawn0.below ⟨⟨m2, rfl⟩⟩ |>.mono B1.out.size)⟩
  · go_wp2_with fail
    go_loopw [7, 8] (fun i wh wr => i = .int .i64 1 ∧ wh = .bool false ∧ wr = w1.drewN m2) (fun _ _ _ => 0)
    case atStart => exact ⟨rfl, rfl, rfl⟩
    case round =>
      obtain ⟨rfl, rfl, rfl⟩ := hrel
      go_wp2_with fail
      go_ret3
      exact ⟨rfl, B1.out.trans (Drawn0.below ⟨⟨m2, rfl⟩⟩ |>.mono B1.out.size)⟩

set_option maxHeartbeats 1000000 in
set_option maxRecDepth 100000 in
theorem header_none (w : World) (hT : Tabs w) :
    Calls Tryd.prog 11 #[.string ⟨#[]⟩] w fun e w' => e = .returned (.tuple #[.int .i64 1, .int .i64 0, .int .i64 2]) ∧ Below w.heap.size w w' := by
  have C := Aside0.mk (scRunes_ok ⟨#[]⟩ [] w hT (by decide) (by simp) rfl)
  have HA : Aside0 (PFnPartQuotes.spec_scAll.f 2 [] false = some true) := ⟨all_f [] false (by simp)⟩
  clear hT
  go_enter Tryd.func11, Tryd.ntmps11
  go_wp2_with fail
  refine C.out.mono ?_
  rintro e w1 ⟨g, cap, rfl, hr, hcap, _, _, b1⟩
  have B1 := Aside0.mk b1
  have HR := Aside0.mk hr
  clear b1 hr
  simp only [List.length_nil] at hcap ⊢
  go_wp2_with fail
  refine (PFnPartQuotes.spec_scAll.calls 2 _ cap [] false true _ (HR.out.kd (by simp)) hcap HA.out).mono ?_
  rintro e w2 ⟨rfl, ⟨m2, rfl⟩⟩
  clear HA HR C
  go_wp2_with fail
  go_loopw [7, 8] (fun i wh wr => i = .int .i64 0 ∧ wh = .bool false ∧ wr = w1.drewN m2) (fun _ _ _ => 0)
  case atStart => exact ⟨rfl, rfl, rfl⟩
  case round =>
    obtain ⟨rfl, rfl, rfl⟩ := hrel
    go_wp2_with fail
    go_ret3
    exact ⟨rfl, B1.out.trans (Drawn0.below ⟨⟨m2, rfl⟩⟩ |>.mono B1.out.size)⟩

/-- A row that was made by the conversion is the call's own. -/
theorem own_new (s : ByteArray) (w : World) (rs : List Int) (hr : runes s s.size 0 = rs) (hl : rs.length ≤ 65536) (t : TypeId) (base : Nat) (hb : base ≤ w.heap.size) :
    (Kd.int .i32).R t (w.alloc (.cells (Conv.runesFrom s s.size 0 #[] ++ Array.replicate (grownCap w rs.length 0 t - rs.length) (.int .i32 0)) t)).drew base (fun k => k = w.heap.size) (.slice (some ⟨w.heap.size, 0, none⟩) rs.length (grownCap w rs.length 0 t)) rs := by
  have hge := grownCap_ge w rs.length 0 t
  refine Kd.R_of_own (enc := Value.int .i32) ⟨by simp [encs], .inr ⟨w.heap.size, grownCap w rs.length 0 t, Conv.runesFrom s s.size 0 #[] ++ Array.replicate (grownCap w rs.length 0 t - rs.length) (.int .i32 0), rfl, hb, ?_, hge, grownCap_le_maxLen _ _ _ _ (by unfold maxLen; omega), ?_, ?_⟩⟩ ?_
  · show (w.heap.push _)[w.heap.size]? = _
    simp
  · rw [Array.size_append, runes_size, hr]
    simp; omega
  · rw [runesFrom_eq, hr]
    simp [encs]
  · intro k hk
    simp [Value.ownBlock] at hk
    exact hk.symm

set_option maxHeartbeats 1000000 in
set_option maxRecDepth 100000 in
theorem scRunes_own (s : ByteArray) (rs : List Int) (w : World) (hT : Tabs w) (hs : s.size ≤ 65536) (hsc : ∀ r ∈ rs, Scalar r) (he : B s = enc rs) :
    Calls Tryd.prog 34 #[.string s] w fun e w' => ∃ g cap : Nat, e = .returned (.tuple #[.slice (some ⟨g, 0, none⟩) rs.length cap, .bool true]) ∧ (Kd.int .i32).R 21 w' w.heap.size (fun k => k = g) (.slice (some ⟨g, 0, none⟩) rs.length cap) rs ∧ w.heap.size ≤ g ∧ Below w.heap.size w w' := by
  have hv : Lib.validD s.data.toList = true := by rw [show s.data.toList = enc rs from he]; exact valid_of_enc rs hsc
  have CV := Aside0.mk (Tryd.utf8_ValidString s w (by omega) hT)
  rw [hv] at CV
  have hru := runes_of s rs hsc he
  have hl : rs.length ≤ 65536 := by have := runes_length s s.size 0; rw [hru] at this; omega
  have hrc := fun wx => run_runes_of_string (P := Tryd.prog) wx 9 57 21 s Tryd.underlying9 Tryd.underlying57 Tryd.underlying21 (by rw [runes_size, hru]; omega)
  rw [runes_size, hru] at hrc
  have HRC := Aside0.mk hrc
  have HRU := Aside0.mk hru
  clear hrc hru hv hsc he
  go_enter Tryd.func34, Tryd.ntmps34
  go_wp2_with fail
  refine CV.out.mono ?_
  rintro e w1 ⟨rfl, b1⟩
  have B1 := Aside0.mk b1
  clear b1
  have hrc := HRC.out w1
  go_wp2_with fail
  clear hrc
  go_ret2
  exact ⟨_, _, rfl, own_new s w1 rs HRU.out hl 21 w.heap.size B1.out.size, B1.out.size, (B1.out.alloc B1.out.size _).drew⟩
end Go.Proofs.YtmildhkegpmacaaDoor.HeadWalks
