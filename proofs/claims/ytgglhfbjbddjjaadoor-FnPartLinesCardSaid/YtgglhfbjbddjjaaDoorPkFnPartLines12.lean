/- Parts of the proof of FnPartLines, one behind the other: ScMark, ScHexes, ScLoop. Each part says ahead of itself what it proves. -/
import Derived.Test.YtgglhfbjbddjjaaDoorPkFnPartLines11
import Derived.Laws.Cover4

/- The scanner's look at a marker: a line that is none lets it pass. -/
namespace Go.Proofs.YtgglhfbjbddjjaaDoor.ScMark
open Go.RowKit Go.Proofs.YtgglhfbjbddjjaaDoorW.PrintWords Go.Proofs.YtgglhfbjbddjjaaDoorW.PrintMore Go.Proofs.YtgglhfbjbddjjaaDoor.Utf Go.Proofs.YtgglhfbjbddjjaaDoor.Runes Go.Proofs.YtgglhfbjbddjjaaDoor.ScBase Go.Proofs.YtgglhfbjbddjjaaDoor.ScStep Go.Proofs.YtgglhfbjbddjjaaDoor.LnPure Go.Proofs.YtgglhfbjbddjjaaDoor.ScTrim
set_option linter.unusedVariables false
set_option linter.unusedSimpArgs false
attribute [local go_sem ↓] Go.wp_at_zero Go.wp_at_succ

theorem encode_eq (r : Int) (h : Scalar r) : Utf8.encode r = ba (Lib.encodeRune r) := by
  obtain ⟨h0, h1⟩ := h
  have hv : Utf8.valid r = true := by unfold Utf8.valid; simp; omega
  unfold Utf8.encode
  simp only [hv, if_true]
  unfold ba Lib.encodeRune
  by_cases a : r ≤ 127
  · rw [if_pos (by omega), Lib.encodeRuneZ_one h0 a]; rfl
  · rw [if_neg (by omega)]
    by_cases b : r ≤ 2047
    · rw [if_pos (by omega), Lib.encodeRuneZ_two (by omega) b]
      simp only [List.map_cons, List.map_nil]
      have e0 : (192 + r / 64).toNat = 0xC0 + r.toNat / 64 := by omega
      have e1 : (128 + r % 64).toNat = 0x80 + r.toNat % 64 := by omega
      rw [e0, e1]
    · rw [if_neg (by omega)]
      by_cases c : r ≤ 65535
      · rw [if_pos (by omega), Lib.encodeRuneZ_three (by omega)]
        simp only [List.map_cons, List.map_nil]
        have e0 : (224 + r / 4096).toNat = 0xE0 + r.toNat / 4096 := by omega
        have e1 : (128 + r / 64 % 64).toNat = 0x80 + r.toNat / 64 % 64 := by omega
        have e2 : (128 + r % 64).toNat = 0x80 + r.toNat % 64 := by omega
        rw [e0, e1, e2]
      · rw [if_neg (by omega), Lib.encodeRuneZ_four (by omega) (by omega)]
        simp only [List.map_cons, List.map_nil]
        have e0 : (240 + r / 262144).toNat = 0xF0 + r.toNat / 262144 := by omega
        have e1 : (128 + r / 4096 % 64).toNat = 0x80 + r.toNat / 4096 % 64 := by omega
        have e2 : (128 + r / 64 % 64).toNat = 0x80 + r.toNat / 64 % 64 := by omega
        have e3 : (128 + r % 64).toNat = 0x80 + r.toNat % 64 := by omega
        rw [e0, e1, e2, e3]
theorem fold_enc : ∀ (rs : List Int) (s : ByteArray), (∀ r ∈ rs, Scalar r) → B (rs.foldl (fun r n => r ++ Utf8.encode n) s) = B s ++ enc rs
  | [], s, h => by simp [enc_nil]
  | r :: rs, s, h => by
    rw [List.foldl_cons, fold_enc rs _ (fun x hx => h x (List.mem_cons_of_mem _ hx)), enc_cons, encode_eq r (h r (List.mem_cons_self))]
    show ((s ++ ba (Lib.encodeRune r)).data.toList) ++ _ = _
    rw [ByteArray.data_append, Array.toList_append, List.append_assoc]
    rfl
theorem runes_enc (rs : List Int) (h : ∀ r ∈ rs, Scalar r) : runesBytes rs = ba (enc rs) := by
  refine eq_of_B ?_
  unfold runesBytes
  rw [fold_enc rs _ h]
  rfl
open Go.Lib in
theorem white_pred (w : World) : PredAt Tryd.prog 54 #[] encR wh w := fun W r _ => by
  unfold FnGives wh
  have z : ∀ k : Nat, ((r : Int) == (k : Int)) = (r == k) := fun k => by
    rw [Bool.eq_iff_iff]; simp only [beq_iff_eq]; omega
  have z0 := z 32
  have z1 := z 9
  have z2 := z 10
  have z3 := z 13
  by_cases h0 : r = 32
  · subst h0
    go_enter Tryd.func54, Tryd.ntmps54
    go_wp2
    go_ret
    exact ⟨rfl, 0, rfl⟩
  by_cases h1 : r = 9
  · subst h1
    go_enter Tryd.func54, Tryd.ntmps54
    go_wp2
    go_ret
    exact ⟨rfl, 0, rfl⟩
  by_cases h2 : r = 10
  · subst h2
    go_enter Tryd.func54, Tryd.ntmps54
    go_wp2
    go_ret
    exact ⟨rfl, 0, rfl⟩
  by_cases h3 : r = 13
  · subst h3
    go_enter Tryd.func54, Tryd.ntmps54
    go_wp2
    go_ret
    exact ⟨rfl, 0, rfl⟩
  have e0 : ((r : Int) == 32) = false := by simp only [beq_eq_false_iff_ne]; omega
  have e1 : ((r : Int) == 9) = false := by simp only [beq_eq_false_iff_ne]; omega
  have e2 : ((r : Int) == 10) = false := by simp only [beq_eq_false_iff_ne]; omega
  have e3 : ((r : Int) == 13) = false := by simp only [beq_eq_false_iff_ne]; omega
  have e4 : (r == 32 || r == 9 || r == 10 || r == 13) = false := by simp [h0, h1, h2, h3]
  rw [e4]
  clear z z0 z1 z2 z3 e4 h0 h1 h2 h3
  go_enter Tryd.func54, Tryd.ntmps54
  go_wp2
  go_ret
  exact ⟨rfl, 0, rfl⟩

/-- No marker, for the scanner. -/
def NoMark (L : List Int) : Prop := ∀ z : Int, z = 45 ∨ z = 46 → L.take 3 = [z, z, z] → ∃ x r, L.drop 3 = x :: r ∧ wh x.toNat = false
theorem noMark (L : List Int) (h : mkr L = false) (hl : L.length = 3 → L.getD 2 0 = 10) (h13 : (L.drop 3).head? ≠ some 13) (hs : ∀ r ∈ L, Scalar r) : NoMark L := fun z hz ht => by
  cases hd : L.drop 3 with
  | nil =>
    exfalso
    have h1 := congrArg List.length ht
    have h2 := congrArg List.length hd
    simp at h1 h2
    have h3 : L.length = 3 := by omega
    have h4 := hl h3
    rw [List.take_of_length_le (by omega)] at ht
    rw [ht] at h4
    simp at h4
    omega
  | cons x r =>
    refine ⟨x, r, rfl, ?_⟩
    have hx := hs x (List.mem_of_mem_drop (by rw [hd]; exact List.mem_cons_self))
    have h0 := hx.1
    have e : ∀ k : Nat, x ≠ (k : Int) → (x.toNat == k) = false := fun k hk => by simp only [beq_eq_false_iff_ne]; omega
    unfold mkr at h
    rw [hd, ht] at h
    rw [hd] at h13
    have ht2 : ([z, z, z] == [(45 : Int), 45, 45] || [z, z, z] == [(46 : Int), 46, 46]) = true := by rcases hz with rfl | rfl <;> decide
    rw [ht2, Bool.true_and] at h
    simp only [List.head?_cons, Bool.or_eq_false_iff, beq_eq_false_iff_ne, ne_eq, Option.some.injEq] at h
    simp only [List.head?_cons, ne_eq, Option.some.injEq] at h13
    unfold wh
    rw [e 32 h.1.1, e 9 h.1.2, e 10 h.2, e 13 h13]
    rfl
theorem ba3_ne (s : ByteArray) (a b c : UInt8) (h : s ≠ ba [a, b, c]) : ¬ s.toList = [a, b, c] := fun e => h (by
  refine eq_of_B ?_
  rw [ByteArray.toList_eq] at e
  exact e)
set_option maxHeartbeats 1000000 in
set_option maxRecDepth 100000 in
theorem found_any (w : World) (S : Value) (a : Addr) (cap : Nat) (L : List Int) (hT : Tabs w) (hL : 1 ≤ L.length) (hb : L.length ≤ 65536) (hc : ∀ j, j < L.length → w.cell? (a.add j) = some (.int .i32 (L.getD j 0))) (hcap : L.length ≤ cap) (hs : ∀ r ∈ L, Scalar r) (hm : NoMark L) :
    Calls Tryd.prog 49 #[S, .slice (some a) L.length cap] w fun e w' => e = .returned (.bool false) ∧ Below w.heap.size w w' := by
  by_cases h3 : L.length < 3
  · have h3b : decide ((L.length : Int) < 3) = true := decide_eq_true (by omega)
    clear hc hs hm
    go_enter Tryd.func49, Tryd.ntmps49
    go_wp2_with fail
    go_ret
    exact ⟨rfl, Below.refl _ _⟩
  have h3b : decide ((L.length : Int) < 3) = false := decide_eq_false (by omega)
  by_cases hl : L.length = 3
  · have hcv := run_convert_runes (P := Tryd.prog) w 32 9 21 a 3 cap L (by omega) Tryd.underlying32 Tryd.underlying21 Tryd.underlying9 hc
    rw [runes_enc _ (fun r hr => hs r (List.mem_of_mem_take hr)), List.take_of_length_le (by omega)] at hcv
    have nz : ∀ z : UInt8, ((z.toNat : Int) = 45 ∨ (z.toNat : Int) = 46) → ba (enc L) ≠ ba [z, z, z] := fun z hz he => by
      match L, hl with
      | [x, y, t], _ =>
        have h1 : enc [x, y, t] = [z, z, z] := congrArg B he
        obtain ⟨e1, h1⟩ := first_rune (hs x (by simp)) (by omega) h1
        obtain ⟨e2, h1⟩ := first_rune (hs y (by simp)) (by omega) h1
        obtain ⟨e3, h1⟩ := first_rune (hs t (by simp)) (by omega) h1
        obtain ⟨u, r, hu, _⟩ := hm (z.toNat : Int) hz (by rw [e1, e2, e3]; rfl)
        cases hu
    obtain ⟨s, hsd⟩ : ∃ s, s = ba (enc L) := ⟨_, rfl⟩
    rw [← hsd] at hcv nz
    have e1 := ba3_ne s 45 45 45 (nz 45 (.inl rfl))
    have e2 := ba3_ne s 46 46 46 (nz 46 (.inr rfl))
    have e1b : (s.toList == [45, 45, 45]) = false := by simpa using e1
    have e2b : (s.toList == [46, 46, 46]) = false := by simpa using e2
    have hn : (L.length : Int) = 3 := by omega
    rw [hl]
    clear hc hs hm nz hsd hT hl hn h3 h3b hL hb
    go_enter Tryd.func49, Tryd.ntmps49
    go_wp2_with fail
    go_ret
    exact ⟨rfl, Below.refl _ _⟩
  have h3c : ((L.length : Int) == 3) = false := by simp only [beq_eq_false_iff_ne]; omega
  have h4 : 4 ≤ L.length := by omega
  have hcv := run_convert_runes (P := Tryd.prog) w 32 9 21 a 4 cap L h4 Tryd.underlying32 Tryd.underlying21 Tryd.underlying9 hc
  rw [runes_enc _ (fun r hr => hs r (List.mem_of_mem_take hr))] at hcv
  have n1 := trim_not L hs h4 45 (by decide) (fun h => hm 45 (.inl rfl) h)
  have n2 := trim_not L hs h4 46 (by decide) (fun h => hm 46 (.inr rfl) h)
  have hz : (ba (enc (L.take 4))).size ≤ 9223372036854775807 := by
    have := (enc_length (L.take 4)).2
    rw [ba_size]
    have : (L.take 4).length ≤ 4 := List.length_take_le 4 L
    omega
  obtain ⟨s, hsd⟩ : ∃ s, s = ba (enc (L.take 4)) := ⟨_, rfl⟩
  rw [← hsd] at hcv n1 n2 hz
  obtain ⟨t, htd⟩ : ∃ t, t = Lib.trimRightF wh s := ⟨_, rfl⟩
  have CT := Aside0.mk (Tryd.strings_TrimRightFunc 54 #[] (enters_of Tryd.func54 (by kernel_rfl) rfl) wh s w hz hT (white_pred w))
  rw [← htd] at CT n1 n2
  have e1 := ba3_ne t 45 45 45 n1
  have e2 := ba3_ne t 46 46 46 n2
  have e1b : (t.toList == [45, 45, 45]) = false := by simpa using e1
  have e2b : (t.toList == [46, 46, 46]) = false := by simpa using e2
  clear hc hs hm hT hsd htd n1 n2 hz h3
  go_enter Tryd.func49, Tryd.ntmps49
  go_wp2_with (go_at_call 53; refine CT.out.mono ?_; rintro e w1 ⟨rfl, hb1⟩)
  go_ret
  exact ⟨rfl, hb1⟩
set_option maxHeartbeats 1000000 in
set_option maxRecDepth 100000 in
theorem validate_any (w : World) (S C : Value) (a : Addr) (cap : Nat) (L : List Int) (hT : Tabs w) (hL : 1 ≤ L.length) (hb : L.length ≤ 65536) (hc : ∀ j, j < L.length → w.cell? (a.add j) = some (.int .i32 (L.getD j 0))) (hcap : L.length ≤ cap) (hs : ∀ r ∈ L, Scalar r) (hm : NoMark L) :
    Calls Tryd.prog 40 #[S, C, .slice (some a) L.length cap] w fun e w' => e = .returned .nilIface ∧ Below w.heap.size w w' := by
  have CF := Aside0.mk (found_any w S a cap L hT hL hb hc hcap hs hm)
  clear hT hc hs hm
  go_enter Tryd.func40, Tryd.ntmps40
  go_wp2_with (go_at_call 49; refine CF.out.mono ?_; rintro e w1 ⟨rfl, hb1⟩)
  go_ret
  exact ⟨rfl, hb1⟩
end Go.Proofs.YtgglhfbjbddjjaaDoor.ScMark

/- The scanner's number of two or four hex digits. -/
namespace Go.Proofs.YtgglhfbjbddjjaaDoor.ScHexes
open Go.RowKit Go.Proofs.YtgglhfbjbddjjaaDoorW.PrintWords Go.Proofs.YtgglhfbjbddjjaaDoorW.PrintMore Go.Proofs.YtgglhfbjbddjjaaDoor.Utf Go.Proofs.YtgglhfbjbddjjaaDoor.ScBase Go.Proofs.YtgglhfbjbddjjaaDoor.ScStep Go.Proofs.YtgglhfbjbddjjaaDoor.ScHex Go.Proofs.YtgglhfbjbddjjaaDoor.LnPure
set_option linter.unusedVariables false
set_option linter.unusedSimpArgs false
attribute [local go_sem ↓] Go.wp_at_zero Go.wp_at_succ

theorem hx_r {c d : Int} (h : hx c = some d) : 0 ≤ d ∧ d ≤ 15 := by
  unfold hx at h
  split at h
  · injection h with h; omega
  · split at h
    · injection h with h; omega
    · split at h
      · injection h with h; omega
      · cases h
set_option maxHeartbeats 2000000 in
set_option maxRecDepth 100000 in
theorem hexs_two (w : World) (G o cap : Nat) (a b x : Int) (h : hexs [a, b] 0 = some x) (hc0 : w.cell? ⟨G, o, none⟩ = some (.int .i32 a)) (hc1 : w.cell? ⟨G, o + 1, none⟩ = some (.int .i32 b)) (hcap : 2 ≤ cap) :
    Calls Tryd.prog 43 #[.slice (some ⟨G, o, none⟩) 2 cap] w fun e w' => e = .returned (.int .i64 x) ∧ w = w' := by
  simp only [hexs] at h
  cases ha : hx a with
  | none => rw [ha] at h; cases h
  | some da =>
    rw [ha] at h
    simp only at h
    cases hb : hx b with
    | none => rw [hb] at h; cases h
    | some db =>
      rw [hb] at h
      simp only at h
      injection h with h
      have ra := hx_r ha
      have rb := hx_r hb
      have CA := Aside0.mk (fun W => hexToInt_any a da ha W)
      have CB := Aside0.mk (fun W => hexToInt_any b db hb W)
      clear ha hb
      go_enter Tryd.func43, Tryd.ntmps43
      go_wp2_with fail
      go_loop [3, 4] (fun vs vi => (vs = .int .i64 0 ∧ vi = .int .i64 0) ∨ (vs = .int .i64 (da * 16) ∧ vi = .int .i64 1) ∨ (vs = .int .i64 x ∧ vi = .int .i64 2)) (fun _ vi => 2 - (intOf vi).toNat)
      case atStart => exact .inl ⟨rfl, rfl⟩
      case round =>
        rcases hrel with ⟨rfl, rfl⟩ | ⟨rfl, rfl⟩ | ⟨rfl, rfl⟩
        · go_wp2_with (go_at_call 50; refine (CA.out _).mono ?_; rintro e w1 ⟨rfl, rfl⟩)
          exact ⟨.inr (.inl ⟨rfl, rfl⟩), by simp [intOf]⟩
        · go_wp2_with (go_at_call 50; refine (CB.out _).mono ?_; rintro e w1 ⟨rfl, rfl⟩)
          exact ⟨.inr (.inr ⟨by congr 1; omega, rfl⟩), by simp [intOf]⟩
        · go_wp2_with fail
          go_ret
          exact ⟨rfl, rfl⟩
set_option maxHeartbeats 4000000 in
set_option maxRecDepth 100000 in
theorem hexs_four (w : World) (G o cap : Nat) (a b c d x : Int) (h : hexs [a, b, c, d] 0 = some x) (hc0 : w.cell? ⟨G, o, none⟩ = some (.int .i32 a)) (hc1 : w.cell? ⟨G, o + 1, none⟩ = some (.int .i32 b)) (hc2 : w.cell? ⟨G, o + 2, none⟩ = some (.int .i32 c)) (hc3 : w.cell? ⟨G, o + 3, none⟩ = some (.int .i32 d)) (hcap : 4 ≤ cap) :
    Calls Tryd.prog 43 #[.slice (some ⟨G, o, none⟩) 4 cap] w fun e w' => e = .returned (.int .i64 x) ∧ w = w' := by
  simp only [hexs] at h
  cases ha : hx a with
  | none => rw [ha] at h; cases h
  | some da =>
  rw [ha] at h
  simp only at h
  cases hb : hx b with
  | none => rw [hb] at h; cases h
  | some db =>
  rw [hb] at h
  simp only at h
  cases hc : hx c with
  | none => rw [hc] at h; cases h
  | some dc =>
  rw [hc] at h
  simp only at h
  cases hd : hx d with
  | none => rw [hd] at h; cases h
  | some dd =>
  rw [hd] at h
  simp only at h
  injection h with h
  have ra := hx_r ha
  have rb := hx_r hb
  have rc := hx_r hc
  have rd := hx_r hd
  have CA := Aside0.mk (fun W => hexToInt_any a da ha W)
  have CB := Aside0.mk (fun W => hexToInt_any b db hb W)
  have CC := Aside0.mk (fun W => hexToInt_any c dc hc W)
  have CD := Aside0.mk (fun W => hexToInt_any d dd hd W)
  clear ha hb hc hd
  go_enter Tryd.func43, Tryd.ntmps43
  go_wp2_with fail
  go_loop [3, 4] (fun vs vi => (vs = .int .i64 0 ∧ vi = .int .i64 0) ∨ (vs = .int .i64 (da * 4096) ∧ vi = .int .i64 1) ∨ (vs = .int .i64 (da * 4096 + db * 256) ∧ vi = .int .i64 2) ∨ (vs = .int .i64 (da * 4096 + db * 256 + dc * 16) ∧ vi = .int .i64 3) ∨ (vs = .int .i64 x ∧ vi = .int .i64 4)) (fun _ vi => 4 - (intOf vi).toNat)
  case atStart => exact .inl ⟨rfl, rfl⟩
  case round =>
    rcases hrel with ⟨rfl, rfl⟩ | ⟨rfl, rfl⟩ | ⟨rfl, rfl⟩ | ⟨rfl, rfl⟩ | ⟨rfl, rfl⟩
    · go_wp2_with (go_at_call 50; refine (CA.out _).mono ?_; rintro e w1 ⟨rfl, rfl⟩)
      exact ⟨.inr (.inl ⟨rfl, rfl⟩), by simp [intOf]⟩
    · go_wp2_with (go_at_call 50; refine (CB.out _).mono ?_; rintro e w1 ⟨rfl, rfl⟩)
      exact ⟨.inr (.inr (.inl ⟨rfl, rfl⟩)), by simp [intOf]⟩
    · go_wp2_with (go_at_call 50; refine (CC.out _).mono ?_; rintro e w1 ⟨rfl, rfl⟩)
      exact ⟨.inr (.inr (.inr (.inl ⟨rfl, rfl⟩))), by simp [intOf]⟩
    · go_wp2_with (go_at_call 50; refine (CD.out _).mono ?_; rintro e w1 ⟨rfl, rfl⟩)
      exact ⟨.inr (.inr (.inr (.inr ⟨by congr 1; omega, rfl⟩))), by simp [intOf]⟩
    · go_wp2_with fail
      go_ret
      exact ⟨rfl, rfl⟩
end Go.Proofs.YtgglhfbjbddjjaaDoor.ScHexes

/- What holds in the loop of the two scanners of quoted text; the steps. -/
namespace Go.Proofs.YtgglhfbjbddjjaaDoor.ScLoop
open Go.RowKit Go.Proofs.YtgglhfbjbddjjaaDoorW.PrintWords Go.Proofs.YtgglhfbjbddjjaaDoorW.PrintMore Go.Proofs.YtgglhfbjbddjjaaDoor.Utf Go.Proofs.YtgglhfbjbddjjaaDoor.Runes Go.Proofs.YtgglhfbjbddjjaaDoor.ScBase Go.Proofs.YtgglhfbjbddjjaaDoor.ScStep Go.Proofs.YtgglhfbjbddjjaaDoor.ScHex Go.Proofs.YtgglhfbjbddjjaaDoor.ScMark Go.Proofs.YtgglhfbjbddjjaaDoor.LnPure Go.Proofs.YtgglhfbjbddjjaaDoor.ScTrim
set_option linter.unusedVariables false
set_option linter.unusedSimpArgs false
attribute [local go_sem ↓] Go.wp_at_zero Go.wp_at_succ

def sl (G n cap : Nat) : Value := .slice (some ⟨G, 0, none⟩) n cap
/-- The places of a call: the scanner's block, the context's, the source's. -/
structure Pl (w : World) (S C G : Nat) : Prop where
  s : S < w.heap.size
  c : C < w.heap.size
  g : G < w.heap.size
  sc : S ≠ C
  sg : S ≠ G
  cg : C ≠ G
/-- Inside the loop, w being the world at the call. -/
structure Lf (w wr : World) (S C G Q cap0 : Nat) (L : List Int) (p : Int) (O V : Value) (os vs : List Int) : Prop where
  sc : SC wr S (sl G L.length cap0) p
  cx : CX wr C p (sl G L.length cap0) O
  ro : Row wr w.heap.size O os
  rv : Row wr w.heap.size V vs
  ne : ∀ g, V.ownBlock = some g → O.ownBlock ≠ some g
  rd : Reads wr G L
  ps : PosB wr Q
  qo : O.ownBlock ≠ some Q
  qv : V.ownBlock ≠ some Q
  qb : w.heap.size ≤ Q
  fr : Fr w wr (XS S C)
theorem Row.lt {w : World} {base : Nat} {v : Value} {xs : List Int} (h : Row w base v xs) {g : Nat} (hg : v.ownBlock = some g) : base ≤ g ∧ g < w.heap.size := World.ownsRow.lt h g hg
theorem PosB.lt {w : World} {q : Nat} (h : PosB w q) : q < w.heap.size := by
  obtain ⟨a, b, c, d, f, h⟩ := h
  exact blk_lt h
theorem PosB.blk {w w' : World} {q : Nat} (h : PosB w q) (hb : w'.heap[q]? = w.heap[q]?) : PosB w' q := by
  obtain ⟨a, b, c, d, f, h⟩ := h
  exact ⟨a, b, c, d, f, hb.trans h⟩
theorem reads_blk {w w' : World} {g : Nat} {rs : List Int} (h : Reads w g rs) (hb : w'.heap[g]? = w.heap[g]?) : Reads w' g rs := fun j hj => (World.cell?_of_block (a := ⟨g, j, none⟩) hb).trans (h j hj)
/-- A row stays where its block stays. -/
theorem Row.blk {w w' : World} {base : Nat} {v : Value} {xs : List Int} (h : Row w base v xs) (hb : ∀ g, v.ownBlock = some g → w'.heap[g]? = w.heap[g]?) : Row w' base v xs := by
  obtain ⟨h1, h2⟩ := h
  refine ⟨h1, ?_⟩
  rcases h2 with h2 | ⟨g, cap, cur, rfl, hg, hh, r⟩
  · exact .inl h2
  · exact .inr ⟨g, cap, cur, rfl, hg, (hb g rfl).trans hh, r⟩
/-- A step that changes the scanner's and the context's blocks and a row at most. -/
theorem Lf.step {w wr w' : World} {S C G Q cap0 : Nat} {L : List Int} {p p' : Int} {O V O' : Value} {os vs os' : List Int} {X : Nat → Prop} (h : Lf w wr S C G Q cap0 L p O V os vs) (hP : Pl w S C G) (hf : Fr wr w' X) (hX : ∀ k, X k → k = S ∨ k = C ∨ O.ownBlock = some k)
    (hs : SC w' S (sl G L.length cap0) p') (hc : CX w' C p' (sl G L.length cap0) O') (hO : Row w' w.heap.size O' os') (hm : Moved wr O O') : Lf w w' S C G Q cap0 L p' O' V os' vs := by
  have hz := h.fr.size
  have keep : ∀ k, k < wr.heap.size → k ≠ S → k ≠ C → O.ownBlock ≠ some k → w'.heap[k]? = wr.heap[k]? := fun k hk h1 h2 h3 => hf.block k hk (fun hx => by
    rcases hX k hx with h | h | h
    · exact h1 h
    · exact h2 h
    · exact h3 h)
  have hv : ∀ g, V.ownBlock = some g → w'.heap[g]? = wr.heap[g]? := fun g hg => by
    have := Row.lt h.rv hg
    have := hP.s
    have := hP.c
    exact keep g (by omega) (by omega) (by omega) (h.ne g hg)
  have hq := PosB.lt h.ps
  have hqb := h.qb
  refine ⟨hs, hc, hO, Row.blk h.rv hv, fun g hg => ?_, ?_, ?_, ?_, h.qv, h.qb, ?_⟩
  · rcases hm with e | ⟨b, e, hb⟩
    · rw [e]; exact h.ne g hg
    · rw [e]
      have := Row.lt h.rv hg
      intro e2
      injection e2 with e2
      omega
  · refine reads_blk h.rd (keep G (by have := hP.g; omega) hP.sg.symm hP.cg.symm (fun e => ?_))
    have := Row.lt h.ro e
    have := hP.g
    omega
  · exact PosB.blk h.ps (keep Q hq (by have := hP.s; omega) (by have := hP.c; omega) h.qo)
  · rcases hm with e | ⟨b, e, hb⟩
    · rw [e]; exact h.qo
    · rw [e]; intro e2; injection e2 with e2; omega
  · refine h.fr.trans hf (fun y hy hx => ?_)
    rcases hX y hx with e | e | e
    · exact .inl e
    · exact .inr e
    · have := Row.lt h.ro e
      omega
theorem Lf.below {w wr w' : World} {S C G Q cap0 : Nat} {L : List Int} {p : Int} {O V : Value} {os vs : List Int} (h : Lf w wr S C G Q cap0 L p O V os vs) (hP : Pl w S C G) (hb : Below wr.heap.size wr w') : Lf w w' S C G Q cap0 L p O V os vs :=
  h.step hP (Fr.of_below hb (fun _ => False)) (fun k hk => hk.elim) (h.sc.blk (hb.block S (SC.lt h.sc))) (h.cx.blk (hb.block C (CX.lt h.cx))) (Row.blk h.ro fun g hg => hb.block g (Row.lt h.ro hg).2) (.inl rfl)
/-- The value's row grows. -/
theorem Lf.app {w wr w1 : World} {S C G Q cap0 : Nat} {L : List Int} {p : Int} {O V V' : Value} {os vs vs' : List Int} (h : Lf w wr S C G Q cap0 L p O V os vs) (hP : Pl w S C G) (hr : Row w1 w.heap.size V' vs') (hg : wr.grownBy w1 V.ownBlock) (hm : Moved wr V V') : Lf w w1 S C G Q cap0 L p O V' os vs' := by
  have hz := h.fr.size
  have keep : ∀ k, k < wr.heap.size → V.ownBlock ≠ some k → w1.heap[k]? = wr.heap[k]? := fun k hk h1 => hg.block k hk (fun e => h1 e.symm)
  have far : ∀ k, k < w.heap.size → V.ownBlock ≠ some k := fun k hk e => by
    have := Row.lt h.rv e
    omega
  have hq := PosB.lt h.ps
  refine ⟨h.sc.blk (keep S (by have := hP.s; omega) (far S hP.s)), h.cx.blk (keep C (by have := hP.c; omega) (far C hP.c)), Row.blk h.ro (fun g hg => keep g (Row.lt h.ro hg).2 (fun e => h.ne g e hg)), hr, fun g hg2 => ?_, reads_blk h.rd (keep G (by have := hP.g; omega) (far G hP.g)), PosB.blk h.ps (keep Q hq h.qv), h.qo, ?_, h.qb, h.fr.grown hg (fun k hk e => ?_)⟩
  · rcases hm with e | ⟨b, e, hb⟩
    · exact h.ne g (e ▸ hg2)
    · rw [e] at hg2
      injection hg2 with hg2
      intro e2
      have := Row.lt h.ro e2
      omega
  · rcases hm with e | ⟨b, e, hb⟩
    · rw [e]; exact h.qv
    · rw [e]; intro e2; injection e2 with e2; omega
  · have := Row.lt h.rv e
    omega
/-- The value's row, cut. -/
theorem Row.cut {w : World} {base g n cap : Nat} {xs : List Int} (h : Row w base (.slice (some ⟨g, 0, none⟩) n cap) xs) (m : Nat) (hm : m ≤ xs.length) : Row w base (.slice (some ⟨g, 0, none⟩) m cap) (xs.take m) := by
  obtain ⟨h1, h2⟩ := h
  have hl : (xs.take m).length = m := by rw [List.length_take]; omega
  rcases h2 with ⟨h2, _⟩ | ⟨g', cap', cur, he, hg, hh, r1, r2, r3, r4⟩
  · cases h2
  · injection he with he1 he2 he3
    injection he1 with he1
    injection he1 with he1
    subst he1
    subst he3
    refine ⟨by simp [nums], .inr ⟨g, cap, cur, by rw [hl], hg, hh, by rw [hl]; omega, r2, r3, ?_⟩⟩
    rw [hl, Nat.mul_one]
    rw [Nat.mul_one] at r4
    have : nums .i32 (xs.take m) = (nums .i32 xs).take m := by simp [nums, List.map_take]
    rw [this, ← r4, List.take_take, Nat.min_eq_left hm]
theorem Lf.cutV {w wr : World} {S C G Q cap0 g n cap : Nat} {L : List Int} {p : Int} {O : Value} {os vs : List Int} (h : Lf w wr S C G Q cap0 L p O (.slice (some ⟨g, 0, none⟩) n cap) os vs) (m : Nat) (hm : m ≤ vs.length) : Lf w wr S C G Q cap0 L p O (.slice (some ⟨g, 0, none⟩) m cap) os (vs.take m) :=
  ⟨h.sc, h.cx, h.ro, Row.cut h.rv m hm, h.ne, h.rd, h.ps, h.qo, h.qv, h.qb, h.fr⟩

/-! ### the steps -/
theorem addL {w wr : World} {S C G Q cap0 : Nat} {L : List Int} {p : Int} {O V : Value} {os vs : List Int} (h : Lf w wr S C G Q cap0 L p O V os vs) (hP : Pl w S C G) (hn : os.length ≤ 1000000) (c : Int) :
    Calls Tryd.prog 35 #[.pointer (some ⟨C, 0, none⟩), .int .i32 c] wr fun e w' => e = .returned (.tuple #[]) ∧ ∃ O', Lf w w' S C G Q cap0 L p O' V (os ++ [c]) vs :=
  (add_any wr w.heap.size C p (sl G L.length cap0) O os c h.cx h.ro hP.c h.fr.size hn).mono fun e w' hh => by
    obtain ⟨h1, O', h2, h3, h4, h5⟩ := hh
    refine ⟨h1, O', h.step hP h5 (fun k hk => ?_) ?_ h2 h3 h4⟩
    · rcases hk with hk | hk
      · exact .inr (.inl hk)
      · exact .inr (.inr hk)
    · refine h.sc.blk (h5.block S (SC.lt h.sc) (fun hx => ?_))
      rcases hx with hx | hx
      · exact hP.sc hx
      · have := Row.lt h.ro hx
        have := hP.s
        omega
theorem progL {w wr w' : World} {S C G Q cap0 : Nat} {L : List Int} {p p' : Int} {O V : Value} {os vs : List Int} (h : Lf w wr S C G Q cap0 L p O V os vs) (hP : Pl w S C G) {e : Ending} (hh : ProgP wr S C (sl G L.length cap0) p' p' (sl G L.length cap0) O e w') : e = .returned (.tuple #[]) ∧ Lf w w' S C G Q cap0 L p' O V os vs := by
  obtain ⟨h1, h2, h3, h4, h5⟩ := hh
  refine ⟨h1, h.step hP h4 (fun k hk => ?_) h2 h3 (Row.blk h.ro fun g hg => h4.block g (Row.lt h.ro hg).2 (fun hx => ?_)) (.inl rfl)⟩
  · rcases hk with hk | hk
    · exact .inl hk
    · exact .inr (.inl hk)
  · have := Row.lt h.ro hg
    have := hP.s
    have := hP.c
    rcases hx with hx | hx <;> omega
theorem colL {w wr : World} {S C G Q cap0 : Nat} {L : List Int} {p : Int} {O V : Value} {os vs : List Int} (h : Lf w wr S C G Q cap0 L p O V os vs) (hP : Pl w S C G) (n : Int) (h2 : 0 ≤ n) (h3 : n ≤ 1000) (p0 : 0 ≤ p) (p1 : p ≤ 1000000) :
    Calls Tryd.prog 37 #[.pointer (some ⟨S, 0, none⟩), .pointer (some ⟨C, 0, none⟩), .int .i64 n] wr fun e w' => e = .returned (.tuple #[]) ∧ Lf w w' S C G Q cap0 L (p + n) O V os vs :=
  (column_any wr S C (sl G L.length cap0) p p n (sl G L.length cap0) O h.sc h.cx hP.sc p0 p1 h2 h3 p0 p1).mono fun e w' hh => progL h hP hh
theorem lineL {w wr : World} {S C G Q cap0 : Nat} {L : List Int} {p : Int} {O V : Value} {os vs : List Int} (h : Lf w wr S C G Q cap0 L p O V os vs) (hP : Pl w S C G) (p0 : 0 ≤ p) (p1 : p ≤ 1000000) :
    Calls Tryd.prog 39 #[.pointer (some ⟨S, 0, none⟩), .pointer (some ⟨C, 0, none⟩)] wr fun e w' => e = .returned (.tuple #[]) ∧ Lf w w' S C G Q cap0 L (p + 1) O V os vs :=
  (line_any wr S C (sl G L.length cap0) p p (sl G L.length cap0) O h.sc h.cx hP.sc p0 p1 p0 p1).mono fun e w' hh => progL h hP hh
theorem valL {w wr : World} {S C G Q cap0 : Nat} {L : List Int} {p : Int} {O V : Value} {os vs : List Int} (h : Lf w wr S C G Q cap0 L p O V os vs) (hP : Pl w S C G) (hT : Tabs wr) (i : Nat) (hi : i < L.length) (hl : L.length ≤ 65536) (hcap : L.length ≤ cap0) (hs : ∀ r ∈ L, Scalar r) (hm : NoMark (L.drop i)) (s c : Value) :
    Calls Tryd.prog 40 #[s, c, .slice (some ⟨G, i, none⟩) (L.length - i) (cap0 - i)] wr fun e w' => e = .returned .nilIface ∧ Lf w w' S C G Q cap0 L p O V os vs ∧ Below wr.heap.size wr w' := by
  have hd : (L.drop i).length = L.length - i := List.length_drop
  have := validate_any wr s c ⟨G, i, none⟩ (cap0 - i) (L.drop i) hT (by omega) (by omega) (fun j hj => by
    have e : (⟨G, i, none⟩ : Addr).add j = ⟨G, i + j, none⟩ := by unfold Addr.add; cases j <;> simp
    rw [e, h.rd (i + j) (by omega)]
    congr 2
    simp [List.getD]) (by omega) (fun r hr => hs r (List.mem_of_mem_drop hr)) hm
  rw [hd] at this
  exact this.mono fun e w' hh => ⟨hh.1, h.below hP hh.2, hh.2⟩
end Go.Proofs.YtgglhfbjbddjjaaDoor.ScLoop
