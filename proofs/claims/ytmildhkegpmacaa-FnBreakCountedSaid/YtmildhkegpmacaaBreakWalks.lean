/- The walks of FnBreakCounted: newLineCount over any row of runes, ZzBreaks and Breaks over any string, and the law. For texts of at most 140737488351232 bytes, as each row has it. -/
import Derived.Test.YtmildhkegpmacaaBreakPure
import Derived.WalkKit
import Derived.Deep.LoopGhost
import Derived.Deep.QuietTactic
import Derived.BigQuiet
namespace Go.Proofs.Ytmildhkegpmacaa.BreakWalks
open Go.RowKit Go.Proofs.Ytmildhkegpmacaa.PFnBreakCounted Go.Proofs.YtmildhkegpmacaaW.PrintWords Go.Proofs.Ytmildhkegpmacaa.Runes Go.Proofs.Ytmildhkegpmacaa.BreakPure
set_option linter.unusedVariables false
set_option linter.unusedSimpArgs false

theorem ret_int {k : IntKind} {a b : Int} (h : a = b) : Ending.returned (.int k a) = .returned (.int k b) := by rw [h]

theorem drop_cons (zs : List Int) (k : Nat) (h : k < zs.length) : zs.drop k = zs.getD k 0 :: zs.drop (k + 1) := by
  rw [List.drop_eq_getElem_cons h]; simp [List.getD, h]

theorem step_crlf (zs : List Int) (k m c : Nat) (h : k + 1 < zs.length) (h0 : (zs.getD k 0 == 13) = true) (h1 : (zs.getD (k + 1) 0 == 10) = true) (hc : m + cnt false (zs.drop k) = c) : (m + 1) + cnt false (zs.drop (k + 2)) = c := by
  rw [drop_cons zs k (by omega), drop_cons zs (k + 1) h, eq_of_beq h0, eq_of_beq h1] at hc
  have e : zs.drop (k + 1 + 1) = zs.drop (k + 2) := rfl
  rw [e] at hc
  simp only [cnt] at hc
  simp at hc
  omega
theorem step_cr (zs : List Int) (k m c : Nat) (h : k < zs.length) (h0 : (zs.getD k 0 == 13) = true) (h1 : k + 1 < zs.length → (zs.getD (k + 1) 0 == 10) = false) (hc : m + cnt false (zs.drop k) = c) : (m + 1) + cnt false (zs.drop (k + 1)) = c := by
  rw [drop_cons zs k h, eq_of_beq h0] at hc
  have e : cnt true (zs.drop (k + 1)) = cnt false (zs.drop (k + 1)) := by
    refine cnt_true _ fun x hx hx2 => ?_
    by_cases hk : k + 1 < zs.length
    · rw [drop_cons zs (k + 1) hk] at hx
      have := h1 hk
      simp only [List.head?_cons, Option.mem_def, Option.some.injEq] at hx
      rw [hx, hx2] at this
      simp at this
    · rw [List.drop_eq_nil_of_le (by omega)] at hx; simp at hx
  simp [cnt] at hc
  omega
theorem step_lf (zs : List Int) (k m c : Nat) (h : k < zs.length) (h0 : (zs.getD k 0 == 10) = true) (hc : m + cnt false (zs.drop k) = c) : (m + 1) + cnt false (zs.drop (k + 1)) = c := by
  rw [drop_cons zs k h, eq_of_beq h0] at hc
  simp [cnt] at hc
  omega
theorem step_no (zs : List Int) (k m c : Nat) (h : k < zs.length) (h0 : (zs.getD k 0 == 13) = false) (h1 : (zs.getD k 0 == 10) = false) (hc : m + cnt false (zs.drop k) = c) : m + cnt false (zs.drop (k + 1)) = c := by
  rw [drop_cons zs k h] at hc
  have a : zs.getD k 0 ≠ 13 := by simpa using h0
  have b : zs.getD k 0 ≠ 10 := by simpa using h1
  simp only [cnt, a, b, if_false, false_and, decide_false] at hc
  omega

set_option maxHeartbeats 1000000 in
set_option maxRecDepth 100000 in
theorem nlc_any (ad : Option Addr) (b off cap : Nat) (zs : List Int) (w : World) (hn : zs.length ≤ 140737488351232)
    (hcell : ∀ j, j < zs.length → w.cell? ⟨b, off + j, none⟩ = some (.int .i32 (zs.getD j 0))) :
    Calls Try.prog 31 #[.pointer ad, .slice (some ⟨b, off, none⟩) zs.length cap] w fun e w' => e = .returned (.int .i64 (cnt false zs)) ∧ Drawn0 w w' := by
  obtain ⟨n, hnl⟩ : ∃ n, n = zs.length := ⟨_, rfl⟩
  rw [← hnl] at hn hcell ⊢
  have HN := Aside0.mk hnl
  obtain ⟨g, hg⟩ : ∃ g : Nat → Int, g = fun j => zs.getD j 0 := ⟨_, rfl⟩
  have hgj : ∀ j, zs.getD j 0 = g j := fun j => by rw [hg]
  have HC0 := Aside0.mk fun j (h : j < n) => (hgj j) ▸ hcell j h
  have HG := Aside0.mk hgj
  clear hnl hg hgj hcell
  go_enter Try.func31, Try.ntmps31
  go_wp2
  go_loopw [6, 7] (fun c i wr => ∃ k m : Nat, k ≤ n ∧ i = .int .i64 k ∧ c = .int .i64 m ∧ m ≤ k ∧ Aside0 (m + cnt false (zs.drop k) = cnt false zs) ∧ Drawn0 w wr) (fun _ i _ => n - (intOf i).toNat)
  case atStart => exact ⟨0, 0, by omega, rfl, rfl, by omega, ⟨by simp⟩, Drawn0.refl _⟩
  case round =>
    obtain ⟨k, m, hk, rfl, rfl, hm, HC, ⟨nq, rfl⟩⟩ := hrel
    by_cases hlt : k < n
    · have hc0 := HC0.out k hlt
      cases h13 : (g k == 13) with
      | true =>
        by_cases hl1 : k + 1 < n
        · have hc1 := HC0.out (k + 1) hl1
          cases h10 : (g (k + 1) == 10) with
          | true =>
            have S := Aside0.mk (step_crlf zs k m _ (by have := HN.out; omega) (by rw [HG.out]; exact h13) (by rw [HG.out]; exact h10) HC.out)
            go_wp2
            go_roundw
            case rel => exact ⟨k + 2, m + 1, by omega, by go_num, by go_num, by omega, S, ⟨nq, rfl⟩⟩
            case measure => simp [intOf]; omega
          | false =>
            have S := Aside0.mk (step_cr zs k m _ (by have := HN.out; omega) (by rw [HG.out]; exact h13) (fun _ => by rw [HG.out]; exact h10) HC.out)
            go_wp2
            go_roundw
            case rel => exact ⟨k + 1, m + 1, by omega, by go_num, by go_num, by omega, S, ⟨nq, rfl⟩⟩
            case measure => simp [intOf]; omega
        · have S := Aside0.mk (step_cr zs k m _ (by have := HN.out; omega) (by rw [HG.out]; exact h13) (fun h => absurd h (by have := HN.out; omega)) HC.out)
          go_wp2
          go_roundw
          case rel => exact ⟨k + 1, m + 1, by omega, by go_num, by go_num, by omega, S, ⟨nq, rfl⟩⟩
          case measure => simp [intOf]; omega
      | false =>
        cases h10 : (g k == 10) with
        | true =>
          have S := Aside0.mk (step_lf zs k m _ (by have := HN.out; omega) (by rw [HG.out]; exact h10) HC.out)
          go_wp2
          go_roundw
          case rel => exact ⟨k + 1, m + 1, by omega, by go_num, by go_num, by omega, S, ⟨nq, rfl⟩⟩
          case measure => simp [intOf]; omega
        | false =>
          have S := Aside0.mk (step_no zs k m _ (by have := HN.out; omega) (by rw [HG.out]; exact h13) (by rw [HG.out]; exact h10) HC.out)
          go_wp2
          go_roundw
          case rel => exact ⟨k + 1, m, by omega, by go_num, by go_num, by omega, S, ⟨nq, rfl⟩⟩
          case measure => simp [intOf]; omega
    · have E : (m : Int) = cnt false zs := by
        have := HC.out
        rw [List.drop_eq_nil_of_le (by have := HN.out; omega)] at this
        simp [cnt] at this
        omega
      have HE := Aside0.mk E
      clear E
      go_wp2
      go_ret
      exact ⟨ret_int HE.out, ⟨⟨nq, rfl⟩⟩⟩

theorem runes_cells (s : ByteArray) (w : World) (C : Array Value) (t : TypeId) (j : Nat) (hj : j < (runes s s.size 0).length) :
    (w.alloc (.cells (Conv.runesFrom s s.size 0 #[] ++ C) t)).cell? ⟨w.heap.size, 0 + j, none⟩ = some (.int .i32 ((runes s s.size 0).getD j 0)) := by
  have h : (w.alloc (.cells (Conv.runesFrom s s.size 0 #[] ++ C) t)).cell? ⟨w.heap.size, j, none⟩ = (Conv.runesFrom s s.size 0 #[] ++ C)[j]? := World.cell?_alloc_mark w _ t _ j
  rw [Nat.zero_add, h, runesFrom_eq, Array.getElem?_append_left (by simpa using hj)]
  simp [hj]

theorem runes_size (s : ByteArray) : (Conv.runesFrom s s.size 0 #[]).size = (runes s s.size 0).length := by
  rw [runesFrom_eq]; simp

theorem runes_at (s : ByteArray) (w : World) (o : Obj) (C : Array Value) (t : TypeId) (j : Nat) (hj : j < (runes s s.size 0).length) :
    ((w.alloc o).alloc (.cells (Conv.runesFrom s s.size 0 #[] ++ C) t)).drew.cell? ⟨w.heap.size + 1, 0 + j, none⟩ = some (.int .i32 ((runes s s.size 0).getD j 0)) := by
  have h := runes_cells s (w.alloc o) C t j hj
  have e : (w.alloc o).heap.size = w.heap.size + 1 := by simp
  rw [e] at h
  exact h

theorem below_two (w w1 : World) (o o' : Obj) (h : Drawn0 ((w.alloc o).alloc o').drew w1) : Below w.heap.size w w1 := by
  refine ((((Below.refl _ w).alloc (Nat.le_refl _) o).alloc (by simp) o').drew).trans (h.below.mono ?_)
  show _ ≤ (((w.alloc o).alloc o').heap.size)
  simp; omega

set_option maxHeartbeats 1000000 in
set_option maxRecDepth 100000 in
theorem zzbreaks_any (s : ByteArray) (w : World) (hs : s.size ≤ 70368744177664) :
    Calls Try.prog 19 #[.string s] w fun e w' => e = .returned (.int .i64 (breaks s)) ∧ Below w.heap.size w w' := by
  have hl := runes_length s s.size 0
  have hrc := fun wx => run_runes_of_string (P := Try.prog) wx 9 56 21 s Try.underlying9 Try.underlying56 Try.underlying21 (by rw [runes_size]; omega)
  rw [runes_size] at hrc
  go_enter Try.func19, Try.ntmps19
  go_wp2_with fail
  clear hrc
  refine (nlc_any _ _ 0 _ _ _ (by omega) (fun j hj => runes_at s w _ _ _ j hj)).mono ?_
  rintro e w1 ⟨rfl, h1⟩
  have hb := Aside0.mk (below_two _ _ _ _ h1)
  clear h1
  go_wp2_with fail
  go_ret
  exact ⟨rfl, hb.out⟩

set_option maxHeartbeats 1000000 in
set_option maxRecDepth 100000 in
theorem breaks_any (s : ByteArray) (w : World) (hs : s.size ≤ 70368744177664) :
    Calls Try.prog 9 #[.string s] w fun e w' => e = .returned (.int .i64 (breaks s)) ∧ Below w.heap.size w w' := by
  go_enter Try.func9, Try.ntmps9
  go_wp2_with fail
  refine (zzbreaks_any s _ hs).mono ?_
  rintro e w1 ⟨rfl, h1⟩
  have hb := Aside0.mk h1
  clear h1
  go_wp2_with fail
  go_ret
  exact ⟨rfl, hb.out⟩

theorem nl_step (s : ByteArray) (k m c : Nat) (h : k < s.size) (hc : m + nl (bytesAt s k) = c) : m + (if ((s[k]'h).toNat : Int) = 10 then 1 else 0) + nl (bytesAt s (k + 1)) = c := by
  rw [bytesAt_cons s k h] at hc
  simp only [nl] at hc
  omega

set_option maxHeartbeats 2000000 in
set_option maxRecDepth 100000 in
theorem law_any (s : ByteArray) (w : World) (hs : s.size ≤ 140737488351232) :
    Calls Try.prog 3 #[.string s] w fun e w' => e = .returned (.bool true) ∧ Below w.heap.size w w' := by
  by_cases hbig : 2147483647 < s.size
  · go_enter Try.func3, Try.ntmps3
    go_wp2_with fail
    go_ret
    exact ⟨rfl, Below.refl _ _⟩
  · obtain ⟨kh, hh⟩ := has_cr s (by omega)
    have HH := Aside0.mk hh
    clear hh
    by_cases hcr : (13 : Int) ∈ bytesAt s 0
    · have HH2 : Aside0 (spec_Has.f kh s ⟨#[13]⟩ = some true) := ⟨by rw [HH.out]; simp [hcr]⟩
      clear HH
      have HCR := Aside0.mk hcr
      clear hcr
      go_enter Try.func3, Try.ntmps3
      go_wp2_with fail
      refine (spec_Has.calls kh _ _ _ _ HH2.out).mono ?_
      rintro e w1 ⟨rfl, ⟨m1, rfl⟩⟩
      go_wp2_with fail
      go_ret
      exact ⟨rfl, Drawn0.below ⟨⟨m1, rfl⟩⟩⟩
    · have HH2 : Aside0 (spec_Has.f kh s ⟨#[13]⟩ = some false) := ⟨by rw [HH.out]; simp [hcr]⟩
      clear HH
      have HCR := Aside0.mk hcr
      clear hcr
      have HB0 := Aside0.mk (breaks_plain s HCR.out)
      have HB1 := Aside0.mk (breaks_broken true s HCR.out)
      have HB2 := Aside0.mk (breaks_broken false s HCR.out)
      have HZ1 := broken_size true s
      have HZ2 := broken_size false s
      have HF1 := Aside0.mk (broken_f true s (by omega))
      have HF2 := Aside0.mk (broken_f false s (by omega))
      go_enter Try.func3, Try.ntmps3
      go_wp2_with fail
      refine (spec_Has.calls kh _ _ _ _ HH2.out).mono ?_
      rintro e w1 ⟨rfl, ⟨m1, rfl⟩⟩
      go_wp2_with fail
      go_loopw [3, 4] (fun c i wr => ∃ k m : Nat, k ≤ s.size ∧ i = .int .i64 k ∧ c = .int .i64 m ∧ m ≤ k ∧ Aside0 (m + nl (bytesAt s k) = nl (bytesAt s 0)) ∧ Drawn0 w wr) (fun _ i _ => s.size - (intOf i).toNat)
      case atStart => exact ⟨0, 0, by omega, rfl, rfl, by omega, ⟨by simp⟩, ⟨⟨m1, rfl⟩⟩⟩
      case round =>
        obtain ⟨k, m, hk, rfl, rfl, hm, HC, ⟨nq, rfl⟩⟩ := hrel
        by_cases hlt : k < s.size
        · have S := Aside0.mk (nl_step s k m _ hlt HC.out)
          cases h10 : (((s[k]'hlt).toNat : Int) == 10) with
          | true =>
            have S2 : Aside0 ((m + 1) + nl (bytesAt s (k + 1)) = nl (bytesAt s 0)) := ⟨by have := S.out; rw [if_pos (eq_of_beq h10)] at this; exact this⟩
            clear S
            go_wp2
            go_roundw
            case rel => exact ⟨k + 1, m + 1, by omega, by go_num, by go_num, by omega, S2, ⟨⟨nq, rfl⟩⟩⟩
            case measure => simp [intOf]; omega
          | false =>
            have S2 : Aside0 (m + nl (bytesAt s (k + 1)) = nl (bytesAt s 0)) := ⟨by have := S.out; rw [if_neg (by simpa using h10)] at this; exact this⟩
            clear S
            go_wp2
            go_roundw
            case rel => exact ⟨k + 1, m, by omega, by go_num, by go_num, by omega, S2, ⟨⟨nq, rfl⟩⟩⟩
            case measure => simp [intOf]; omega
        · have hm2 : m = nl (bytesAt s 0) := by
            have := HC.out
            rw [bytesAt_end s k hlt] at this
            simpa [nl] using this
          have HM := Aside0.mk hm2
          clear hm2
          go_wp2_with fail
          refine (breaks_any s _ (by omega)).mono ?_
          rintro e w1 ⟨he, h1⟩
          rw [HB0.out, ← HM.out] at he
          subst he
          have b1 := Aside0.mk ((Drawn0.below ⟨⟨nq, rfl⟩⟩ : Below w.heap.size w (w.drewN nq)).trans h1)
          clear h1
          go_wp2_with fail
          obtain ⟨k1, hk1⟩ := HF1.out
          refine (spec_Broken.calls k1 s true _ _ hk1).mono ?_
          clear hk1
          rintro e w2 ⟨rfl, h2⟩
          have b2 := Aside0.mk (b1.out.trans (h2.mono b1.out.size))
          clear h2
          go_wp2_with fail
          refine (breaks_any (broken true s) _ (by omega)).mono ?_
          rintro e w3 ⟨he, h3⟩
          rw [HB1.out, ← HM.out] at he
          subst he
          have b3 := Aside0.mk (b2.out.trans (h3.mono b2.out.size))
          clear h3
          go_wp2_with fail
          obtain ⟨k2, hk2⟩ := HF2.out
          refine (spec_Broken.calls k2 s false _ _ hk2).mono ?_
          clear hk2
          rintro e w4 ⟨rfl, h4⟩
          have b4 := Aside0.mk (b3.out.trans (h4.mono b3.out.size))
          clear h4
          go_wp2_with fail
          refine (breaks_any (broken false s) _ (by omega)).mono ?_
          rintro e w5 ⟨he, h5⟩
          rw [HB2.out, ← HM.out] at he
          subst he
          have b5 := Aside0.mk (b4.out.trans (h5.mono b4.out.size))
          clear h5
          go_wp2_with fail
          go_ret
          exact ⟨rfl, b5.out⟩
end Go.Proofs.Ytmildhkegpmacaa.BreakWalks
