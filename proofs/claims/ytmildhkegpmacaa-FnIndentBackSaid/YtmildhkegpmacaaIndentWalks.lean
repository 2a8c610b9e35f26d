/- The walks of FnIndentBack: addIndentSpace and trimIndentSpace over any text without carriage returns, and the law. -/
import Derived.Test.YtmildhkegpmacaaIndentPure
import Derived.Test.YtmildhkegpmacaaShelf
import Derived.WalkKit
import Derived.Deep.LoopGhost
import Derived.Deep.QuietTactic
import Derived.BigQuiet
import Derived.WalkSpells
import Derived.WalkLawsBesides
namespace Go.Proofs.Ytmildhkegpmacaa.IndentWalks
open Go.RowKit Go.Proofs.Ytmildhkegpmacaa.PFnIndentBack Go.Proofs.YtmildhkegpmacaaW.PrintWords Go.Proofs.Ytmildhkegpmacaa.IndentPure
set_option linter.unusedVariables false
set_option linter.unusedSimpArgs false

theorem info9 : (Try.prog.info? 9).map (fun i => (i.zero, i.size, i.bytes)) = some (some (.string ⟨#[]⟩), 1, 16) := by kernel_rfl

theorem repeat_eq (n : Nat) : (⟨(Lib.repeatL [32] n).toArray⟩ : ByteArray) = ba (List.replicate n 32) := by
  unfold ba
  congr 2
  induction n with
  | zero => rfl
  | succ n ih => rw [List.replicate_succ, ← ih]; rfl

/-- What addIndentSpace makes of a line. -/
def indS (n : Nat) (x : ByteArray) : ByteArray := ba (ind n (B x))

theorem indS_empty (n : Nat) (x : ByteArray) (h : x.toList = []) : indS n x = x := by
  rw [ByteArray.toList_eq] at h
  refine eq_of_B ?_
  unfold indS
  rw [B_ba]
  show ind n (B x) = B x
  rw [show B x = [] from h]; rfl

theorem indS_full (n : Nat) (x P : ByteArray) (hP : P = ba (List.replicate n 32)) (h : x.toList ≠ []) : indS n x = P ++ x := by
  rw [ByteArray.toList_eq] at h
  refine eq_of_B ?_
  unfold indS
  rw [B_ba, ind, if_neg h, hP]
  show _ = (ba (List.replicate n 32) ++ x).data.toList
  rw [ByteArray.data_append, Array.toList_append]
  rfl

theorem take_map_succ (L : List ByteArray) (f : ByteArray → ByteArray) (k : Nat) (h : k < L.length) :
    ((L.map fun x => Value.string (f x)).take (k + 1)) = ((L.map fun x => Value.string (f x)).take k) ++ [Value.string (f (L.getD k ByteArray.empty))] := by
  rw [List.take_succ_eq_append_getElem (by simpa using h)]
  simp [List.getD, h]

theorem rdOf_nat (L : List ByteArray) (j : Nat) : rdOf ByteArray.empty L (j : Int) = L.getD j ByteArray.empty := by
  simp [rdOf]

theorem owns_cap {w : World} {base g n cap : Nat} {e : TypeId} {xs : List Value} (h : w.ownsRow base e 1 (.slice (some ⟨g, 0, none⟩) n cap) n xs) : n ≤ cap := by
  rcases h.2 with ⟨h', _⟩ | ⟨g', cap', cur, h', h2⟩
  · simp at h'
  · simp only [Value.slice.injEq, Option.some.injEq, Addr.mk.injEq, and_true, true_and] at h'
    obtain ⟨rfl, rfl⟩ := h'
    exact h2.2.2.1

theorem join_any (base g cap N : Nat) (xs : List ByteArray) (hN : xs.length = N) (w : World) (ho : w.ownsRow base 9 1 (.slice (some ⟨g, 0, none⟩) N cap) N (xs.map Value.string)) (hlt : g < w.heap.size) (hN2 : N ≤ 140737488355328)
    (ls : List (List UInt8)) (hls : xs.map (·.data.toList) = ls) (hlen : (joined ls).length ≤ 140737488355328) :
    Calls Try.prog 44 #[.slice (some ⟨g, 0, none⟩) N cap, .string ⟨#[10]⟩] w fun e w' => e = .returned (.string (ba (joined ls))) ∧ Below w.heap.size w w' := by
  subst hN
  subst hls
  refine (Try.strings_Join g 0 cap xs ⟨#[10]⟩ w ?_ hlt hN2 (owns_cap ho) hlen)
  intro j x hj
  have hj2 : j < xs.length := (List.getElem?_eq_some_iff.1 hj).1
  rw [Nat.zero_add, ho.cellAt j (by omega), List.getElem?_map, hj]
  rfl

set_option maxHeartbeats 2000000 in
set_option maxRecDepth 100000 in
theorem add_any (ad : Option Addr) (n : Nat) (s : ByteArray) (w : World) (hn0 : 1 ≤ n) (hn : n ≤ 200) (hs : s.size ≤ 2147483647) (hcr : (13 : UInt8) ∉ B s) :
    Calls Try.prog 33 #[.pointer ad, .int .i64 n, .string s, .bool false] w fun e w' => e = .returned (.string (ba (indented n (B s)))) ∧ Below w.heap.size w w' := by
  have HNORM := Aside0.mk (normal_f s (by omega) hcr (s.size + 3) (by omega))
  have HSPLIT := Aside0.mk (split_f s (by omega))
  have HCR := Aside0.mk hcr
  clear hcr
  obtain ⟨L, hL⟩ : ∃ L : List ByteArray, L = (lines (B s)).map ba := ⟨_, rfl⟩
  have hlen0 : 0 < L.length := by rw [hL]; simp; exact List.length_pos_iff.2 (lines_ne _)
  have hlen1 : L.length ≤ s.size + 1 := by rw [hL]; have := lines_length (B s); rw [B_length] at this; simpa using this
  have hmem : ∀ j, j < L.length → (L.getD j ByteArray.empty).size ≤ s.size := by
    intro j hj
    have hm : L.getD j ByteArray.empty ∈ L := by rw [show L.getD j ByteArray.empty = L[j] by simp [List.getD, hj]]; exact List.getElem_mem hj
    rw [hL] at hm
    obtain ⟨y, hy, hyx⟩ := List.mem_map.1 hm
    rw [← hL] at hyx
    rw [← hyx, ba_size, ← B_length]
    exact lines_len (B s) y hy
  have HMEM := Aside0.mk hmem
  clear hmem
  have HL := Aside0.mk hL
  clear hL
  obtain ⟨P, hP⟩ : ∃ P : ByteArray, P = ba (List.replicate n 32) := ⟨_, rfl⟩
  have hPs : P.size = n := by rw [hP, ba_size]; simp
  have hPs2 : P.size ≤ 200 := by omega
  have HP := Aside0.mk hP
  clear hP hPs
  obtain ⟨i0, hi, hz0, hz1, hz2⟩ := info_parts info9
  have HI := Aside0.mk (And.intro hi (And.intro hz0 (And.intro hz1 hz2)))
  clear hi hz0 hz1 hz2
  go_enter Try.func33, Try.ntmps33
  go_wp2_with fail
  refine (Try.strings_Repeat ⟨#[32]⟩ n _ (by omega) (by show 1 * n ≤ _; omega)).mono ?_
  rintro e w1 ⟨he, b1⟩
  rw [show (⟨(Lib.repeatL (⟨#[32]⟩ : ByteArray).data.toList n).toArray⟩ : ByteArray) = P from by rw [HP.out]; exact repeat_eq n] at he
  subst he
  have B1 := Aside0.mk b1
  clear b1
  go_wp2_with fail
  refine (format_normalizeNewLineChars.calls _ s s _ HNORM.out).mono ?_
  rintro e w2 ⟨rfl, b2⟩
  have B2 := Aside0.mk (B1.out.trans (b2.mono B1.out.size))
  clear b2
  go_wp2_with fail
  obtain ⟨ks, hks⟩ := HSPLIT.out
  rw [← HL.out] at hks
  refine (format_zzSplit.calls ks s ⟨#[10]⟩ L _ hks).mono ?_
  clear hks
  rintro e w3 ⟨v0, he, hR, b3⟩
  obtain ⟨g, cap, rfl, hg1, hg2, -⟩ := Kd.R_form hR hlen0
  subst he
  have B3 := Aside0.mk (B2.out.trans (b3.mono B2.out.size))
  clear b3
  have HCELL := Aside0.mk fun (j : Nat) (hj : j < L.length) => (Kd.R_cell ByteArray.empty hR (j : Int) (by omega) (by omega)).1
  clear hR hg1
  obtain ⟨N, hN⟩ : ∃ N, N = L.length := ⟨_, rfl⟩
  have HN := Aside0.mk hN
  rw [← hN] at hlen0 hlen1 ⊢
  clear hN
  go_wp2_with (at_make; refine wpList_make_own _ rfl _ _ 79 rfl w3.heap.size 9 i0 (.string ⟨#[]⟩) 1 Try.underlying79 HI.out.1 HI.out.2.1 HI.out.2.2.1 _ _ _ N rfl rfl (by omega) ?b2 ?b3 (Nat.le_refl _) ?_)
  case b2 => rw [HI.out.2.2.2]; omega
  case b3 => unfold maxLen; omega
  intro w4 hown0 hgrow0
  have B4 := Aside0.mk ((Below.refl w3.heap.size w3).grown hgrow0 (Nat.le_refl _) (fun k hk => by simp at hk))
  have HO := Aside0.mk hown0
  clear hgrow0 hown0
  go_wp2_with fail
  go_loopw [11, 27] (fun v i wr => ∃ k : Nat, k ≤ N ∧ i = .int .i64 k ∧ Aside0 (wr.ownsRow w3.heap.size 9 1 v k ((L.map fun x => Value.string (indS n x)).take k)) ∧ Aside0 (Below w3.heap.size w3 wr)) (fun _ i _ => N - (intOf i).toNat)
  case atStart => exact ⟨0, by omega, rfl, HO, B4⟩
  case round =>
    clear HO B4
    obtain ⟨k, hk, rfl, HO, B4⟩ := hrel
    by_cases hlt : k < N
    · have hc := (B4.out.cell (p := ⟨g, k, none⟩) hg2).trans (HCELL.out k (by have := HN.out; omega))
      rw [rdOf_nat] at hc
      have hm := HMEM.out k (by have := HN.out; omega)
      have hTS := Aside0.mk (take_map_succ L (indS n) k (by have := HN.out; omega))
      obtain ⟨x, hx⟩ : ∃ x, x = L.getD k ByteArray.empty := ⟨_, rfl⟩
      rw [← hx] at hc hm hTS
      clear hx
      by_cases hxe : x.toList = []
      · have hxs := Aside0.mk (indS_empty n x hxe)
        go_wp2_with (at_builtin; refine wpList_append_own _ rfl _ _ 79 rfl w3.heap.size 9 i0 (.string ⟨#[]⟩) 1 16 Try.underlying79 HI.out.1 HI.out.2.1 HI.out.2.2.1 HI.out.2.2.2 rfl (by decide) _ _ _ rfl (HO.out.alloc _) ⟨wr.heap.size, 0, none⟩ 1 1 [.string x] rfl rfl ?c1 ?c2 ?c3 ?c4 ?c5 ?_)
        case c1 =>
          intro j u hj
          match j, hj with
          | 0, hj => simp at hj; subst hj; simp [Addr.add]
        case c2 => intro u hu; simp at hu; subst hu; rfl
        case c3 => unfold maxLen; omega
        case c4 => omega
        case c5 => have := B4.out.size; simp; omega
        intro v' w5 hown' hgrow _
        have HO5 : Aside0 (w5.ownsRow w3.heap.size 9 1 v' (k + 1) ((L.map fun x => Value.string (indS n x)).take (k + 1))) := ⟨by rw [hTS.out, hxs.out]; exact hown'⟩
        have B5 := Aside0.mk ((B4.out.alloc B4.out.size _).grown hgrow (by have := B4.out.size; simp; omega) (fun k hk => own_base HO.out k hk))
        clear hown' hgrow HO B4 hTS hxs
        go_wp2
        go_roundw
        case rel => exact ⟨k + 1, by omega, by go_num, HO5, B5⟩
        case measure => simp [intOf]; omega
      · have hxs := Aside0.mk (indS_full n x P HP.out hxe)
        have hxe2 : x.toList.isEmpty = false := by simpa using hxe
        go_wp2_with (at_builtin; refine wpList_append_own _ rfl _ _ 79 rfl w3.heap.size 9 i0 (.string ⟨#[]⟩) 1 16 Try.underlying79 HI.out.1 HI.out.2.1 HI.out.2.2.1 HI.out.2.2.2 rfl (by decide) _ _ _ rfl (HO.out.alloc _) ⟨wr.heap.size, 0, none⟩ 1 1 [.string (P ++ x)] rfl rfl ?c1 ?c2 ?c3 ?c4 ?c5 ?_)
        case c1 =>
          intro j u hj
          match j, hj with
          | 0, hj => simp at hj; subst hj; simp [Addr.add]
        case c2 => intro u hu; simp at hu; subst hu; rfl
        case c3 => unfold maxLen; omega
        case c4 => omega
        case c5 => have := B4.out.size; simp; omega
        intro v' w5 hown' hgrow _
        have HO5 : Aside0 (w5.ownsRow w3.heap.size 9 1 v' (k + 1) ((L.map fun x => Value.string (indS n x)).take (k + 1))) := ⟨by rw [hTS.out, hxs.out]; exact hown'⟩
        have B5 := Aside0.mk ((B4.out.alloc B4.out.size _).grown hgrow (by have := B4.out.size; simp; omega) (fun k hk => own_base HO.out k hk))
        clear hown' hgrow HO B4 hTS hxs
        go_wp2
        go_roundw
        case rel => exact ⟨k + 1, by omega, by go_num, HO5, B5⟩
        case measure => simp [intOf]; omega
    · have hkN : k = N := by omega
      obtain ⟨g2, cap2, hu, hg3, hg4⟩ := HO.out.form (by omega)
      have HO2 : Aside0 (wr.ownsRow w3.heap.size 9 1 (.slice (some ⟨g2, 0, none⟩) N cap2) N (L.map fun x => Value.string (indS n x))) := by
        have h := HO.out
        rw [hu, hkN, List.take_of_length_le (by simp; have := HN.out; omega)] at h
        exact ⟨h⟩
      rw [hkN] at hu
      subst hu
      clear HMEM HI HO hg3 hkN
      have hls : (L.map (indS n)).map (·.data.toList) = (lines (B s)).map (ind n) := by
        rw [HL.out, List.map_map, List.map_map]
        rfl
      have HLS := Aside0.mk hls
      have hb5 := indented_length n (B s)
      have hb6 : (n + 1) * (B s).length ≤ 201 * 2147483647 := Nat.mul_le_mul (by omega) (by rw [B_length]; exact hs)
      have HB6 := Aside0.mk (show (joined ((lines (B s)).map (ind n))).length ≤ 140737488355328 from by unfold indented at hb5; omega)
      have HO3 : Aside0 (wr.ownsRow w3.heap.size 9 1 (.slice (some ⟨g2, 0, none⟩) N cap2) N ((L.map (indS n)).map Value.string)) := ⟨by rw [List.map_map]; exact HO2.out⟩
      clear hls hb5 hb6 HO2
      go_wp2_with fail
      refine (join_any w3.heap.size g2 cap2 N (L.map (indS n)) (by rw [List.length_map]; exact HN.out.symm) wr HO3.out hg4 (by omega) _ HLS.out HB6.out).mono ?_
      rintro e w6 ⟨rfl, b6⟩
      have B6 := Aside0.mk (B3.out.trans ((B4.out.mono B3.out.size).trans (b6.mono (Nat.le_trans B3.out.size B4.out.size))))
      clear b6
      go_wp2_with fail
      go_ret
      exact ⟨rfl, B6.out⟩
end Go.Proofs.Ytmildhkegpmacaa.IndentWalks
