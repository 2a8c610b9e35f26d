/- The walks of FnIndentBack, second part: trimIndentSpace, and the law. -/
import Derived.Test.YtmildhkegpmacaaIndentWalks
import Derived.Lib.OthersKept
namespace Go.Proofs.Ytmildhkegpmacaa.TrimWalks
open Go.RowKit Go.Proofs.Ytmildhkegpmacaa.PFnIndentBack Go.Proofs.YtmildhkegpmacaaW.PrintWords Go.Proofs.Ytmildhkegpmacaa.IndentPure Go.Proofs.Ytmildhkegpmacaa.IndentWalks
set_option linter.unusedVariables false
set_option linter.unusedSimpArgs false

set_option maxRecDepth 100000 in
theorem clo_space (k n bc bn : Nat) (w : World) (hk : k ≤ n) (hn : n ≤ 200) (hc : w.cell? ⟨bc, 0, none⟩ = some (.int .i64 k)) (hf : w.frozen? ⟨bc, 0, none⟩ = false) (hn2 : w.cell? ⟨bn, 0, none⟩ = some (.int .i64 n)) (hne : bc ≠ bn) :
    Calls Try.prog 43 #[.int .i32 32, .pointer (some ⟨bc, 0, none⟩), .pointer (some ⟨bn, 0, none⟩)] w fun e w' => e = .returned (.bool (decide ((k : Int) + 1 ≤ n))) ∧ w.setCell ⟨bc, 0, none⟩ (.int .i64 ((k : Int) + 1)) = w' := by
  go_enter Try.func43, Try.ntmps43
  go_wp2_with fail
  go_ret
  exact ⟨rfl, rfl⟩

set_option maxRecDepth 100000 in
theorem clo_other (c : Int) (k n bc bn : Nat) (w : World) (hk : k ≤ n) (hn : n ≤ 200) (hc0 : (c == 32) = false) (hc : w.cell? ⟨bc, 0, none⟩ = some (.int .i64 k)) (hf : w.frozen? ⟨bc, 0, none⟩ = false) (hn2 : w.cell? ⟨bn, 0, none⟩ = some (.int .i64 n)) (hne : bc ≠ bn) :
    Calls Try.prog 43 #[.int .i32 c, .pointer (some ⟨bc, 0, none⟩), .pointer (some ⟨bn, 0, none⟩)] w fun e w' => e = .returned (.bool false) ∧ w.setCell ⟨bc, 0, none⟩ (.int .i64 ((k : Int) + 1)) = w' := by
  go_enter Try.func43, Try.ntmps43
  go_wp2_with fail
  go_ret
  exact ⟨rfl, rfl⟩

/-- At the end of the spaces, whatever stands there. -/
theorem clo_last (c : Int) (n bc bn : Nat) (w : World) (hn : n ≤ 200) (hc : w.cell? ⟨bc, 0, none⟩ = some (.int .i64 n)) (hf : w.frozen? ⟨bc, 0, none⟩ = false) (hn2 : w.cell? ⟨bn, 0, none⟩ = some (.int .i64 n)) (hne : bc ≠ bn) :
    Calls Try.prog 43 #[.int .i32 c, .pointer (some ⟨bc, 0, none⟩), .pointer (some ⟨bn, 0, none⟩)] w fun e w' => e = .returned (.bool false) ∧ w.setCell ⟨bc, 0, none⟩ (.int .i64 ((n : Int) + 1)) = w' := by
  by_cases h : c = 32
  · subst h
    refine (clo_space n n bc bn w (Nat.le_refl _) hn hc hf hn2 hne).mono ?_
    rintro e w' ⟨rfl, h⟩
    exact ⟨by rw [decide_eq_false (show ¬ ((n : Int) + 1 ≤ n) by omega)], h⟩
  · exact clo_other c n n bc bn w (Nat.le_refl _) hn (by simpa using h) hc hf hn2 hne

theorem clo_more (k n bc bn : Nat) (w : World) (hk : k < n) (hn : n ≤ 200) (hc : w.cell? ⟨bc, 0, none⟩ = some (.int .i64 k)) (hf : w.frozen? ⟨bc, 0, none⟩ = false) (hn2 : w.cell? ⟨bn, 0, none⟩ = some (.int .i64 n)) (hne : bc ≠ bn) :
    Calls Try.prog 43 #[.int .i32 32, .pointer (some ⟨bc, 0, none⟩), .pointer (some ⟨bn, 0, none⟩)] w fun e w' => e = .returned (.bool true) ∧ w.setCell ⟨bc, 0, none⟩ (.int .i64 ((k : Int) + 1)) = w' := by
  refine (clo_space k n bc bn w (by omega) hn hc hf hn2 hne).mono ?_
  rintro e w' ⟨rfl, h⟩
  exact ⟨by rw [decide_eq_true (show (k : Int) + 1 ≤ n by omega)], h⟩

/-- What the calls of one line leave: the counter's block alone may have turned. -/
theorem idx_cells {w wr : World} {bc bn : Nat} (hb : Below bc w wr) (hbn : bn < bc) (v : Value) (h : w.cell? ⟨bn, 0, none⟩ = some v) : wr.cell? ⟨bn, 0, none⟩ = some v := (hb.cell (p := ⟨bn, 0, none⟩) hbn).trans h

theorem frozen_iterAt {w : World} {K bc : Nat} (h : bc < K) (s : ByteArray) (p : Nat) : (w.iterAt K s p).frozen? ⟨bc, 0, none⟩ = w.frozen? ⟨bc, 0, none⟩ :=
  (Lib.below_iterAt (Below.refl K w) (Nat.le_refl _) s p).frozen (p := ⟨bc, 0, none⟩) h
theorem cell_iterAt {w : World} {K bc : Nat} (h : bc < K) (s : ByteArray) (p : Nat) : (w.iterAt K s p).cell? ⟨bc, 0, none⟩ = w.cell? ⟨bc, 0, none⟩ :=
  (Lib.below_iterAt (Below.refl K w) (Nat.le_refl _) s p).cell (p := ⟨bc, 0, none⟩) h

set_option maxHeartbeats 1000000 in
set_option maxRecDepth 100000 in
theorem idx_any (n bc bn : Nat) (s : ByteArray) (w : World) (hn : n ≤ 200) (hlt : n < s.size) (hsp : ∀ j (h : j < n), (s[j]'(by omega)).toNat = 32) (hs : s.size ≤ 140737488351232)
    (hc : w.cell? ⟨bc, 0, none⟩ = some (.int .i64 0)) (hf : w.frozen? ⟨bc, 0, none⟩ = false) (hn2 : w.cell? ⟨bn, 0, none⟩ = some (.int .i64 n)) (hbn : bn < bc) (hbc : bc < w.heap.size) :
    Calls Try.prog 54 #[.string s, .func (.func 43) #[] #[.pointer (some ⟨bc, 0, none⟩), .pointer (some ⟨bn, 0, none⟩)], .bool false] w fun e w' => e = .returned (.int .i64 n) ∧ Below bc w w' := by
  have HSP := Aside0.mk hsp
  clear hsp
  go_enter Try.func54, Try.ntmps54
  go_wp2_with fail
  go_loopw [7] (fun _ wr => ∃ k : Nat, k ≤ n ∧ Aside0 (wr.heap[w.heap.size]? = some (.stringIter s k)) ∧ Aside0 (wr.cell? ⟨bc, 0, none⟩ = some (.int .i64 k)) ∧ Aside0 (wr.frozen? ⟨bc, 0, none⟩ = false) ∧ Aside0 (Below bc w wr)) (fun _ wr => n + 1 - wr.iterPos w.heap.size)
  case atStart =>
    have h1 := World.iter_heap w s 0
    have hb : Below w.heap.size w (w.iter s 0) := (Below.refl _ w).alloc (Nat.le_refl _) _
    exact ⟨0, by omega, ⟨h1⟩, ⟨(hb.cell (p := ⟨bc, 0, none⟩) hbc).trans hc⟩, ⟨(hb.frozen (p := ⟨bc, 0, none⟩) hbc).trans hf⟩, ⟨hb.mono (by omega)⟩⟩
  case round =>
    obtain ⟨k, hk, HIT, HC, HF, HB⟩ := hrel
    have hks : k < s.size := by omega
    have hsz : w.heap.size < wr.heap.size := (Array.getElem?_eq_some_iff.1 HIT.out).1
    by_cases hlt2 : k < n
    · have hd : Utf8.decode s k = (32, 1) := by
        have h32 := HSP.out k hlt2
        rw [decode_ascii s k hks (by omega), h32]
      have hnx : ∀ ty, (Instr.next (.pointer (some ⟨w.heap.size, 0, none⟩)) true ty).run Try.prog wr = .ok (.tuple #[.bool true, .int .i64 k, .int .i32 32]) (wr.iterAt w.heap.size s (k + 1)) := fun ty => by
        have h := Lib.run_next_any_at (P := Try.prog) wr w.heap.size s k ty HIT.out hks
        rw [hd] at h
        exact h
      obtain ⟨wi, hwi⟩ : ∃ wi, wi = wr.iterAt w.heap.size s (k + 1) := ⟨_, rfl⟩
      rw [← hwi] at hnx
      have h1 : wi.cell? ⟨bc, 0, none⟩ = some (.int .i64 k) := by rw [hwi, cell_iterAt hbc]; exact HC.out
      have h2 : wi.frozen? ⟨bc, 0, none⟩ = false := by rw [hwi, frozen_iterAt hbc]; exact HF.out
      have hbi : Below bc w wi := by rw [hwi]; exact Lib.below_iterAt HB.out (by omega) s (k + 1)
      have h3 := idx_cells hbi hbn _ hn2
      have hit2 : wi.heap[w.heap.size]? = some (.stringIter s (k + 1)) := by rw [hwi]; exact Lib.iterAt_heap wr w.heap.size s k (k + 1) HIT.out
      have HH1 := Aside0.mk h1
      have HH2 := Aside0.mk h2
      have HBI := Aside0.mk hbi
      have HIT2 := Aside0.mk hit2
      have CC := Aside0.mk (clo_more k n bc bn wi hlt2 hn h1 h2 h3 (by omega))
      have HMU : Aside0 (n + 1 - (wi.setCell ⟨bc, 0, none⟩ (.int .i64 ((k : Int) + 1))).iterPos w.heap.size < n + 1 - wr.iterPos w.heap.size) := by
        have e1 : (wi.setCell ⟨bc, 0, none⟩ (.int .i64 ((k : Int) + 1))).iterPos w.heap.size = k + 1 := by
          unfold World.iterPos
          rw [Below.heap_setCell _ _ _ _ (show w.heap.size ≠ bc by omega), hit2]
        have e2 : wr.iterPos w.heap.size = k := by unfold World.iterPos; rw [HIT.out]
        rw [e1, e2]
        exact ⟨by omega⟩
      clear h1 h2 h3 hbi hit2 hwi
      go_wp2_with (go_at_call 43; refine CC.out.mono ?_; rintro e w1 ⟨rfl, rfl⟩)
      go_roundw
      case rel =>
        refine ⟨k + 1, by omega, ⟨?_⟩, ⟨?_⟩, ⟨?_⟩, ⟨HBI.out.setCell (p := ⟨bc, 0, none⟩) (Nat.le_refl _) _⟩⟩
        · rw [Below.heap_setCell _ _ _ _ (show w.heap.size ≠ bc by omega)]; exact HIT2.out
        · exact World.cell?_setCell_same' _ _ _ (by rw [HH1.out]; rfl)
        · rw [World.frozen?_setCell]; exact HH2.out
      case measure => exact HMU.out
    · have hkn : k = n := by omega
      subst hkn
      obtain ⟨r, wd, hd⟩ : ∃ r wd, Utf8.decode s k = (r, wd) := ⟨_, _, rfl⟩
      have hnx : ∀ ty, (Instr.next (.pointer (some ⟨w.heap.size, 0, none⟩)) true ty).run Try.prog wr = .ok (.tuple #[.bool true, .int .i64 k, .int .i32 r]) (wr.iterAt w.heap.size s (k + wd)) := fun ty => by
        have h := Lib.run_next_any_at (P := Try.prog) wr w.heap.size s k ty HIT.out hks
        rw [hd] at h
        exact h
      clear hd
      obtain ⟨wi, hwi⟩ : ∃ wi, wi = wr.iterAt w.heap.size s (k + wd) := ⟨_, rfl⟩
      rw [← hwi] at hnx
      have h1 : wi.cell? ⟨bc, 0, none⟩ = some (.int .i64 k) := by rw [hwi, cell_iterAt hbc]; exact HC.out
      have h2 : wi.frozen? ⟨bc, 0, none⟩ = false := by rw [hwi, frozen_iterAt hbc]; exact HF.out
      have hbi : Below bc w wi := by rw [hwi]; exact Lib.below_iterAt HB.out (by omega) s (k + wd)
      have h3 := idx_cells hbi hbn _ hn2
      have HBI := Aside0.mk hbi
      have CC := Aside0.mk (clo_last (r : Int) k bc bn wi hn h1 h2 h3 (by omega))
      clear h1 h2 h3 hbi hwi
      go_wp2_with (go_at_call 43; refine CC.out.mono ?_; rintro e w1 ⟨rfl, rfl⟩)
      go_ret
      exact ⟨rfl, HBI.out.setCell (p := ⟨bc, 0, none⟩) (Nat.le_refl _) _⟩

theorem ret_str {a b : ByteArray} (h : a = b) : Ending.returned (.string a) = .returned (.string b) := by rw [h]

/-- At the empty text: -1. -/
theorem idx_empty (bc bn : Nat) (w : World) :
    Calls Try.prog 54 #[.string ⟨#[]⟩, .func (.func 43) #[] #[.pointer (some ⟨bc, 0, none⟩), .pointer (some ⟨bn, 0, none⟩)], .bool false] w fun e w' => e = .returned (.int .i64 (-1)) ∧ Below w.heap.size w w' := by
  have hnx : ∀ ty, (Instr.next (.pointer (some ⟨w.heap.size, 0, none⟩)) true ty).run Try.prog (w.iter ⟨#[]⟩ 0) = _ := fun ty => run_next_end w ⟨#[]⟩ 0 ty (by decide)
  go_enter Try.func54, Try.ntmps54
  go_wp2_with fail
  refine wp_loop_rounds 1 ?_
  rw [rounds_succ]
  go_wp2_with fail
  go_ret
  exact ⟨rfl, (Below.refl _ w).alloc (Nat.le_refl _) _⟩

set_option maxHeartbeats 1000000 in
set_option maxRecDepth 100000 in
theorem left_any (n bc bn : Nat) (x : List UInt8) (w : World) (hn0 : 1 ≤ n) (hn : n ≤ 200) (hx : x ≠ []) (hs : n + x.length ≤ 140737488351232)
    (hc : w.cell? ⟨bc, 0, none⟩ = some (.int .i64 0)) (hf : w.frozen? ⟨bc, 0, none⟩ = false) (hn2 : w.cell? ⟨bn, 0, none⟩ = some (.int .i64 n)) (hbn : bn < bc) (hbc : bc < w.heap.size) :
    Calls Try.prog 42 #[.string (ba (ind n x)), .func (.func 43) #[] #[.pointer (some ⟨bc, 0, none⟩), .pointer (some ⟨bn, 0, none⟩)]] w fun e w' => e = .returned (.string (ba x)) ∧ Below bc w w' := by
  have hxl : 0 < x.length := List.length_pos_iff.2 hx
  have hind : ind n x = List.replicate n 32 ++ x := by unfold ind; rw [if_neg hx]
  obtain ⟨s, hsd⟩ : ∃ s, s = ba (ind n x) := ⟨_, rfl⟩
  have hsize : s.size = n + x.length := by rw [hsd, ba_size, hind]; simp
  have hsp : ∀ j (h : j < n), (s[j]'(by omega)).toNat = 32 := by
    intro j h
    have e : s[j]'(by omega) = (ind n x)[j]'(by rw [hind]; simp; omega) := by subst hsd; rfl
    rw [e]
    simp [hind, List.getElem_append_left, h]
  have hex : s.extract n s.size = ba x := by
    refine eq_of_B ?_
    show (s.extract n s.size).data.toList = x
    rw [Lib.extract_data]
    have : s.data.toList = List.replicate n 32 ++ x := by rw [hsd]; exact hind
    rw [this, hsize]
    simp
  rw [← hsd]
  have II := Aside0.mk (idx_any n bc bn s w hn (by omega) hsp (by omega) hc hf hn2 hbn hbc)
  have HEX := Aside0.mk hex
  have hle : n ≤ s.size := by omega
  have hle2 : s.size ≤ 140737488351232 := by omega
  clear hsp hex hsize hsd hc hf hn2 hind
  go_enter Try.func42, Try.ntmps42
  go_wp2_with fail
  refine II.out.mono ?_
  rintro e w1 ⟨rfl, b1⟩
  have B1 := Aside0.mk b1
  clear b1
  go_wp2_with fail
  go_ret
  exact ⟨ret_str HEX.out, B1.out⟩

set_option maxHeartbeats 1000000 in
set_option maxRecDepth 100000 in
theorem left_empty (bc bn : Nat) (w : World) (hbc : bc < w.heap.size) :
    Calls Try.prog 42 #[.string ⟨#[]⟩, .func (.func 43) #[] #[.pointer (some ⟨bc, 0, none⟩), .pointer (some ⟨bn, 0, none⟩)]] w fun e w' => e = .returned (.string ⟨#[]⟩) ∧ Below bc w w' := by
  go_enter Try.func42, Try.ntmps42
  go_wp2_with fail
  refine (idx_empty bc bn w).mono ?_
  rintro e w1 ⟨rfl, b1⟩
  have B1 := Aside0.mk (b1.mono (Nat.le_of_lt hbc))
  clear b1
  go_wp2_with fail
  go_ret
  exact ⟨rfl, B1.out⟩

/-- A row of the call's own behind a line's calls. -/
theorem own_after {w w5 : World} {base n : Nat} {v : Value} {xs : List Value} {o : Obj} (h : w.ownsRow base 9 1 v n xs) (hb : Below w.heap.size (w.alloc o) w5) : w5.ownsRow base 9 1 v n xs :=
  own_move h (fun k hk => by have hl := own_lt h k hk; exact (hb.block k hl).trans (Below.heap_alloc w o k hl))

theorem take_map_ba (ls : List (List UInt8)) (k : Nat) (h : k < ls.length) :
    ((ls.map fun x => Value.string (ba x)).take (k + 1)) = ((ls.map fun x => Value.string (ba x)).take k) ++ [Value.string (ba (ls.getD k []))] := by
  rw [List.take_succ_eq_append_getElem (by simpa using h)]
  simp [List.getD, h]

set_option maxHeartbeats 2000000 in
set_option maxRecDepth 100000 in
theorem trim_any (ad : Option Addr) (n : Nat) (s : ByteArray) (ls : List (List UInt8)) (w : World) (hn0 : 1 ≤ n) (hn : n ≤ 200) (hs : s.size ≤ 8796093022000) (hcr : (13 : UInt8) ∉ B s) (hls : lines (B s) = ls.map (ind n)) (hjl : (joined ls).length ≤ 140737488355328) :
    Calls Try.prog 32 #[.pointer ad, .int .i64 n, .string s] w fun e w' => e = .returned (.string (ba (joined ls))) ∧ Below w.heap.size w w' := by
  have HNORM := Aside0.mk (normal_f s (by omega) hcr (s.size + 3) (by omega))
  have HSPLIT := Aside0.mk (split_f s (by omega))
  have HCR := Aside0.mk hcr
  have HLS := Aside0.mk hls
  have HJL := Aside0.mk hjl
  clear hcr hls hjl
  obtain ⟨L, hL⟩ : ∃ L : List ByteArray, L = (lines (B s)).map ba := ⟨_, rfl⟩
  have hlen0 : 0 < L.length := by rw [hL]; simp; exact List.length_pos_iff.2 (lines_ne _)
  have hlen1 : L.length ≤ s.size + 1 := by rw [hL]; have := lines_length (B s); rw [B_length] at this; simpa using this
  have hlen2 : L.length = ls.length := by rw [hL, HLS.out]; simp
  have HMEM := Aside0.mk fun j (hj : j < L.length) => (show L.getD j ByteArray.empty = ba (ind n (ls.getD j [])) ∧ (ind n (ls.getD j [])).length ≤ s.size from by
    have hjl : j < ls.length := by omega
    have e1 : L.getD j ByteArray.empty = ba (ind n (ls.getD j [])) := by
      rw [hL, HLS.out]; simp [List.getD, hjl]
    refine ⟨e1, ?_⟩
    have hm : ind n (ls.getD j []) ∈ lines (B s) := by
      rw [HLS.out]
      refine List.mem_map.2 ⟨_, ?_, rfl⟩
      simp [List.getD, hjl]
    have := lines_len (B s) _ hm
    rw [B_length] at this
    exact this)
  have HL := Aside0.mk hL
  have HLL := Aside0.mk hlen2
  clear hL hlen2
  obtain ⟨i0, hi, hz0, hz1, hz2⟩ := info_parts PFnIndentBack.info9
  have HI := Aside0.mk (And.intro hi (And.intro hz0 (And.intro hz1 hz2)))
  clear hi hz0 hz1 hz2
  go_enter Try.func32, Try.ntmps32
  go_wp2_with fail
  refine (format_normalizeNewLineChars.calls _ s s _ HNORM.out).mono ?_
  rintro e w2 ⟨rfl, b2⟩
  have B2 := Aside0.mk b2
  clear b2
  go_wp2_with fail
  obtain ⟨ks, hks⟩ := HSPLIT.out
  rw [← HL.out] at hks
  refine (format_zzSplit.calls ks s ⟨#[10]⟩ L _ hks).mono ?_
  clear hks
  rintro e w3 ⟨v0, he, hR, b3⟩
  obtain ⟨g, cap, rfl, hg1, hg2, -⟩ := Kd.R_form hR hlen0
  subst he
  have B3 := Aside0.mk (B2.out.trans (b3.mono B2.out.size))
  clear b3
  have HN3 : Aside0 (w3.cell? ⟨w.heap.size, 0, none⟩ = some (.int .i64 n)) := ⟨by
    rw [B3.out.cell (p := ⟨w.heap.size, 0, none⟩) (by simp)]
    simp⟩
  have hw3 : w.heap.size < w3.heap.size := by have := B3.out.size; simp at this; omega
  have BW := Aside0.mk (((Below.refl _ w).alloc (Nat.le_refl _) _).trans (B3.out.mono (by simp)))
  have HCELL := Aside0.mk fun (j : Nat) (hj : j < L.length) => (Kd.R_cell ByteArray.empty hR (j : Int) (by omega) (by omega)).1
  clear hR hg1 B2 B3
  obtain ⟨N, hN⟩ : ∃ N, N = L.length := ⟨_, rfl⟩
  have HN := Aside0.mk hN
  rw [← hN] at hlen0 hlen1 ⊢
  clear hN
  go_wp2_with (at_make; refine wpList_make_own _ rfl _ _ 79 rfl w3.heap.size 9 i0 (.string ⟨#[]⟩) 1 Try.underlying79 HI.out.1 HI.out.2.1 HI.out.2.2.1 _ _ _ N rfl rfl (by omega) ?b2 ?b3 (Nat.le_refl _) ?_)
  case b2 => rw [HI.out.2.2.2]; omega
  case b3 => unfold maxLen; omega
  intro w4 hown0 hgrow0
  have B4 := Aside0.mk ((Below.refl w3.heap.size w3).grown hgrow0 (Nat.le_refl _) (fun k hk => by simp at hk))
  have HO := Aside0.mk hown0
  clear hgrow0 hown0
  go_wp2_with fail
  go_loopw [8, 23] (fun v i wr => ∃ k : Nat, k ≤ N ∧ i = .int .i64 k ∧ Aside0 (wr.ownsRow w3.heap.size 9 1 v k ((ls.map fun x => Value.string (ba x)).take k)) ∧ Aside0 (Below w3.heap.size w3 wr)) (fun _ i _ => N - (intOf i).toNat)
  case atStart => exact ⟨0, by omega, rfl, HO, B4⟩
  case round =>
    clear HO B4
    obtain ⟨k, hk, rfl, HO, B4⟩ := hrel
    by_cases hlt : k < N
    · have hc := (B4.out.cell (p := ⟨g, k, none⟩) hg2).trans (HCELL.out k (by have := HN.out; omega))
      rw [rdOf_nat, (HMEM.out k (by have := HN.out; omega)).1] at hc
      have hm := (HMEM.out k (by have := HN.out; omega)).2
      have hTS := Aside0.mk (take_map_ba ls k (by have := HN.out; have := HLL.out; omega))
      obtain ⟨x, hx⟩ : ∃ x, x = ls.getD k [] := ⟨_, rfl⟩
      rw [← hx] at hc hm hTS
      clear hx
      have hsz := B4.out.size
      have hnc : (wr.alloc (.cells #[.int .i64 0] 3)).cell? ⟨w.heap.size, 0, none⟩ = some (.int .i64 n) := by
        have h1 := (B4.out.cell (p := ⟨w.heap.size, 0, none⟩) hw3).trans HN3.out
        exact (((Below.refl _ wr).alloc (Nat.le_refl _) (.cells #[.int .i64 0] 3)).cell (p := ⟨w.heap.size, 0, none⟩) (by show w.heap.size < _; omega)).trans h1
      have CC : Aside0 (Calls Try.prog 42 #[.string (ba (ind n x)), .func (.func 43) #[] #[.pointer (some ⟨wr.heap.size, 0, none⟩), .pointer (some ⟨w.heap.size, 0, none⟩)]] (wr.alloc (.cells #[.int .i64 0] 3)) fun e w' => e = .returned (.string (ba x)) ∧ Below wr.heap.size (wr.alloc (.cells #[.int .i64 0] 3)) w') := ⟨by
        by_cases hx : x = []
        · subst hx
          exact left_empty _ _ _ (by simp)
        · have hil : (ind n x).length = n + x.length := by unfold ind; rw [if_neg hx]; simp
          exact left_any n _ _ x _ hn0 hn hx (by omega) (by simp) (by simp) hnc (by omega) (by simp)⟩
      obtain ⟨ln, hln⟩ : ∃ ln, ln = ba (ind n x) := ⟨_, rfl⟩
      rw [← hln] at hc CC
      clear hnc hm hln
      go_wp2_with (first | (go_at_call 42; refine CC.out.mono ?_; rintro e w5 ⟨rfl, b5⟩; have B5 := Aside0.mk b5; clear b5; have HO5 := Aside0.mk (own_after HO.out B5.out)) | (at_builtin; refine wpList_append_own _ rfl _ _ 79 rfl w3.heap.size 9 i0 (.string ⟨#[]⟩) 1 16 Try.underlying79 HI.out.1 HI.out.2.1 HI.out.2.2.1 HI.out.2.2.2 rfl (by decide) _ _ _ rfl (HO5.out.alloc _) ⟨w5.heap.size, 0, none⟩ 1 1 [.string (ba x)] rfl rfl ?c1 ?c2 ?c3 ?c4 ?c5 ?_))
      case c1 =>
        intro j u hj
        match j, hj with
        | 0, hj => simp at hj; subst hj; simp [Addr.add]
      case c2 => intro u hu; simp at hu; subst hu; rfl
      case c3 => unfold maxLen; omega
      case c4 => omega
      case c5 => have h1 := B5.out.size; simp at h1 ⊢; omega
      intro v' w6 hown' hgrow _
      have hb5 : Below w3.heap.size w3 w5 := (B4.out.alloc hsz _).trans (B5.out.mono hsz)
      have HO6 : Aside0 (w6.ownsRow w3.heap.size 9 1 v' (k + 1) ((ls.map fun x => Value.string (ba x)).take (k + 1))) := ⟨by rw [hTS.out]; exact hown'⟩
      have B6 := Aside0.mk ((hb5.alloc hb5.size _).grown hgrow (by have := hb5.size; simp; omega) (fun k hk => own_base HO.out k hk))
      clear hown' hgrow HO B4 hTS HO5 B5 hb5
      go_wp2
      go_roundw
      case rel => exact ⟨k + 1, by omega, by go_num, HO6, B6⟩
      case measure => simp [intOf]; omega
    · have hkN : k = N := by omega
      obtain ⟨g2, cap2, hu, hg3, hg4⟩ := HO.out.form (by omega)
      have HO2 : Aside0 (wr.ownsRow w3.heap.size 9 1 (.slice (some ⟨g2, 0, none⟩) N cap2) N ((ls.map ba).map Value.string)) := by
        have h := HO.out
        rw [hu, hkN, List.take_of_length_le (by simp; have := HN.out; have := HLL.out; omega)] at h
        rw [List.map_map]
        exact ⟨h⟩
      rw [hkN] at hu
      subst hu
      clear HMEM HI HO hg3 hkN
      have HLS2 : Aside0 ((ls.map ba).map (·.data.toList) = ls) := ⟨by rw [List.map_map]; exact (List.map_congr_left (fun x _ => rfl)).trans (List.map_id ls)⟩
      go_wp2_with fail
      refine (join_any w3.heap.size g2 cap2 N (ls.map ba) (by rw [List.length_map]; have := HN.out; have := HLL.out; omega) wr HO2.out hg4 (by omega) _ HLS2.out HJL.out).mono ?_
      rintro e w6 ⟨rfl, b6⟩
      have B6 := Aside0.mk (BW.out.trans ((B4.out.mono (by omega)).trans (b6.mono (by have := B4.out.size; omega))))
      clear b6
      go_wp2_with fail
      go_ret
      exact ⟨rfl, B6.out⟩

set_option maxRecDepth 100000 in
theorem zzout_any (n : Nat) (s : ByteArray) (ls : List (List UInt8)) (w : World) (hn0 : 1 ≤ n) (hn : n ≤ 200) (hs : s.size ≤ 8796093022000) (hcr : (13 : UInt8) ∉ B s) (hls : lines (B s) = ls.map (ind n)) (hjl : (joined ls).length ≤ 140737488355328) :
    Calls Try.prog 22 #[.int .i64 n, .string s] w fun e w' => e = .returned (.string (ba (joined ls))) ∧ Below w.heap.size w w' := by
  have C := Aside0.mk fun ad wx => trim_any ad n s ls wx hn0 hn hs hcr hls hjl
  clear hcr hls
  go_enter Try.func22, Try.ntmps22
  go_wp2_with fail
  refine (C.out _ _).mono ?_
  rintro e w1 ⟨rfl, b1⟩
  have B1 := Aside0.mk (((Below.refl _ w).alloc (Nat.le_refl _) _).trans (b1.mono (by simp)))
  clear b1
  go_wp2_with fail
  go_ret
  exact ⟨rfl, B1.out⟩

set_option maxRecDepth 100000 in
theorem out_any (n : Nat) (s : ByteArray) (ls : List (List UInt8)) (w : World) (hn0 : 1 ≤ n) (hn : n ≤ 200) (hs : s.size ≤ 8796093022000) (hcr : (13 : UInt8) ∉ B s) (hls : lines (B s) = ls.map (ind n)) (hjl : (joined ls).length ≤ 140737488355328) :
    Calls Try.prog 13 #[.string s, .int .i64 n] w fun e w' => e = .returned (.string (ba (joined ls))) ∧ Below w.heap.size w w' := by
  have C := Aside0.mk fun wx => zzout_any n s ls wx hn0 hn hs hcr hls hjl
  have S := Aside0.mk (show impl_small.f (n : Int) = some (n : Int) by unfold impl_small.f; rw [if_neg (by omega), if_neg (by omega)])
  clear hcr hls
  go_enter Try.func13, Try.ntmps13
  go_wp2_with fail
  refine (impl_small.calls _ _ _ S.out).mono ?_
  rintro e w1 ⟨rfl, ⟨m1, rfl⟩⟩
  go_wp2_with fail
  refine (C.out _).mono ?_
  rintro e w2 ⟨rfl, b1⟩
  have B1 := Aside0.mk ((Drawn0.below ⟨⟨m1, rfl⟩⟩ : Below w.heap.size w (w.drewN m1)).trans b1)
  clear b1
  go_wp2_with fail
  go_ret
  exact ⟨rfl, B1.out⟩

set_option maxRecDepth 100000 in
theorem zzin_any (n : Nat) (s : ByteArray) (w : World) (hn0 : 1 ≤ n) (hn : n ≤ 200) (hs : s.size ≤ 2147483647) (hcr : (13 : UInt8) ∉ B s) :
    Calls Try.prog 24 #[.int .i64 n, .string s, .bool false] w fun e w' => e = .returned (.string (ba (indented n (B s)))) ∧ Below w.heap.size w w' := by
  have C := Aside0.mk fun ad wx => add_any ad n s wx hn0 hn hs hcr
  clear hcr
  go_enter Try.func24, Try.ntmps24
  go_wp2_with fail
  refine (C.out _ _).mono ?_
  rintro e w1 ⟨rfl, b1⟩
  have B1 := Aside0.mk (((Below.refl _ w).alloc (Nat.le_refl _) _).trans (b1.mono (by simp)))
  clear b1
  go_wp2_with fail
  go_ret
  exact ⟨rfl, B1.out⟩

set_option maxRecDepth 100000 in
theorem in_any (n : Nat) (s : ByteArray) (w : World) (hn0 : 1 ≤ n) (hn : n ≤ 200) (hs : s.size ≤ 2147483647) (hcr : (13 : UInt8) ∉ B s) :
    Calls Try.prog 14 #[.string s, .int .i64 n, .bool false] w fun e w' => e = .returned (.string (ba (indented n (B s)))) ∧ Below w.heap.size w w' := by
  have C := Aside0.mk fun wx => zzin_any n s wx hn0 hn hs hcr
  have S := Aside0.mk (show impl_small.f (n : Int) = some (n : Int) by unfold impl_small.f; rw [if_neg (by omega), if_neg (by omega)])
  clear hcr
  go_enter Try.func14, Try.ntmps14
  go_wp2_with fail
  refine (impl_small.calls _ _ _ S.out).mono ?_
  rintro e w1 ⟨rfl, ⟨m1, rfl⟩⟩
  go_wp2_with fail
  refine (C.out _).mono ?_
  rintro e w2 ⟨rfl, b1⟩
  have B1 := Aside0.mk ((Drawn0.below ⟨⟨m1, rfl⟩⟩ : Below w.heap.size w (w.drewN m1)).trans b1)
  clear b1
  go_wp2_with fail
  go_ret
  exact ⟨rfl, B1.out⟩

/-! ### no indentation at all: the text as it is -/
set_option maxRecDepth 100000 in
theorem in_zero (s : ByteArray) (w : World) :
    Calls Try.prog 14 #[.string s, .int .i64 0, .bool false] w fun e w' => e = .returned (.string s) ∧ Below w.heap.size w w' := by
  go_enter Try.func14, Try.ntmps14
  go_wp2_with fail
  refine (impl_small.calls 0 0 _ rfl).mono ?_
  rintro e w1 ⟨rfl, ⟨m1, rfl⟩⟩
  go_wp2_with go_in
  go_ret
  exact ⟨rfl, by repeat (first | exact Below.refl _ _ | (with_reducible first | apply below_alloc | apply pw_below_drewN))⟩

set_option maxRecDepth 100000 in
theorem out_zero (s : ByteArray) (w : World) :
    Calls Try.prog 13 #[.string s, .int .i64 0] w fun e w' => e = .returned (.string s) ∧ Below w.heap.size w w' := by
  go_enter Try.func13, Try.ntmps13
  go_wp2_with fail
  refine (impl_small.calls 0 0 _ rfl).mono ?_
  rintro e w1 ⟨rfl, ⟨m1, rfl⟩⟩
  go_wp2_with go_in
  go_ret
  exact ⟨rfl, by repeat (first | exact Below.refl _ _ | (with_reducible first | apply below_alloc | apply pw_below_drewN))⟩
end Go.Proofs.Ytmildhkegpmacaa.TrimWalks
