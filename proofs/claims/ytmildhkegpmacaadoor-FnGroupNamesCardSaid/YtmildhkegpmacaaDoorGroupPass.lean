/- FnGroupNames: the passes over tokens that stay as they are. -/
import Derived.Test.YtmildhkegpmacaaDoorGroupBase
import Derived.OwnWalk
import Derived.Laws.OwnMore
namespace Go.Proofs.YtmildhkegpmacaaDoor.GroupPass
open Go.RowKit Go.Proofs.YtmildhkegpmacaaDoorW.PrintWords Go.Proofs.YtmildhkegpmacaaDoor.GroupBase
set_option linter.unusedVariables false
set_option linter.unusedSimpArgs false

theorem info121 : (Tryd.prog.info? 121).map (fun i => (i.zero, i.size, i.bytes)) = some (some (.pointer none), 1, 8) := by kernel_rfl

def ptr (p : Nat) : Value := .pointer (some ⟨p, 0, none⟩)
/-- A row of pointers. -/
def RowP (w : World) (b : Nat) (ps : List Nat) : Prop := ∀ i, (h : i < ps.length) → w.cell? ⟨b, i, none⟩ = some (.pointer (some ⟨ps[i], 0, none⟩))
theorem RowP.below {w w1 : World} {b : Nat} {ps : List Nat} (h : RowP w b ps) (hb : Below w.heap.size w w1) : RowP w1 b ps := fun i hi => pw_cell_below hb (h i hi)

theorem ptr_oneCell (p : Nat) : ∀ u ∈ [ptr p], u.oneCell' = true := by
  intro u hu
  simp at hu; subst hu; rfl
theorem cell_one (w : World) (v : Value) (T : TypeId) : ∀ (j : Nat) (u : Value), [v][j]? = some u → (w.alloc (.cells #[v] T)).cell? (Addr.add ⟨w.heap.size, 0, none⟩ j) = some u := by
  intro j u h
  match j, h with
  | 0, h =>
    simp at h; subst h
    have := blk_cell (blk_new w (.cells #[v] T)) 0
    simp [Addr.add]

theorem row_of_own {w : World} {base g n cap : Nat} {ps : List Nat} (hn : n = ps.length) (h : w.ownsRow base 121 1 (.slice (some ⟨g, 0, none⟩) n cap) n (ps.map ptr)) : RowP w g ps := by
  intro i hi
  rw [h.cellAt i (by omega)]
  simp [hi, ptr]

theorem take_own {w : World} {base k n : Nat} {v : Value} {ps : List Nat} {p : Nat} (hk : k < ps.length) (hp : p = ps[k]) (h : w.ownsRow base 121 1 v n ((ps.take k).map ptr ++ [ptr p])) : w.ownsRow base 121 1 v n ((ps.take (k + 1)).map ptr) := by
  have e : (ps.take (k + 1)).map ptr = (ps.take k).map ptr ++ [ptr p] := by
    rw [List.take_succ_eq_append_getElem hk, List.map_append, hp]; rfl
  rw [e]; exact h

def Passed2 (n : Nat) (ps : List Nat) (w : World) (e : Ending) (w' : World) : Prop := ∃ b', e = .returned (.tuple #[.slice (some ⟨b', 0, none⟩) n n, .nilIface]) ∧ RowP w' b' ps ∧ Below w.heap.size w w'
def Passed1 (n : Nat) (ps : List Nat) (w : World) (e : Ending) (w' : World) : Prop := ∃ b', e = .returned (.slice (some ⟨b', 0, none⟩) n n) ∧ RowP w' b' ps ∧ Below w.heap.size w w'

set_option maxHeartbeats 1000000 in
set_option maxRecDepth 100000 in
theorem pass70 (w : World) (b n c : Nat) (ps : List Nat) (hn : n = ps.length) (h100 : n ≤ 100) (hr : RowP w b ps)
    (hA : ∀ p ∈ ps, ∃ ty : Int, (ty ≠ 16 ∧ ty ≠ 17) ∧ Ans 107 (.int .i64 ty) w p) :
    Calls Tryd.prog 70 #[.slice (some ⟨b, 0, none⟩) n c] w (Passed2 n ps w) := by
  obtain ⟨i0, hi, hz0, hz1, hz2⟩ := info_parts info121
  have HR := Aside0.mk hr
  have HA := Aside0.mk hA
  have HN := Aside0.mk hn
  clear hr hA hn
  go_enter Tryd.func70, Tryd.ntmps70
  go_wp2_with (at_make; refine wpList_make_own _ rfl _ _ 73 rfl w.heap.size 121 i0 (.pointer none) 1 Tryd.underlying73 hi hz0 hz1 .i64 .i64 _ n rfl rfl rfl (by rw [hz2]; omega) (by unfold maxLen; omega) (Nat.le_refl _) ?_; intro w0 hown0 hgrow0)
  go_loopw [4, 5] (fun out si wr => ∃ k : Nat, k ≤ n ∧ si = .int .i64 k ∧ out = .slice (some ⟨w.heap.size, 0, none⟩) k n ∧
      wr.ownsRow w.heap.size 121 1 (.slice (some ⟨w.heap.size, 0, none⟩) k n) k ((ps.take k).map ptr) ∧ Below w.heap.size w wr) (fun _ si _ => n - (intOf si).toNat)
  case atStart => exact ⟨0, Nat.zero_le _, rfl, rfl, by simpa using hown0, (Below.refl _ _).grown hgrow0 (Nat.le_refl _) (fun k h => by cases h)⟩
  case round =>
    obtain ⟨k, hk, rfl, rfl, hown, hb⟩ := hrel
    have HB := Aside0.mk hb
    have HOWN := Aside0.mk hown
    clear hown
    by_cases hlt : k < n
    · have hkl : k < ps.length := by rw [← HN.out]; exact hlt
      have hx := pw_cell_below hb (HR.out k hkl)
      obtain ⟨p, hp⟩ : ∃ p, p = ps[k] := ⟨_, rfl⟩
      rw [← hp] at hx
      obtain ⟨ty, hty, ha⟩ := HA.out p (by rw [hp]; exact List.getElem_mem _)
      have HQ := Aside0.mk (ha.below hb)
      have HP := Aside0.mk hp
      have t16 : (ty == 16) = false := by simpa using hty.1
      have t17 : (ty == 17) = false := by simpa using hty.2
      clear hb hp ha hty
      go_wp2_with (first
        | (go_at_call 107; refine HQ.out.now.mono ?_; rintro e w' ⟨rfl, rfl⟩)
        | (at_builtin; refine wpList_append_fits _ rfl (.tmp 24) (.tmp 26) 73 rfl w.heap.size 121 i0 1 Tryd.underlying73 hi hz1 w.heap.size k n _ rfl (HOWN.out.alloc _) ⟨wr.heap.size, 0, none⟩ 1 1 [ptr p] rfl rfl (cell_one _ _ _) (ptr_oneCell p) (by omega) ?_; intro w1 hown1 hgrow1))
      go_roundw
      case rel => exact ⟨k + 1, by omega, by go_num, rfl, take_own hkl HP.out hown1, ((HB.out.alloc HB.out.size _).grown hgrow1 (by simp; have := HB.out.size; omega) (fun k hk => by cases hk; exact Nat.le_refl _))⟩
      case measure => simp [intOf]; omega
    · obtain rfl : k = n := by omega
      clear hb
      go_wp2
      go_ret2
      have ho := HOWN.out
      rw [List.take_of_length_le (by rw [← HN.out]; exact Nat.le_refl _)] at ho
      exact ⟨_, rfl, row_of_own HN.out ho, HB.out⟩
set_option maxHeartbeats 1000000 in
set_option maxRecDepth 100000 in
theorem pass69 (w : World) (b n c : Nat) (ps : List Nat) (hn : n = ps.length) (h100 : n ≤ 100) (hr : RowP w b ps)
    (hA : ∀ p ∈ ps, ∃ ty : Int, ty ≠ 12 ∧ Ans 107 (.int .i64 ty) w p) :
    Calls Tryd.prog 69 #[.slice (some ⟨b, 0, none⟩) n c] w (Passed1 n ps w) := by
  obtain ⟨i0, hi, hz0, hz1, hz2⟩ := info_parts info121
  have HR := Aside0.mk hr
  have HA := Aside0.mk hA
  have HN := Aside0.mk hn
  clear hr hA hn
  go_enter Tryd.func69, Tryd.ntmps69
  go_wp2_with (at_make; refine wpList_make_own _ rfl _ _ 73 rfl w.heap.size 121 i0 (.pointer none) 1 Tryd.underlying73 hi hz0 hz1 .i64 .i64 _ n rfl rfl rfl (by rw [hz2]; omega) (by unfold maxLen; omega) (Nat.le_refl _) ?_; intro w0 hown0 hgrow0)
  go_loopw [3, 4] (fun out si wr => ∃ k : Nat, k ≤ n ∧ si = .int .i64 k ∧ out = .slice (some ⟨w.heap.size, 0, none⟩) k n ∧
      wr.ownsRow w.heap.size 121 1 (.slice (some ⟨w.heap.size, 0, none⟩) k n) k ((ps.take k).map ptr) ∧ Below w.heap.size w wr) (fun _ si _ => n - (intOf si).toNat)
  case atStart => exact ⟨0, Nat.zero_le _, rfl, rfl, by simpa using hown0, (Below.refl _ _).grown hgrow0 (Nat.le_refl _) (fun k h => by cases h)⟩
  case round =>
    obtain ⟨k, hk, rfl, rfl, hown, hb⟩ := hrel
    have HB := Aside0.mk hb
    have HOWN := Aside0.mk hown
    clear hown
    by_cases hlt : k < n
    · have hkl : k < ps.length := by rw [← HN.out]; exact hlt
      have hx := pw_cell_below hb (HR.out k hkl)
      obtain ⟨p, hp⟩ : ∃ p, p = ps[k] := ⟨_, rfl⟩
      rw [← hp] at hx
      obtain ⟨ty, hty, ha⟩ := HA.out p (by rw [hp]; exact List.getElem_mem _)
      have HQ := Aside0.mk (ha.below hb)
      have HP := Aside0.mk hp
      have t1 : (ty == 12) = false := by simpa using hty
      have t2 : (ty != 12) = true := by simpa using hty
      clear hb hp ha hty
      go_wp2_with (first
        | (go_at_call 107; refine HQ.out.now.mono ?_; rintro e w' ⟨rfl, rfl⟩)
        | (at_builtin; refine wpList_append_fits _ rfl (.tmp 21) (.tmp 23) 73 rfl w.heap.size 121 i0 1 Tryd.underlying73 hi hz1 w.heap.size k n _ rfl (HOWN.out.alloc _) ⟨wr.heap.size, 0, none⟩ 1 1 [ptr p] rfl rfl (cell_one _ _ _) (ptr_oneCell p) (by omega) ?_; intro w1 hown1 hgrow1))
      go_roundw
      case rel => exact ⟨k + 1, by omega, by go_num, rfl, take_own hkl HP.out hown1, ((HB.out.alloc HB.out.size _).grown hgrow1 (by simp; have := HB.out.size; omega) (fun k hk => by cases hk; exact Nat.le_refl _))⟩
      case measure => simp [intOf]; omega
    · obtain rfl : k = n := by omega
      clear hb
      go_wp2
      go_ret
      have ho := HOWN.out
      rw [List.take_of_length_le (by rw [← HN.out]; exact Nat.le_refl _)] at ho
      exact ⟨_, rfl, row_of_own HN.out ho, HB.out⟩
set_option maxHeartbeats 1000000 in
set_option maxRecDepth 100000 in
theorem pass72 (w : World) (b n c : Nat) (ps : List Nat) (hn : n = ps.length) (h100 : n ≤ 100) (hr : RowP w b ps)
    (hA : ∀ p ∈ ps, ∃ ty : Int, ty ≠ 15 ∧ Ans 107 (.int .i64 ty) w p) :
    Calls Tryd.prog 72 #[.slice (some ⟨b, 0, none⟩) n c] w (Passed2 n ps w) := by
  obtain ⟨i0, hi, hz0, hz1, hz2⟩ := info_parts info121
  have HR := Aside0.mk hr
  have HA := Aside0.mk hA
  have HN := Aside0.mk hn
  clear hr hA hn
  go_enter Tryd.func72, Tryd.ntmps72
  go_wp2_with (at_make; refine wpList_make_own _ rfl _ _ 73 rfl w.heap.size 121 i0 (.pointer none) 1 Tryd.underlying73 hi hz0 hz1 .i64 .i64 _ n rfl rfl rfl (by rw [hz2]; omega) (by unfold maxLen; omega) (Nat.le_refl _) ?_; intro w0 hown0 hgrow0)
  go_loopw [4, 5] (fun out si wr => ∃ k : Nat, k ≤ n ∧ si = .int .i64 k ∧ out = .slice (some ⟨w.heap.size, 0, none⟩) k n ∧
      wr.ownsRow w.heap.size 121 1 (.slice (some ⟨w.heap.size, 0, none⟩) k n) k ((ps.take k).map ptr) ∧ Below w.heap.size w wr) (fun _ si _ => n - (intOf si).toNat)
  case atStart => exact ⟨0, Nat.zero_le _, rfl, rfl, by simpa using hown0, (Below.refl _ _).grown hgrow0 (Nat.le_refl _) (fun k h => by cases h)⟩
  case round =>
    obtain ⟨k, hk, rfl, rfl, hown, hb⟩ := hrel
    have HB := Aside0.mk hb
    have HOWN := Aside0.mk hown
    clear hown
    by_cases hlt : k < n
    · have hkl : k < ps.length := by rw [← HN.out]; exact hlt
      have hx := pw_cell_below hb (HR.out k hkl)
      obtain ⟨p, hp⟩ : ∃ p, p = ps[k] := ⟨_, rfl⟩
      rw [← hp] at hx
      obtain ⟨ty, hty, ha⟩ := HA.out p (by rw [hp]; exact List.getElem_mem _)
      have HQ := Aside0.mk (ha.below hb)
      have HP := Aside0.mk hp
      have t1 : (ty == 15) = false := by simpa using hty
      have t2 : (ty != 15) = true := by simpa using hty
      clear hb hp ha hty
      go_wp2_with (first
        | (go_at_call 107; refine HQ.out.now.mono ?_; rintro e w' ⟨rfl, rfl⟩)
        | (at_builtin; refine wpList_append_fits _ rfl (.tmp 24) (.tmp 26) 73 rfl w.heap.size 121 i0 1 Tryd.underlying73 hi hz1 w.heap.size k n _ rfl (HOWN.out.alloc _) ⟨wr.heap.size, 0, none⟩ 1 1 [ptr p] rfl rfl (cell_one _ _ _) (ptr_oneCell p) (by omega) ?_; intro w1 hown1 hgrow1))
      go_roundw
      case rel => exact ⟨k + 1, by omega, by go_num, rfl, take_own hkl HP.out hown1, ((HB.out.alloc HB.out.size _).grown hgrow1 (by simp; have := HB.out.size; omega) (fun k hk => by cases hk; exact Nat.le_refl _))⟩
      case measure => simp [intOf]; omega
    · obtain rfl : k = n := by omega
      clear hb
      go_wp2
      go_ret2
      have ho := HOWN.out
      rw [List.take_of_length_le (by rw [← HN.out]; exact Nat.le_refl _)] at ho
      exact ⟨_, rfl, row_of_own HN.out ho, HB.out⟩
set_option maxHeartbeats 1000000 in
set_option maxRecDepth 100000 in
theorem pass73 (w : World) (b n c : Nat) (ps : List Nat) (hn : n = ps.length) (h100 : n ≤ 100) (hr : RowP w b ps)
    (hA : ∀ p ∈ ps, ∃ ty : Int, ty ≠ 6 ∧ Ans 113 (.int .i64 ty) w p) :
    Calls Tryd.prog 73 #[.slice (some ⟨b, 0, none⟩) n c] w (Passed2 n ps w) := by
  obtain ⟨i0, hi, hz0, hz1, hz2⟩ := info_parts info121
  have HR := Aside0.mk hr
  have HA := Aside0.mk hA
  have HN := Aside0.mk hn
  clear hr hA hn
  go_enter Tryd.func73, Tryd.ntmps73
  go_wp2_with (at_make; refine wpList_make_own _ rfl _ _ 73 rfl w.heap.size 121 i0 (.pointer none) 1 Tryd.underlying73 hi hz0 hz1 .i64 .i64 _ n rfl rfl rfl (by rw [hz2]; omega) (by unfold maxLen; omega) (Nat.le_refl _) ?_; intro w0 hown0 hgrow0)
  go_loopw [4, 5] (fun out si wr => ∃ k : Nat, k ≤ n ∧ si = .int .i64 k ∧ out = .slice (some ⟨w.heap.size, 0, none⟩) k n ∧
      wr.ownsRow w.heap.size 121 1 (.slice (some ⟨w.heap.size, 0, none⟩) k n) k ((ps.take k).map ptr) ∧ Below w.heap.size w wr) (fun _ si _ => n - (intOf si).toNat)
  case atStart => exact ⟨0, Nat.zero_le _, rfl, rfl, by simpa using hown0, (Below.refl _ _).grown hgrow0 (Nat.le_refl _) (fun k h => by cases h)⟩
  case round =>
    obtain ⟨k, hk, rfl, rfl, hown, hb⟩ := hrel
    have HB := Aside0.mk hb
    have HOWN := Aside0.mk hown
    clear hown
    by_cases hlt : k < n
    · have hkl : k < ps.length := by rw [← HN.out]; exact hlt
      have hx := pw_cell_below hb (HR.out k hkl)
      obtain ⟨p, hp⟩ : ∃ p, p = ps[k] := ⟨_, rfl⟩
      rw [← hp] at hx
      obtain ⟨ty, hty, ha⟩ := HA.out p (by rw [hp]; exact List.getElem_mem _)
      have HQ := Aside0.mk (ha.below hb)
      have HP := Aside0.mk hp
      have t1 : (ty == 6) = false := by simpa using hty
      have t2 : (ty != 6) = true := by simpa using hty
      clear hb hp ha hty
      go_wp2_with (first
        | (go_at_call 113; refine HQ.out.now.mono ?_; rintro e w' ⟨rfl, rfl⟩)
        | (at_builtin; refine wpList_append_fits _ rfl (.tmp 23) (.tmp 25) 73 rfl w.heap.size 121 i0 1 Tryd.underlying73 hi hz1 w.heap.size k n _ rfl (HOWN.out.alloc _) ⟨wr.heap.size, 0, none⟩ 1 1 [ptr p] rfl rfl (cell_one _ _ _) (ptr_oneCell p) (by omega) ?_; intro w1 hown1 hgrow1))
      go_roundw
      case rel => exact ⟨k + 1, by omega, by go_num, rfl, take_own hkl HP.out hown1, ((HB.out.alloc HB.out.size _).grown hgrow1 (by simp; have := HB.out.size; omega) (fun k hk => by cases hk; exact Nat.le_refl _))⟩
      case measure => simp [intOf]; omega
    · obtain rfl : k = n := by omega
      clear hb
      go_wp2
      go_ret2
      have ho := HOWN.out
      rw [List.take_of_length_le (by rw [← HN.out]; exact Nat.le_refl _)] at ho
      exact ⟨_, rfl, row_of_own HN.out ho, HB.out⟩
set_option maxHeartbeats 1000000 in
set_option maxRecDepth 100000 in
theorem pass115 (w : World) (b n c : Nat) (ps : List Nat) (hn : n = ps.length) (h100 : n ≤ 100) (hr : RowP w b ps)
    (hA : ∀ p ∈ ps, ∃ ty : Int, ty ≠ 4 ∧ Ans 107 (.int .i64 ty) w p) :
    Calls Tryd.prog 115 #[.slice (some ⟨b, 0, none⟩) n c] w (Passed2 n ps w) := by
  obtain ⟨i0, hi, hz0, hz1, hz2⟩ := info_parts info121
  have HR := Aside0.mk hr
  have HA := Aside0.mk hA
  have HN := Aside0.mk hn
  clear hr hA hn
  go_enter Tryd.func115, Tryd.ntmps115
  go_wp2_with (at_make; refine wpList_make_own _ rfl _ _ 73 rfl w.heap.size 121 i0 (.pointer none) 1 Tryd.underlying73 hi hz0 hz1 .i64 .i64 _ n rfl rfl rfl (by rw [hz2]; omega) (by unfold maxLen; omega) (Nat.le_refl _) ?_; intro w0 hown0 hgrow0)
  go_loopw [4, 5] (fun out si wr => ∃ k : Nat, k ≤ n ∧ si = .int .i64 k ∧ out = .slice (some ⟨w.heap.size, 0, none⟩) k n ∧
      wr.ownsRow w.heap.size 121 1 (.slice (some ⟨w.heap.size, 0, none⟩) k n) k ((ps.take k).map ptr) ∧ Below w.heap.size w wr) (fun _ si _ => n - (intOf si).toNat)
  case atStart => exact ⟨0, Nat.zero_le _, rfl, rfl, by simpa using hown0, (Below.refl _ _).grown hgrow0 (Nat.le_refl _) (fun k h => by cases h)⟩
  case round =>
    obtain ⟨k, hk, rfl, rfl, hown, hb⟩ := hrel
    have HB := Aside0.mk hb
    have HOWN := Aside0.mk hown
    clear hown
    by_cases hlt : k < n
    · have hkl : k < ps.length := by rw [← HN.out]; exact hlt
      have hx := pw_cell_below hb (HR.out k hkl)
      obtain ⟨p, hp⟩ : ∃ p, p = ps[k] := ⟨_, rfl⟩
      rw [← hp] at hx
      obtain ⟨ty, hty, ha⟩ := HA.out p (by rw [hp]; exact List.getElem_mem _)
      have HQ := Aside0.mk (ha.below hb)
      have HP := Aside0.mk hp
      have t1 : (ty == 4) = false := by simpa using hty
      have t2 : (ty != 4) = true := by simpa using hty
      clear hb hp ha hty
      go_wp2_with (first
        | (go_at_call 107; refine HQ.out.now.mono ?_; rintro e w' ⟨rfl, rfl⟩)
        | (at_builtin; refine wpList_append_fits _ rfl (.tmp 22) (.tmp 24) 73 rfl w.heap.size 121 i0 1 Tryd.underlying73 hi hz1 w.heap.size k n _ rfl (HOWN.out.alloc _) ⟨wr.heap.size, 0, none⟩ 1 1 [ptr p] rfl rfl (cell_one _ _ _) (ptr_oneCell p) (by omega) ?_; intro w1 hown1 hgrow1))
      go_roundw
      case rel => exact ⟨k + 1, by omega, by go_num, rfl, take_own hkl HP.out hown1, ((HB.out.alloc HB.out.size _).grown hgrow1 (by simp; have := HB.out.size; omega) (fun k hk => by cases hk; exact Nat.le_refl _))⟩
      case measure => simp [intOf]; omega
    · obtain rfl : k = n := by omega
      clear hb
      go_wp2
      go_ret2
      have ho := HOWN.out
      rw [List.take_of_length_le (by rw [← HN.out]; exact Nat.le_refl _)] at ho
      exact ⟨_, rfl, row_of_own HN.out ho, HB.out⟩
set_option maxHeartbeats 1000000 in
set_option maxRecDepth 100000 in
theorem pass116 (w : World) (b n c : Nat) (ps : List Nat) (hn : n = ps.length) (h100 : n ≤ 100) (hr : RowP w b ps)
    (hA : ∀ p ∈ ps, ∃ ty : Int, ty ≠ 5 ∧ Ans 107 (.int .i64 ty) w p) :
    Calls Tryd.prog 116 #[.slice (some ⟨b, 0, none⟩) n c] w (Passed2 n ps w) := by
  obtain ⟨i0, hi, hz0, hz1, hz2⟩ := info_parts info121
  have HR := Aside0.mk hr
  have HA := Aside0.mk hA
  have HN := Aside0.mk hn
  clear hr hA hn
  go_enter Tryd.func116, Tryd.ntmps116
  go_wp2_with (at_make; refine wpList_make_own _ rfl _ _ 73 rfl w.heap.size 121 i0 (.pointer none) 1 Tryd.underlying73 hi hz0 hz1 .i64 .i64 _ n rfl rfl rfl (by rw [hz2]; omega) (by unfold maxLen; omega) (Nat.le_refl _) ?_; intro w0 hown0 hgrow0)
  go_loopw [4, 5] (fun out si wr => ∃ k : Nat, k ≤ n ∧ si = .int .i64 k ∧ out = .slice (some ⟨w.heap.size, 0, none⟩) k n ∧
      wr.ownsRow w.heap.size 121 1 (.slice (some ⟨w.heap.size, 0, none⟩) k n) k ((ps.take k).map ptr) ∧ Below w.heap.size w wr) (fun _ si _ => n - (intOf si).toNat)
  case atStart => exact ⟨0, Nat.zero_le _, rfl, rfl, by simpa using hown0, (Below.refl _ _).grown hgrow0 (Nat.le_refl _) (fun k h => by cases h)⟩
  case round =>
    obtain ⟨k, hk, rfl, rfl, hown, hb⟩ := hrel
    have HB := Aside0.mk hb
    have HOWN := Aside0.mk hown
    clear hown
    by_cases hlt : k < n
    · have hkl : k < ps.length := by rw [← HN.out]; exact hlt
      have hx := pw_cell_below hb (HR.out k hkl)
      obtain ⟨p, hp⟩ : ∃ p, p = ps[k] := ⟨_, rfl⟩
      rw [← hp] at hx
      obtain ⟨ty, hty, ha⟩ := HA.out p (by rw [hp]; exact List.getElem_mem _)
      have HQ := Aside0.mk (ha.below hb)
      have HP := Aside0.mk hp
      have t1 : (ty == 5) = false := by simpa using hty
      have t2 : (ty != 5) = true := by simpa using hty
      clear hb hp ha hty
      go_wp2_with (first
        | (go_at_call 107; refine HQ.out.now.mono ?_; rintro e w' ⟨rfl, rfl⟩)
        | (at_builtin; refine wpList_append_fits _ rfl (.tmp 24) (.tmp 26) 73 rfl w.heap.size 121 i0 1 Tryd.underlying73 hi hz1 w.heap.size k n _ rfl (HOWN.out.alloc _) ⟨wr.heap.size, 0, none⟩ 1 1 [ptr p] rfl rfl (cell_one _ _ _) (ptr_oneCell p) (by omega) ?_; intro w1 hown1 hgrow1))
      go_roundw
      case rel => exact ⟨k + 1, by omega, by go_num, rfl, take_own hkl HP.out hown1, ((HB.out.alloc HB.out.size _).grown hgrow1 (by simp; have := HB.out.size; omega) (fun k hk => by cases hk; exact Nat.le_refl _))⟩
      case measure => simp [intOf]; omega
    · obtain rfl : k = n := by omega
      clear hb
      go_wp2
      go_ret2
      have ho := HOWN.out
      rw [List.take_of_length_le (by rw [← HN.out]; exact Nat.le_refl _)] at ho
      exact ⟨_, rfl, row_of_own HN.out ho, HB.out⟩
set_option maxHeartbeats 1000000 in
set_option maxRecDepth 100000 in
theorem pass75 (w : World) (b n c : Nat) (ps : List Nat) (hn : n = ps.length) (h100 : n ≤ 100) (hr : RowP w b ps)
    (hA : ∀ p ∈ ps, ∃ ty : Int, ty ≠ 11 ∧ Ans 113 (.int .i64 ty) w p) :
    Calls Tryd.prog 75 #[.slice (some ⟨b, 0, none⟩) n c] w (Passed1 n ps w) := by
  obtain ⟨i0, hi, hz0, hz1, hz2⟩ := info_parts info121
  have HR := Aside0.mk hr
  have HA := Aside0.mk hA
  have HN := Aside0.mk hn
  clear hr hA hn
  go_enter Tryd.func75, Tryd.ntmps75
  go_wp2_with (at_make; refine wpList_make_own _ rfl _ _ 73 rfl w.heap.size 121 i0 (.pointer none) 1 Tryd.underlying73 hi hz0 hz1 .i64 .i64 _ n rfl rfl rfl (by rw [hz2]; omega) (by unfold maxLen; omega) (Nat.le_refl _) ?_; intro w0 hown0 hgrow0)
  go_loopw [3, 4] (fun out si wr => ∃ k : Nat, k ≤ n ∧ si = .int .i64 k ∧ out = .slice (some ⟨w.heap.size, 0, none⟩) k n ∧
      wr.ownsRow w.heap.size 121 1 (.slice (some ⟨w.heap.size, 0, none⟩) k n) k ((ps.take k).map ptr) ∧ Below w.heap.size w wr) (fun _ si _ => n - (intOf si).toNat)
  case atStart => exact ⟨0, Nat.zero_le _, rfl, rfl, by simpa using hown0, (Below.refl _ _).grown hgrow0 (Nat.le_refl _) (fun k h => by cases h)⟩
  case round =>
    obtain ⟨k, hk, rfl, rfl, hown, hb⟩ := hrel
    have HB := Aside0.mk hb
    have HOWN := Aside0.mk hown
    clear hown
    by_cases hlt : k < n
    · have hkl : k < ps.length := by rw [← HN.out]; exact hlt
      have hx := pw_cell_below hb (HR.out k hkl)
      obtain ⟨p, hp⟩ : ∃ p, p = ps[k] := ⟨_, rfl⟩
      rw [← hp] at hx
      obtain ⟨ty, hty, ha⟩ := HA.out p (by rw [hp]; exact List.getElem_mem _)
      have HQ := Aside0.mk (ha.below hb)
      have HP := Aside0.mk hp
      have t1 : (ty == 11) = false := by simpa using hty
      have t2 : (ty != 11) = true := by simpa using hty
      clear hb hp ha hty
      go_wp2_with (first
        | (go_at_call 113; refine HQ.out.now.mono ?_; rintro e w' ⟨rfl, rfl⟩)
        | (at_builtin; refine wpList_append_fits _ rfl (.tmp 22) (.tmp 24) 73 rfl w.heap.size 121 i0 1 Tryd.underlying73 hi hz1 w.heap.size k n _ rfl (HOWN.out.alloc _) ⟨wr.heap.size, 0, none⟩ 1 1 [ptr p] rfl rfl (cell_one _ _ _) (ptr_oneCell p) (by omega) ?_; intro w1 hown1 hgrow1))
      go_roundw
      case rel => exact ⟨k + 1, by omega, by go_num, rfl, take_own hkl HP.out hown1, ((HB.out.alloc HB.out.size _).grown hgrow1 (by simp; have := HB.out.size; omega) (fun k hk => by cases hk; exact Nat.le_refl _))⟩
      case measure => simp [intOf]; omega
    · obtain rfl : k = n := by omega
      clear hb
      go_wp2
      go_ret
      have ho := HOWN.out
      rw [List.take_of_length_le (by rw [← HN.out]; exact Nat.le_refl _)] at ho
      exact ⟨_, rfl, row_of_own HN.out ho, HB.out⟩
set_option maxHeartbeats 1000000 in
set_option maxRecDepth 100000 in
theorem pass76 (w : World) (b n c : Nat) (ps : List Nat) (hn : n = ps.length) (h100 : n ≤ 100) (hr : RowP w b ps)
    (hA : ∀ p ∈ ps, ∃ ty : Int, ty ≠ 20 ∧ Ans 107 (.int .i64 ty) w p) :
    Calls Tryd.prog 76 #[.slice (some ⟨b, 0, none⟩) n c] w (Passed2 n ps w) := by
  obtain ⟨i0, hi, hz0, hz1, hz2⟩ := info_parts info121
  have HR := Aside0.mk hr
  have HA := Aside0.mk hA
  have HN := Aside0.mk hn
  clear hr hA hn
  go_enter Tryd.func76, Tryd.ntmps76
  go_wp2_with (at_make; refine wpList_make_own _ rfl _ _ 73 rfl w.heap.size 121 i0 (.pointer none) 1 Tryd.underlying73 hi hz0 hz1 .i64 .i64 _ n rfl rfl rfl (by rw [hz2]; omega) (by unfold maxLen; omega) (Nat.le_refl _) ?_; intro w0 hown0 hgrow0)
  go_loopw [4, 5] (fun out si wr => ∃ k : Nat, k ≤ n ∧ si = .int .i64 k ∧ out = .slice (some ⟨w.heap.size, 0, none⟩) k n ∧
      wr.ownsRow w.heap.size 121 1 (.slice (some ⟨w.heap.size, 0, none⟩) k n) k ((ps.take k).map ptr) ∧ Below w.heap.size w wr) (fun _ si _ => n - (intOf si).toNat)
  case atStart => exact ⟨0, Nat.zero_le _, rfl, rfl, by simpa using hown0, (Below.refl _ _).grown hgrow0 (Nat.le_refl _) (fun k h => by cases h)⟩
  case round =>
    obtain ⟨k, hk, rfl, rfl, hown, hb⟩ := hrel
    have HB := Aside0.mk hb
    have HOWN := Aside0.mk hown
    clear hown
    by_cases hlt : k < n
    · have hkl : k < ps.length := by rw [← HN.out]; exact hlt
      have hx := pw_cell_below hb (HR.out k hkl)
      obtain ⟨p, hp⟩ : ∃ p, p = ps[k] := ⟨_, rfl⟩
      rw [← hp] at hx
      obtain ⟨ty, hty, ha⟩ := HA.out p (by rw [hp]; exact List.getElem_mem _)
      have HQ := Aside0.mk (ha.below hb)
      have HP := Aside0.mk hp
      have t1 : (ty == 20) = false := by simpa using hty
      have t2 : (ty != 20) = true := by simpa using hty
      clear hb hp ha hty
      go_wp2_with (first
        | (go_at_call 107; refine HQ.out.now.mono ?_; rintro e w' ⟨rfl, rfl⟩)
        | (at_builtin; refine wpList_append_fits _ rfl (.tmp 25) (.tmp 27) 73 rfl w.heap.size 121 i0 1 Tryd.underlying73 hi hz1 w.heap.size k n _ rfl (HOWN.out.alloc _) ⟨wr.heap.size, 0, none⟩ 1 1 [ptr p] rfl rfl (cell_one _ _ _) (ptr_oneCell p) (by omega) ?_; intro w1 hown1 hgrow1))
      go_roundw
      case rel => exact ⟨k + 1, by omega, by go_num, rfl, take_own hkl HP.out hown1, ((HB.out.alloc HB.out.size _).grown hgrow1 (by simp; have := HB.out.size; omega) (fun k hk => by cases hk; exact Nat.le_refl _))⟩
      case measure => simp [intOf]; omega
    · obtain rfl : k = n := by omega
      clear hb
      go_wp2
      go_ret2
      have ho := HOWN.out
      rw [List.take_of_length_le (by rw [← HN.out]; exact Nat.le_refl _)] at ho
      exact ⟨_, rfl, row_of_own HN.out ho, HB.out⟩
end Go.Proofs.YtmildhkegpmacaaDoor.GroupPass
