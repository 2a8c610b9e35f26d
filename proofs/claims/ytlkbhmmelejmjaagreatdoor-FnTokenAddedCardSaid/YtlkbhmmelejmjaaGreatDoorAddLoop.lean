/- FnTokenAdded: Tokens.Add, and Added: made, added, told as data. -/
import Derived.Test.YtlkbhmmelejmjaaGreatDoorAddList
namespace Go.Proofs.YtlkbhmmelejmjaaGreatDoor.AddLoop
open Go.RowKit Go.Proofs.YtlkbhmmelejmjaaGreatDoorW.PrintWords Go.Proofs.YtlkbhmmelejmjaaGreatDoor.TokBase Go.Proofs.YtlkbhmmelejmjaaGreatDoor.TokList Go.Proofs.YtlkbhmmelejmjaaGreatDoor.TokMake Go.Proofs.YtlkbhmmelejmjaaGreatDoor.AddBase Go.Proofs.YtlkbhmmelejmjaaGreatDoor.AddMade Go.Proofs.YtlkbhmmelejmjaaGreatDoor.AddAdd Go.Proofs.YtlkbhmmelejmjaaGreatDoor.AddList
set_option linter.unusedVariables false
set_option linter.unusedSimpArgs false
attribute [local go_sem ↓] Go.wp_at_zero Go.wp_at_succ

theorem add_any (w : World) (B b g' p j : Nat) (all : List Nat) (vs : Nat → ByteArray) (v : Value) (h100 : all.length ≤ 100) (hj : j < all.length) (hp : all[j] = p) (hB : B ≤ b) (hBw : B ≤ w.heap.size) (hBall : ∀ i, (h : i < all.length) → B ≤ all[i]) (hi : Inc all) (hK : Kept0 w g') (h : Adding w B b g' all vs j v) (hv : j = 0 → v = .slice none 0 0) :
    Calls Tryz.prog 75 #[.pointer (some ⟨b, 0, none⟩), .pointer (some ⟨p, 0, none⟩)] w (Addd B b g' all vs (j + 1) w) := by
  cases j with
  | zero => exact add_first w B b g' p all vs v hj hp hB hBw hK h (hv rfl)
  | succ j => exact add_next w B b g' p j all vs v h100 hj hp hB hBw hBall hi hK h

def AddedAll (B b g' n : Nat) (all : List Nat) (vs : Nat → ByteArray) (w : World) (e : Ending) (w' : World) : Prop := ∃ v', e = .returned (.tuple #[]) ∧ Adding w' B b g' all vs n v' ∧ Below B w w'

set_option maxHeartbeats 4000000 in
set_option maxRecDepth 100000 in
theorem addAll_any (w : World) (B b g' n c : Nat) (all : List Nat) (vs : Nat → ByteArray) (h100 : n ≤ 100) (hn : all.length = n) (hB : B ≤ b) (hBw : B ≤ w.heap.size) (hBall : ∀ i, (h : i < all.length) → B ≤ all[i]) (hi : Inc all) (hK : Kept0 w g') (hrow : RowP w g' all) (h : Adding w B b g' all vs 0 (.slice none 0 0)) :
    Calls Tryz.prog 25 #[.pointer (some ⟨b, 0, none⟩), .slice (some ⟨g', 0, none⟩) n c] w (AddedAll B b g' n all vs w) := by
  have HN := Aside0.mk hn
  have HBA := Aside0.mk hBall
  have HI := Aside0.mk hi
  have HK := Aside0.mk hK
  have HR := Aside0.mk hrow
  have H := Aside0.mk h
  clear hn hBall hi hK hrow h
  go_enter Tryz.func25, Tryz.ntmps25
  go_wp2_with fail
  go_loopw [8] (fun si wr => ∃ (j : Nat) (v : Value), j ≤ n ∧ si = .int .i64 j ∧ Adding wr B b g' all vs j v ∧ (j = 0 → v = .slice none 0 0) ∧ wr.heap[g']? = w.heap[g']? ∧ Below B w wr) (fun si _ => n - (intOf si).toNat)
  case atStart => exact ⟨0, _, Nat.zero_le _, rfl, H.out, fun _ => rfl, rfl, Below.refl _ _⟩
  case round =>
    obtain ⟨j, v, hj, rfl, had, hv0, hg, hbel⟩ := hrel
    have HA := Aside0.mk had
    have HV := Aside0.mk hv0
    have HG := Aside0.mk hg
    have HBL := Aside0.mk hbel
    clear had hv0 hg hbel
    by_cases hlt : j < n
    · have hjl : j < all.length := by rw [HN.out]; exact hlt
      obtain ⟨p, hpe⟩ : ∃ p, all[j] = p := ⟨_, rfl⟩
      have hx : wr.cell? ⟨g', j, none⟩ = some (.pointer (some ⟨p, 0, none⟩)) := by
        rw [World.cell?_of_block (w := w) (a := ⟨g', j, none⟩) HG.out, HR.out j hjl, hpe]; rfl
      have hKr : Kept0 wr g' := by obtain ⟨cur, hc⟩ := HK.out; exact ⟨cur, HG.out.trans hc⟩
      have C := Aside0.mk (add_any wr B b g' p j all vs v (by rw [HN.out]; exact h100) hjl hpe hB (Nat.le_trans hBw HBL.out.size) HBA.out HI.out hKr HA.out HV.out)
      clear hpe hKr
      go_wp2_with fail
      refine C.out.mono ?_
      rintro e w1 ⟨v', rfl, ha1, hg1, hb1⟩
      have HA1 := Aside0.mk ha1
      have HG1 := Aside0.mk hg1
      have HB1 := Aside0.mk hb1
      clear ha1 hg1 hb1
      go_wp2_with fail
      go_roundw
      case rel => exact ⟨j + 1, v', by omega, by go_num, HA1.out, fun h => by omega, HG1.out.trans HG.out, HBL.out.trans HB1.out⟩
      case measure => simp [intOf]; omega
    · obtain rfl : j = n := by omega
      go_wp2_with fail
      go_end0
      exact ⟨v, rfl, HA.out, HBL.out⟩

theorem toks_nil8 {w : World} {all : List Nat} {vs : Nat → ByteArray} {i p : Nat} (h : Toks w all vs nils nils) (hi : Inc all) (hl : i < all.length) (hp : all[i] = p) (f : Nat) (hf : f = 7 ∨ f = 8) : Toks (w.setCell ⟨p, f, none⟩ (.pointer none)) all vs nils nils := by
  subst hp
  intro k hk
  by_cases e : k = i
  · subst e
    rcases hf with rfl | rfl
    · exact (h k hk).set7 _
    · exact (h k hk).set8 _
  · exact (h k hk).other (h i hl) (hi.ne hk hl e) f _

def AddedD (n : Nat) (vs : Nat → ByteArray) (w : World) (e : Ending) (w' : World) : Prop := ∃ v cs, e = .returned v ∧ w'.ownsRow w.heap.size 25 13 v n cs ∧ Cells13 (ltok vs prv (nxt n)) n cs ∧ Below w.heap.size w w'

theorem nxs_zero (all : List Nat) : nxs all 0 = nils := by funext i; unfold nxs nils; rw [if_neg (by omega)]
theorem pvs_zero (all : List Nat) : pvs all 0 = nils := by funext i; unfold pvs nils; rw [if_neg (by omega)]
theorem rows_of_own {w : World} {base n : Nat} {v : Value} {all : List Nat} (h : w.ownsRow base 46 1 v n (ptrs all)) (hn : all.length = n) : ∃ A c, v = .slice A n c ∧ AddList.Rows w A n all := by
  rcases h.2 with ⟨hv, h0⟩ | ⟨g, cap, cur, hv, hg⟩
  · subst h0
    exact ⟨none, 0, hv, fun i hi => absurd hi (Nat.not_lt_zero _)⟩
  · subst hv
    exact ⟨_, cap, rfl, fun i hi => ⟨g, rfl, by rw [AddMade.own_rowP h i (by omega), getD_at (by omega)]⟩⟩

set_option maxHeartbeats 8000000 in
set_option maxRecDepth 100000 in
theorem added_any (w : World) (A : Option Addr) (n cap : Nat) (vs : Nat → ByteArray) (h100 : n ≤ 100) (hr : RowT w A n (ltok vs mone mone)) :
    Calls Tryz.prog 12 #[.slice A n cap] w (AddedD n vs w) := by
  have CM := Aside0.mk (made_any w A n cap vs h100 hr)
  clear hr
  go_enter Tryz.func12, Tryz.ntmps12
  go_wp2_with fail
  refine CM.out.mono ?_
  rintro e w1 ⟨g', c', all, rfl, hlen, hown, htk, hinc, hhi, hbel⟩
  have HL := Aside0.mk hlen
  have HO := Aside0.mk hown
  have HT := Aside0.mk htk
  have HI := Aside0.mk hinc
  have HH := Aside0.mk hhi
  have HB := Aside0.mk hbel
  clear hlen hown htk hinc hhi hbel
  go_wp2_with fail
  go_loopw [11] (fun si wr => ∃ (i : Nat), i ≤ n ∧ si = .int .i64 i ∧ Toks wr all vs nils nils ∧ wr.heap[g']? = w1.heap[g']? ∧ Below w.heap.size w wr ∧ w1.heap.size ≤ wr.heap.size) (fun si _ => n - (intOf si).toNat)
  case atStart => exact ⟨0, Nat.zero_le _, rfl, HT.out, rfl, HB.out, Nat.le_refl _⟩
  case round =>
    obtain ⟨i, hi, rfl, ht, hg, hb, hs⟩ := hrel
    have T := Aside0.mk ht
    have G := Aside0.mk hg
    have B := Aside0.mk hb
    clear ht hg hb
    by_cases hlt : i < n
    · have hil : i < all.length := by rw [HL.out]; exact hlt
      obtain ⟨p, hpe⟩ : ∃ p, all[i] = p := ⟨_, rfl⟩
      have hx : wr.cell? ⟨g', i, none⟩ = some (.pointer (some ⟨p, 0, none⟩)) := by
        rw [World.cell?_of_block (w := w1) (a := ⟨g', i, none⟩) G.out, AddMade.own_rowP HO.out i hil, hpe]; rfl
      have T8 := Aside0.mk (toks_nil8 T.out HI.out hil hpe 8 (.inr rfl))
      have T7 := Aside0.mk (toks_nil8 T8.out HI.out hil hpe 7 (.inl rfl))
      obtain ⟨q, k1, k2⟩ := T.out i hil
      obtain ⟨q', k3, k4⟩ := T8.out i hil
      rw [hpe] at k1 k3
      have p8 := blk_cell k1 8
      have p8f := blk_frozen k1 8
      have p7 := blk_cell k3 7
      have p7f := blk_frozen k3 7
      simp only [List.getElem?_toArray, List.getElem?_cons_succ, List.getElem?_cons_zero, nils] at p8 p7
      have HP := Aside0.mk hpe
      have kne : Aside0 (g' ≠ p) := ⟨fun e => by
        obtain ⟨cur, hc⟩ := AddMade.own_typed HO.out g' rfl
        rw [← G.out, e, k1] at hc; injection hc with hc; injection hc with _ hc; cases hc⟩
      clear hpe k1 k2 k3 k4
      go_wp2_with fail
      go_roundw
      case rel =>
        have hpB : w.heap.size ≤ p := by rw [← HP.out]; exact HH.out i hil
        exact ⟨i + 1, by omega, by go_num, T7.out, by rw [Below.heap_setCell _ _ _ _ kne.out, Below.heap_setCell _ _ _ _ kne.out, G.out], (B.out.setCell hpB _).setCell hpB _, by simpa using hs⟩
      case measure => simp [intOf]; omega
    · obtain rfl : i = n := by omega
      obtain ⟨w2, rfl⟩ : ∃ w2, w2 = wr := ⟨_, rfl⟩
      obtain ⟨cur, hcur⟩ := AddMade.own_typed HO.out g' rfl
      have hcur2 := G.out.trans hcur
      have hlt2 := blk_lt hcur2
      have hK : Kept0 (w2.alloc (.cells #[.slice none 0 0] 52)) g' := ⟨cur, blk_alloc hcur2 _⟩
      have hrow : RowP (w2.alloc (.cells #[.slice none 0 0] 52)) g' all := fun k hk => by
        rw [World.cell?_of_block (w := w1) (a := ⟨g', k, none⟩) ((blk_alloc hcur2 _).trans hcur.symm)]; exact AddMade.own_rowP HO.out k hk
      have hsz := B.out.size
      have hadd : Adding (w2.alloc (.cells #[.slice none 0 0] 52)) w.heap.size w2.heap.size g' all vs 0 (.slice none 0 0) := ⟨blk_new _ _, ⟨rfl, .inl ⟨rfl, rfl⟩⟩, by simp [Value.ownBlock], by
        rw [nxs_zero, pvs_zero]; exact T.out.below ((Below.refl _ _).alloc (Nat.le_refl _) _)⟩
      have CA := Aside0.mk (addAll_any (w2.alloc (.cells #[.slice none 0 0] 52)) w.heap.size w2.heap.size g' i c' all vs h100 HL.out hsz (by simp; omega) HH.out HI.out hK hrow hadd)
      clear hcur hcur2 hK hrow hadd
      go_wp2_with fail
      refine CA.out.mono ?_
      rintro e w3 ⟨v', rfl, had, hb3⟩
      have hbox := had.box
      have x0 := blk_cell hbox 0
      simp only [List.getElem?_toArray, List.getElem?_cons_succ, List.getElem?_cons_zero] at x0
      have hown := had.own
      rw [List.take_of_length_le (by rw [HL.out]; exact Nat.le_refl _)] at hown
      obtain ⟨A', c2, rfl, hrows⟩ := rows_of_own hown HL.out
      have CL := Aside0.mk (list_any w3 A' i c2 all vs h100 HL.out hrows had.toks)
      have HB3 := Aside0.mk hb3
      clear hbox had hown hrows hb3
      go_wp2_with fail
      refine CL.out.mono ?_
      rintro e w4 ⟨v, cs, rfl, ho4, hc4, hb4⟩
      have HO4 := Aside0.mk ho4
      have HC4 := Aside0.mk hc4
      have HB4 := Aside0.mk hb4
      clear ho4 hc4 hb4
      go_wp2_with fail
      go_ret
      have hb := (B.out.alloc hsz (.cells #[.slice none 0 0] 52)).trans HB3.out
      exact ⟨v, cs, rfl, own_weaken HO4.out hb.size, HC4.out, hb.trans (HB4.out.mono hb.size)⟩
end Go.Proofs.YtlkbhmmelejmjaaGreatDoor.AddLoop
