/- FnTokenAdded: the law's walk. -/
import Derived.Test.YtlkbhmmelejmjaaGreatDoorAddLoop
import Derived.Test.YtlkbhmmelejmjaaGreatDoorWEqStruct
namespace Go.Proofs.YtlkbhmmelejmjaaGreatDoor.AddLaw
open Go.RowKit Go.Proofs.YtlkbhmmelejmjaaGreatDoorW.PrintWords Go.Proofs.YtlkbhmmelejmjaaGreatDoor.TokBase Go.Proofs.YtlkbhmmelejmjaaGreatDoor.TokList Go.Proofs.YtlkbhmmelejmjaaGreatDoor.TokMake Go.Proofs.YtlkbhmmelejmjaaGreatDoor.AddBase Go.Proofs.YtlkbhmmelejmjaaGreatDoor.AddMade Go.Proofs.YtlkbhmmelejmjaaGreatDoor.AddAdd Go.Proofs.YtlkbhmmelejmjaaGreatDoor.AddList Go.Proofs.YtlkbhmmelejmjaaGreatDoor.AddLoop
set_option linter.unusedVariables false
set_option linter.unusedSimpArgs false
attribute [local go_sem ↓] Go.wp_at_zero Go.wp_at_succ

theorem eqA23 (d : Nat) (w : World) (x0 y0 : Int) (x1 y1 : Int) (x2 y2 : Int) (x3 y3 : Int) (x4 y4 : Int) :
    (Op.equalIn (d + 2) 23 (.agg #[.int .i64 x0, .int .i64 x1, .int .i64 x2, .int .i64 x3, .int .i64 x4]) (.agg #[.int .i64 y0, .int .i64 y1, .int .i64 y2, .int .i64 y3, .int .i64 y4])).run Tryz.prog w = .ok (x0 == y0 && (x1 == y1 && (x2 == y2 && (x3 == y3 && (x4 == y4))))) w := by
  refine eqA_of Tryz.underlying23 (by kernel_rfl) ?_
  refine eqf_cons (by rfl) (by go_simp; rfl) (by go_simp; rfl) (by go_simp) ?_
  refine eqf_cons (by rfl) (by go_simp; rfl) (by go_simp; rfl) (by go_simp) ?_
  refine eqf_cons (by rfl) (by go_simp; rfl) (by go_simp; rfl) (by go_simp) ?_
  refine eqf_cons (by rfl) (by go_simp; rfl) (by go_simp; rfl) (by go_simp) ?_
  exact eqf_last (by rfl) (by go_simp; rfl) (by go_simp; rfl) (by go_simp)

theorem place_neq (a b c d e : Int) (w : World) : Sem.run Tryz.prog (binOp BinOp.neq 23 (.agg #[.int .i64 a, .int .i64 b, .int .i64 c, .int .i64 d, .int .i64 e]) (.agg #[.int .i64 a, .int .i64 b, .int .i64 c, .int .i64 d, .int .i64 e])) w =
    .ok (.bool false) w := by
  simp only [binOp]
  simp [Op.equal, Op.maxDepth, eqA23 9998]

def Yes (w : World) (e : Ending) (w' : World) : Prop := e = .returned (.bool true) ∧ Below w.heap.size w w'

set_option maxHeartbeats 8000000 in
set_option maxRecDepth 100000 in
theorem law_main (A : Option Addr) (n c : Nat) (vs : Nat → ByteArray) (w : World) (h100 : n ≤ 100) (hx : Reads w A n vs) : Calls Tryz.prog 4 #[.slice A n c] w (Yes w) := by
  obtain ⟨i0, hi0, hz0, hz1, hz2⟩ := info_parts info25
  have CF := Aside0.mk (fits_any A n c vs w (by omega) hx)
  have HX := Aside0.mk hx
  have hpn := place_neq
  clear hx
  have n1 : ¬ (100 : Int) < (n : Int) := by omega
  go_enter Tryz.func4, Tryz.ntmps4
  go_wp2_with fail
  refine CF.out.mono ?_
  rintro e w1 ⟨b, rfl, rfl⟩
  cases b with
  | false =>
    go_wp2_with fail
    go_ret
    exact ⟨rfl, Below.refl _ _⟩
  | true =>
    go_wp2_with fail
    go_loopw [3, 18] (fun l si wr => ∃ (i : Nat) (cs : List Value), i ≤ n ∧ si = .int .i64 i ∧ wr.ownsRow w.heap.size 25 13 l i cs ∧ Cells13 (ltok vs mone mone) i cs ∧ Below w.heap.size w wr) (fun _ si _ => n - (intOf si).toNat)
    case atStart => exact ⟨0, [], Nat.zero_le _, rfl, ⟨rfl, .inl ⟨rfl, rfl⟩⟩, Cells13.nil _, Below.refl _ _⟩
    case round =>
      obtain ⟨i, cs, hi, rfl, hown, hcs, hbel⟩ := hrel
      have HO := Aside0.mk hown
      have HC := Aside0.mk hcs
      have HB := Aside0.mk hbel
      clear hown hcs hbel
      by_cases hlt : i < n
      · obtain ⟨ad, hA, hc⟩ := HX.out.below HB.out i hlt
        subst hA
        obtain ⟨s, hse⟩ : ∃ s, s = vs i := ⟨_, rfl⟩
        rw [← hse] at hc
        have HSE := Aside0.mk hse
        have CM := Aside0.mk (fun W => make_any 31 2 0 (.inr (.inr (.inr (.inr (.inr (.inr ⟨rfl, rfl, rfl⟩)))))) s s 1 ((i : Int) + 1) 0 (by omega) (by omega) W)
        clear hse
        go_wp2_with fail
        refine (CM.out _).mono ?_
        rintro e w2 ⟨rfl, hb2⟩
        have HB2 := Aside0.mk hb2
        clear hb2
        unfold tokAgg
        simp only [tokCells]
        go_wp2_with (at_builtin; refine wpList_append_lies _ rfl (.tmp 23) (.tmp 30) 32 rfl w.heap.size 25 i0 _ 13 128 Tryz.underlying32 hi0 hz0 hz1 hz2 (by rfl) (by omega) _ i cs rfl ((AddMade.own_same HO.out fun y h1 h2 => HB2.out.block y h2).alloc _) ⟨w2.heap.size, 0, none⟩ 1 1 (tokCells 31 2 0 s s 1 ((i : Int) + 1) 0 (-1) (-1)) rfl rfl (World.news_of_block (cs := (tokCells 31 2 0 s s 1 ((i : Int) + 1) 0 (-1) (-1)).toArray) (t := 25) (fr := (0, 0)) (heap_alloc_new w2 _)) (by simp [tokCells, Value.oneCell']) (by omega) (by unfold maxLen; omega) (by omega) (by have h1 := HB2.out.size; have h2 := HB.out.size; simp; omega) (w2.heap.size + 1) (by simp) ?_; intro g cap w3 hown3 hgrow3 hat hlt3)
        have HO3 := Aside0.mk hown3
        have HG3 := Aside0.mk hgrow3
        clear hown3 hgrow3 hat
        go_roundw
        case rel =>
          refine ⟨i + 1, cs ++ tokCells 31 2 0 s s 1 ((i : Int) + 1) 0 (-1) (-1), by omega, by go_num, HO3.out, HC.out.snoc (by unfold ltok mone; rw [← HSE.out]) rfl, ?_⟩
          have h1 := HB2.out.size
          have h2 := HB.out.size
          exact ((HB.out.trans (HB2.out.mono h2)).alloc (by omega) _).grown HG3.out (by simp; omega) fun y hy => (AddMade.own_lt HO.out y hy).1
        case measure => simp [intOf]; omega
      · obtain rfl : i = n := by omega
        obtain ⟨A1, c1, rfl, hrt⟩ := RowT.of HO.out HC.out
        have CA := Aside0.mk (added_any wr A1 i c1 vs h100 hrt)
        have HRT := Aside0.mk hrt
        clear hrt
        go_wp2_with fail
        refine CA.out.mono ?_
        rintro e w2 ⟨v, cs2, rfl, ho2, hc2, hb2⟩
        obtain ⟨A2, c2, rfl, hrt2⟩ := RowT.of ho2 hc2
        have HR1 := Aside0.mk (HRT.out.below hb2)
        have HR2 := Aside0.mk hrt2
        have HX2 := Aside0.mk ((HX.out.below HB.out).below hb2)
        have HB2 := Aside0.mk (HB.out.trans (hb2.mono HB.out.size))
        clear ho2 hc2 hrt2 hb2
        obtain ⟨w3, rfl⟩ : ∃ w3, w3 = w2 := ⟨_, rfl⟩
        go_wp2_with fail
        go_loopw [42] (fun si wr => ∃ (k : Nat), k ≤ i ∧ si = .int .i64 k ∧ Below w3.heap.size w3 wr) (fun si _ => i - (intOf si).toNat)
        case atStart => exact ⟨0, Nat.zero_le _, rfl, Below.refl _ _⟩
        case round =>
          obtain ⟨k, hk, rfl, hbk⟩ := hrel
          have HBK := Aside0.mk hbk
          by_cases hkl : k < i
          · obtain ⟨ad, hA, hc⟩ := (HX2.out.below hbk) k hkl
            subst hA
            obtain ⟨g1, hg1, -⟩ := (HR1.out.below hbk) k hkl
            subst hg1
            obtain ⟨g2, hg2, -⟩ := (HR2.out.below hbk) k hkl
            subst hg2
            obtain ⟨x0, x1, x2, x3, x4, x5, x6, x7, x8, x9, x10, x11, x12⟩ := (HR2.out.below hbk).cells rfl k hkl
            obtain ⟨-, -, -, -, -, -, y6, y7, y8, y9, y10, -, -⟩ := (HR1.out.below hbk).cells rfl k hkl
            obtain ⟨s, hse⟩ : ∃ s, s = vs k := ⟨_, rfl⟩
            rw [← hse] at hc x3 x4
            unfold prv at x11
            have hnx : (k + 1 = i ∧ nxt i k = -1) ∨ (k + 1 < i ∧ nxt i k = (k : Int) + 1) := by
              unfold nxt
              by_cases e : k + 1 = i
              · exact .inl ⟨e, if_pos e⟩
              · exact .inr ⟨by omega, if_neg e⟩
            clear hse hbk
            have hc' := fun o => pw_cell_below ((Below.refl wr.heap.size wr).alloc (Nat.le_refl _) o) hc
            have y6' := fun o => pw_cell_below ((Below.refl wr.heap.size wr).alloc (Nat.le_refl _) o) y6
            have y7' := fun o => pw_cell_below ((Below.refl wr.heap.size wr).alloc (Nat.le_refl _) o) y7
            have y8' := fun o => pw_cell_below ((Below.refl wr.heap.size wr).alloc (Nat.le_refl _) o) y8
            have y9' := fun o => pw_cell_below ((Below.refl wr.heap.size wr).alloc (Nat.le_refl _) o) y9
            have y10' := fun o => pw_cell_below ((Below.refl wr.heap.size wr).alloc (Nat.le_refl _) o) y10
            have hwm := wrapm k (by omega)
            have HBR := Aside0.mk ((Below.refl wr.heap.size wr))
            rcases hnx with ⟨he, hn⟩ | ⟨he, hn⟩
            · rw [hn] at x12
              have hee : ((k : Int) + 1 == (i : Int)) = true := by simp; omega
              have HE := Aside0.mk he
              clear hn he
              go_wp2_with fail
              go_quiet (fail)
              go_wp2_with fail
              go_roundw
              case rel => exact ⟨k + 1, by omega, by go_num, pw_below_drewN (HBK.out.alloc HBK.out.size _) _⟩
              case measure => simp [intOf]; omega
            · rw [hn] at x12
              have hee : ((k : Int) + 1 == (i : Int)) = false := by simp; omega
              have HE := Aside0.mk he
              clear hn he
              go_wp2_with fail
              go_quiet (fail)
              go_wp2_with fail
              go_roundw
              case rel => exact ⟨k + 1, by omega, by go_num, pw_below_drewN (HBK.out.alloc HBK.out.size _) _⟩
              case measure => simp [intOf]; omega
          · obtain rfl : k = i := by omega
            go_wp2_with fail
            go_ret
            exact ⟨rfl, HB2.out.trans (HBK.out.mono HB2.out.size)⟩

set_option maxHeartbeats 2000000 in
set_option maxRecDepth 100000 in
theorem law_any (A : Option Addr) (n c : Nat) (vs : Nat → ByteArray) (w : World) (hn : n ≤ 140737488355328) (hx : Reads w A n vs) : Calls Tryz.prog 4 #[.slice A n c] w (Yes w) := by
  by_cases h100 : n ≤ 100
  · exact law_main A n c vs w h100 hx
  · have CF := Aside0.mk (fits_any A n c vs w hn hx)
    have n1 : (100 : Int) < (n : Int) := by omega
    clear hx
    go_enter Tryz.func4, Tryz.ntmps4
    go_wp2_with fail
    refine CF.out.mono ?_
    rintro e w1 ⟨b, rfl, rfl⟩
    cases b with
    | false =>
      go_wp2_with fail
      go_ret
      exact ⟨rfl, Below.refl _ _⟩
    | true =>
      go_wp2_with fail
      go_ret
      exact ⟨rfl, Below.refl _ _⟩
end Go.Proofs.YtlkbhmmelejmjaaGreatDoor.AddLaw
