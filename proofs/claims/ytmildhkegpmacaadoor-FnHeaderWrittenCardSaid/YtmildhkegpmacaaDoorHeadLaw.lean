/- FnHeaderWritten: the law's walk. -/
import Derived.Test.YtmildhkegpmacaaDoorHeadRead
namespace Go.Proofs.YtmildhkegpmacaaDoor.HeadLaw
open Go.RowKit Go.Proofs.YtmildhkegpmacaaDoorW.PrintWords Go.Proofs.YtmildhkegpmacaaDoor.Utf Go.Proofs.YtmildhkegpmacaaDoor.HeadPure Go.Proofs.YtmildhkegpmacaaDoor.HeadWalks Go.Proofs.YtmildhkegpmacaaDoor.HeadRead
open Go.Proofs.YtmildhkegpmacaaDoor.Runes (Tabs tabs_below all all_cons mayStand content rows_yes rows_no row_yes row_no)
set_option linter.unusedVariables false
set_option linter.unusedSimpArgs false

/-- What the value's text gives. -/
structure Given (v : ByteArray) where
  r0 : Int
  t0 : List Int
  xs : List (List Int)
  rls : List (List Int)
  hrls : rls = (r0 :: t0) :: xs
  h32 : r0 ≠ 32
  h9 : r0 ≠ 9
  hsplit : split [] (B v) = rls.map enc
  hsc : ∀ l ∈ rls, ∀ r ∈ l, Scalar r
  hal : ∀ l ∈ rls, all false l = true
  h10 : (10 : UInt8) ∈ B v
  h13 : (13 : UInt8) ∉ B v
  hne : B v ≠ []

theorem all_of (rs : List Int) : all true rs = true ↔ ∀ r ∈ rs, content r = true ∨ r = 10 := by
  unfold all
  rw [List.all_eq_true]
  simp
theorem all_of' (rs : List Int) : all false rs = true ↔ ∀ r ∈ rs, content r = true := by
  unfold all
  rw [List.all_eq_true]
  simp

theorem given (v : ByteArray) (hr : mayStand true v) (hn : ¬ mayStand false v) (hb10 : bt v 0 ≠ 10) (hb32 : bt v 0 ≠ 32) (hb9 : bt v 0 ≠ 9) : Nonempty (Given v) := by
  obtain ⟨h64, rs, hsc, hen, hal⟩ := hr
  have h10 : (10 : Int) ∈ rs := by
    refine Classical.byContradiction fun h => hn ⟨h64, rs, hsc, hen, ?_⟩
    rw [all_of']
    intro r hr
    rcases (all_of rs).1 hal r hr with h' | rfl
    · exact h'
    · exact absurd hr h
  have h13 : ∀ r ∈ rs, r ≠ (13 : Nat) := by
    rintro r hr rfl
    rcases (all_of rs).1 hal _ hr with h' | h'
    · exact absurd h' (by decide)
    · exact absurd h' (by decide)
  cases rs with
  | nil => simp at h10
  | cons r0 t =>
    have hb : ∀ c : Nat, c < 128 → bt v 0 ≠ c → r0 ≠ c := by
      rintro c hc hne rfl
      apply hne
      have e : B v = c.toUInt8 :: enc t := by
        rw [hen, enc_cons, encodeRune_ascii (c : Int) (by omega) (by omega)]
        simp
      have hs : 0 < v.size := by rw [← B_length, e]; simp
      have := bt_nat v 0 hs
      rw [show ((0 : Nat) : Int) = 0 from rfl] at this
      rw [this, e]
      simp
      omega
    have ha10 : r0 ≠ 10 := hb 10 (by omega) hb10
    have ha32 : r0 ≠ 32 := hb 32 (by omega) hb32
    have ha9 : r0 ≠ 9 := hb 9 (by omega) hb9
    obtain ⟨l, ls, hl⟩ := rsplit_head t [r0] (by simp)
    have e : rsplit [] (r0 :: t) = (r0 :: l) :: ls := by
      simp only [rsplit, ha10, if_false, List.nil_append]
      rw [hl]; rfl
    refine ⟨⟨r0, l, ls, rsplit [] (r0 :: t), e, ha32, ha9, ?_, ?_, ?_, ?_, ?_, ?_⟩⟩
    · rw [hen]
      have := split_enc (r0 :: t) [] hsc
      rwa [enc_nil] at this
    · intro l' hl' r hr
      rcases rsplit_mem _ _ l' hl' r hr with h | h
      · simp at h
      · exact hsc r h.1
    · intro l' hl'
      rw [all_of']
      intro r hr
      rcases rsplit_mem _ _ l' hl' r hr with h | h
      · simp at h
      · rcases (all_of _).1 hal r h.1 with h' | h'
        · exact h'
        · exact absurd h' h.2
    · rw [hen]
      exact List.mem_flatMap.2 ⟨10, h10, by rw [encodeRune_ascii 10 (by omega) (by omega)]; decide⟩
    · rw [hen]
      exact enc_not_in 13 (by omega) _ hsc h13
    · rw [hen]
      intro h
      exact absurd ((enc_eq_nil _).1 h) (by simp)

theorem last_iff (l : List UInt8) : l.getLast? = some 10 ↔ ∃ u, l = u ++ [10] := by
  constructor
  · intro h
    have hne : l ≠ [] := by rintro rfl; simp at h
    refine ⟨l.dropLast, ?_⟩
    rw [List.getLast?_eq_some_getLast hne] at h
    have := List.dropLast_concat_getLast hne
    rw [Option.some.inj h] at this
    exact this.symm
  · rintro ⟨u, rfl⟩; simp

/-- The chomp of a header. -/
def chomp (b2 b1 : Bool) : Int := if b2 then 2 else if b1 then 1 else 0

theorem fin (v : ByteArray) (g : Given v) (b2 b1 : Bool) (h2 : b2 = true ↔ ∃ u, B v = u ++ [10, 10]) (h1 : b1 = true ↔ ∃ u, B v = u ++ [10]) : Fin g.rls (chomp b2 b1) v := by
  intro bo m hRD
  unfold RD at hRD
  rw [List.take_length, ← g.hsplit] at hRD
  have hJ := J_split (B v) []
  have hone : b1 = true → B bo ++ List.replicate (m + 1) 10 = B v := fun h => by
    rw [hRD, hJ.1 ((last_iff _).2 (h1.1 h))]; rfl
  have hnone : b1 = false → B bo ++ List.replicate m 10 = B v := fun h => by
    have := hJ.2 (fun e => by rw [h1.2 ((last_iff _).1 e)] at h; cases h) (by simpa using g.hne) (fun e => absurd e g.hne)
    rw [List.replicate_succ', this] at hRD
    have e : (B bo ++ List.replicate m 10) ++ [10] = B v ++ [10] := by simpa using hRD
    exact List.append_cancel_right e
  have hm0 : b1 = false → m = 0 := fun h => by
    cases m with
    | zero => rfl
    | succ q =>
      have := hnone h
      rw [List.replicate_succ'] at this
      have e := h1.2 ⟨B bo ++ List.replicate q 10, by rw [← this]; simp⟩
      rw [h] at e; cases e
  have h21 : b2 = true → b1 = true := fun h => by
    obtain ⟨u, e⟩ := h2.1 h
    exact h1.2 ⟨u ++ [10], by rw [e]; simp⟩
  refine ⟨fun hc => ?_, fun hc => ?_, fun hc => ?_⟩
  · have hb : b1 = false := by
      unfold chomp at hc
      cases b2 <;> cases b1 <;> simp at hc ⊢
    have := hnone hb
    rw [hm0 hb] at this
    exact eq_of_B (by simpa using this)
  · have hb : b2 = false ∧ b1 = true := by
      unfold chomp at hc
      cases b2 <;> cases b1 <;> simp at hc ⊢
    have e := hone hb.2
    have hm : m = 0 := by
      cases m with
      | zero => rfl
      | succ q =>
        have e2 := h2.2 ⟨B bo ++ List.replicate q 10, by rw [← e, List.replicate_succ', List.replicate_succ']; simp⟩
        rw [hb.1] at e2; cases e2
    subst hm
    refine eq_of_B ?_
    rw [← e]
    simp [B]
  · have hb : b2 = true := by
      unfold chomp at hc
      cases b2 <;> cases b1 <;> simp at hc ⊢
    have e := hone (h21 hb)
    refine eq_of_B ?_
    rw [← e]
    simp [B, ba]

def sign (b2 b1 : Bool) : ByteArray := if b2 then ⟨#[43]⟩ else if b1 then ⟨#[]⟩ else ⟨#[45]⟩

theorem behind_f (b2 b1 : Bool) : PFnHeaderWritten.spec_Behind.f (header b2 b1) 124 = some (sign b2 b1) := by
  cases b2 <;> cases b1 <;> decide +kernel

theorem read_f (b2 b1 : Bool) (w : World) (hT : Tabs w) :
    Calls Tryd.prog 11 #[.string (sign b2 b1)] w fun e w' => e = .returned (.tuple #[.int .i64 (chomp b2 b1), .int .i64 0, .int .i64 2]) ∧ Below w.heap.size w w' := by
  cases b2 with
  | true => exact header_one 43 2 (.inl ⟨rfl, rfl⟩) _ rfl w hT
  | false =>
    cases b1 with
    | true => exact header_none w hT
    | false => exact header_one 45 0 (.inr ⟨rfl, rfl⟩) _ rfl w hT

theorem chomp_of (b2 b1 : Bool) : chomp b2 b1 = 0 ∨ chomp b2 b1 = 1 ∨ chomp b2 b1 = 2 := by
  cases b2 <;> cases b1 <;> decide

set_option maxHeartbeats 4000000 in
set_option maxRecDepth 100000 in
theorem law_any (s : ByteArray) (w : World) (hs : s.size ≤ 140737488351232) (hT : Tabs w) :
    Calls Tryd.prog 3 #[.string s] w fun e w' => e = .returned (.bool true) ∧ Below w.heap.size w w' := by
  by_cases hbig : 2147483647 < s.size
  · clear hT
    go_enter Tryd.func3, Tryd.ntmps3
    go_wp2_with fail
    go_ret
    exact ⟨rfl, Below.refl _ _⟩
  · by_cases h1000 : 1000 < s.size
    · clear hT
      go_enter Tryd.func3, Tryd.ntmps3
      go_wp2_with fail
      go_ret
      exact ⟨rfl, Below.refl _ _⟩
    · by_cases hrows : mayStand true s
      · have CR := Aside0.mk (rows_yes s w hT hrows)
        by_cases hrow : mayStand false s
        · have CW := Aside0.mk fun wx (hTx : Tabs wx) => row_yes s wx hTx hrow
          have HT := Aside0.mk hT
          clear hrow hrows hT
          go_enter Tryd.func3, Tryd.ntmps3
          go_wp2_with fail
          refine CR.out.mono ?_
          rintro e w1 ⟨rfl, b1⟩
          have B1 := Aside0.mk b1
          clear b1
          go_wp2_with fail
          refine (CW.out _ (tabs_below HT.out B1.out)).mono ?_
          rintro e w2 ⟨rfl, b2⟩
          have B2 := Aside0.mk (B1.out.trans (b2.mono B1.out.size))
          clear b2
          go_wp2_with fail
          go_ret
          exact ⟨rfl, B2.out⟩
        · have CW := Aside0.mk fun wx (hTx : Tabs wx) => row_no s wx hTx hs hrow
          have hpos : 0 < s.size := by
            refine Nat.pos_of_ne_zero fun h => hrow ⟨by omega, [], by simp, ?_, rfl⟩
            exact List.eq_nil_of_length_eq_zero (by rw [B_length]; exact h)
          have GV := Aside0.mk (given s hrows hrow)
          have HT := Aside0.mk hT
          clear hrow hrows hT
          have hx : ∀ h : 0 < s.size, ((s[0]'h).toNat : Int) = bt s 0 := bt_at s 0
          have hq0 : ((0 : Int) < (s.size : Int)) = True := eq_true (by omega)
          have hz : s.size ≠ 0 := by omega
          cases h10 : (bt s 0 == 10) with
          | true =>
            clear GV
            go_enter Tryd.func3, Tryd.ntmps3
            go_wp2_with fail
            refine CR.out.mono ?_
            rintro e w1 ⟨rfl, b1⟩
            have B1 := Aside0.mk b1
            clear b1
            go_wp2_with fail
            refine (CW.out _ (tabs_below HT.out B1.out)).mono ?_
            rintro e w2 ⟨rfl, b2⟩
            have B2 := Aside0.mk (B1.out.trans (b2.mono B1.out.size))
            clear b2
            go_wp2_with fail
            go_ret
            exact ⟨rfl, B2.out⟩
          | false =>
            cases h32 : (bt s 0 == 32) with
            | true =>
              clear GV
              go_enter Tryd.func3, Tryd.ntmps3
              go_wp2_with fail
              refine CR.out.mono ?_
              rintro e w1 ⟨rfl, b1⟩
              have B1 := Aside0.mk b1
              clear b1
              go_wp2_with fail
              refine (CW.out _ (tabs_below HT.out B1.out)).mono ?_
              rintro e w2 ⟨rfl, b2⟩
              have B2 := Aside0.mk (B1.out.trans (b2.mono B1.out.size))
              clear b2
              go_wp2_with fail
              go_ret
              exact ⟨rfl, B2.out⟩
            | false =>
              cases h9 : (bt s 0 == 9) with
              | true =>
                clear GV
                go_enter Tryd.func3, Tryd.ntmps3
                go_wp2_with fail
                refine CR.out.mono ?_
                rintro e w1 ⟨rfl, b1⟩
                have B1 := Aside0.mk b1
                clear b1
                go_wp2_with fail
                refine (CW.out _ (tabs_below HT.out B1.out)).mono ?_
                rintro e w2 ⟨rfl, b2⟩
                have B2 := Aside0.mk (B1.out.trans (b2.mono B1.out.size))
                clear b2
                go_wp2_with fail
                go_ret
                exact ⟨rfl, B2.out⟩
              | false =>
                obtain ⟨g⟩ := GV.out (beq_eq_false_iff_ne.1 h10) (beq_eq_false_iff_ne.1 h32) (beq_eq_false_iff_ne.1 h9)
                clear GV
                obtain ⟨f2, hf2, hi2⟩ := suffix_any s ⟨#[10, 10]⟩ (by omega)
                obtain ⟨f1, hf1, hi1⟩ := suffix_any s ⟨#[10]⟩ (by omega)
                have HFin := Aside0.mk (fin s g f2 f1 hi2 hi1)
                have CB := Aside0.mk fun wx => block_any s wx (by omega) g.h10 g.h13 f2 f1 hf2 hf1
                have BF := Aside0.mk (behind_f f2 f1)
                have RF := Aside0.mk fun wx (hTx : Tabs wx) => read_f f2 f1 wx hTx
                have HCO := Aside0.mk (chomp_of f2 f1)
                obtain ⟨hd, hhd⟩ : ∃ hd, hd = header f2 f1 := ⟨_, rfl⟩
                rw [← hhd] at CB BF
                obtain ⟨sg, hsg⟩ : ∃ sg, sg = sign f2 f1 := ⟨_, rfl⟩
                rw [← hsg] at BF RF
                obtain ⟨ch, hch⟩ : ∃ ch, ch = chomp f2 f1 := ⟨_, rfl⟩
                rw [← hch] at RF HFin HCO
                clear hhd hsg hch hf2 hf1 hi2 hi1
                have HI := Aside0.mk (indented_f s (by omega))
                rw [g.hsplit] at HI
                have hJ : (J (g.rls.map enc)).length ≤ 5000 := by
                  have := J_split (B s) []
                  rw [g.hsplit] at this
                  by_cases hl : (B s).getLast? = some 10
                  · rw [this.1 hl]; simp only [List.nil_append]; rw [B_length]; omega
                  · rw [this.2 hl (by simpa using g.hne) (fun e => absurd e g.hne)]; simp only [List.nil_append, List.length_append]; rw [B_length]; simp; omega
                have CRB := Aside0.mk fun A N cap (hN : N = g.rls.length) wx (hTx : Tabs wx) hC hcap => readblock g.r0 g.t0 g.xs g.h32 g.h9 g.rls g.hrls hJ g.hsc g.hal ch HCO.out s HFin.out A N cap hN wx hTx hC hcap
                have HLs : Aside0 ((g.rls.map enc).map lined = g.rls.map fun l => lined (enc l)) := ⟨by simp⟩
                rw [HLs.out] at HI
                clear hJ HFin HCO HLs
                obtain ⟨rls, hrls⟩ : ∃ rls, rls = g.rls := ⟨_, rfl⟩
                rw [← hrls] at CRB HI
                clear hrls
                clear g
                go_enter Tryd.func3, Tryd.ntmps3
                go_wp2_with fail
                refine CR.out.mono ?_
                rintro e w1 ⟨rfl, b1⟩
                have B1 := Aside0.mk b1
                clear b1
                go_wp2_with fail
                refine (CW.out _ (tabs_below HT.out B1.out)).mono ?_
                rintro e w2 ⟨rfl, b2⟩
                have B2 := Aside0.mk (B1.out.trans (b2.mono B1.out.size))
                clear b2
                go_wp2_with fail
                refine (CB.out _).mono ?_
                rintro e w3 ⟨rfl, b3⟩
                have B3 := Aside0.mk (B2.out.trans (b3.mono B2.out.size))
                clear b3
                go_wp2_with fail
                refine (PFnHeaderWritten.spec_Behind.calls hd 124 sg _ BF.out).mono ?_
                rintro e w4 ⟨rfl, b4⟩
                have B4 := Aside0.mk (B3.out.trans (b4.below.mono B3.out.size))
                clear b4
                go_wp2_with fail
                refine (RF.out _ (tabs_below HT.out B4.out)).mono ?_
                rintro e w5 ⟨rfl, b5⟩
                have B5 := Aside0.mk (B4.out.trans (b5.mono B4.out.size))
                clear b5
                go_wp2_with fail
                refine (PFnHeaderWritten.spec_Indented.calls _ s 2 _ _ HI.out).mono ?_
                rintro e w6 ⟨v0, rfl, hR, b6⟩
                have B6 := Aside0.mk (B5.out.trans (b6.mono B5.out.size))
                clear b6
                obtain ⟨A, c, rfl, hc, hC⟩ := Kd.R_reads hR
                have CC := Aside0.mk (CRB.out A (rls.map fun l => lined (enc l)).length c (by simp) w6 (tabs_below HT.out B6.out) hC hc)
                clear hR hC
                obtain ⟨N, hN⟩ : ∃ N, N = (rls.map fun l => lined (enc l)).length := ⟨_, rfl⟩
                rw [← hN] at CC hc ⊢
                clear hN
                go_wp2_with fail
                refine CC.out.mono ?_
                rintro e w7 ⟨rfl, b7⟩
                have B7 := Aside0.mk (B6.out.trans (b7.mono B6.out.size))
                clear b7
                go_wp2_with fail
                go_ret
                exact ⟨rfl, B7.out⟩
      · have CR := Aside0.mk (rows_no s w hT hs hrows)
        clear hrows hT
        go_enter Tryd.func3, Tryd.ntmps3
        go_wp2_with fail
        refine CR.out.mono ?_
        rintro e w1 ⟨rfl, b1⟩
        have B1 := Aside0.mk b1
        clear b1
        go_wp2_with fail
        go_ret
        exact ⟨rfl, B1.out⟩
end Go.Proofs.YtmildhkegpmacaaDoor.HeadLaw
