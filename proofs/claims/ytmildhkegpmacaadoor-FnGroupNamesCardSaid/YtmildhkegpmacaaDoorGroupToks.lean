/- FnGroupNames: the tokens of the law. -/
import Derived.Test.YtmildhkegpmacaaDoorGroupFlat
import Derived.Deep.RegionHeld3
import Derived.Deep.DrawnRows
namespace Go.Proofs.YtmildhkegpmacaaDoor.GroupToks
open Go.RowKit Go.Proofs.YtmildhkegpmacaaDoorW.PrintWords Go.Proofs.YtmildhkegpmacaaDoor.GroupBase Go.Proofs.YtmildhkegpmacaaDoor.GroupPass Go.Proofs.YtmildhkegpmacaaDoor.GroupAlias Go.Proofs.YtmildhkegpmacaaDoor.GroupList
set_option linter.unusedVariables false
set_option linter.unusedSimpArgs false
attribute [local go_sem ↓] Go.wp_at_zero Go.wp_at_succ

theorem info54 : (Tryd.prog.info? 54).map (fun i => (i.zero, i.size, i.bytes)) = some (some (.agg #[.int .i64 0, .int .i64 0, .int .i64 0, .string ⟨#[]⟩, .string ⟨#[]⟩, .string ⟨#[]⟩, .int .i64 0, .int .i64 0, .int .i64 0, .int .i64 0, .int .i64 0, .int .i64 0, .int .i64 0]), 13, 128) := by kernel_rfl

def texts : Array Value := #[.string ⟨#[]⟩, .string ⟨#[45, 45, 45]⟩, .string ⟨#[46, 46, 46]⟩, .string ⟨#[45]⟩, .string ⟨#[63]⟩, .string ⟨#[58]⟩, .string ⟨#[60, 60]⟩, .string ⟨#[44]⟩, .string ⟨#[91]⟩, .string ⟨#[93]⟩, .string ⟨#[123]⟩, .string ⟨#[125]⟩, .string ⟨#[35, 32, 99]⟩, .string ⟨#[38]⟩, .string ⟨#[42]⟩, .string ⟨#[33, 116]⟩, .string ⟨#[124]⟩, .string ⟨#[62]⟩, .string ⟨#[113]⟩, .string ⟨#[100]⟩, .string ⟨#[37]⟩, .string ⟨#[32]⟩, .string ⟨#[110, 117, 108, 108]⟩, .string ⟨#[]⟩, .string ⟨#[46, 105, 110, 102]⟩, .string ⟨#[46, 110, 97, 110]⟩, .string ⟨#[49]⟩, .string ⟨#[48, 98, 49]⟩, .string ⟨#[48, 111, 49]⟩, .string ⟨#[48, 120, 49]⟩, .string ⟨#[49, 46, 53]⟩, .string ⟨#[115]⟩, .string ⟨#[116, 114, 117, 101]⟩]
/-- One of the types that the law makes, what it stands for, its text. -/
def Six (b k : Int) (txt : ByteArray) : Prop := (b = 3 ∧ k = 13 ∧ txt = ⟨#[38]⟩) ∨ (b = 4 ∧ k = 14 ∧ txt = ⟨#[42]⟩) ∨ (b = 0 ∧ k = 31 ∧ txt = ⟨#[115]⟩) ∨ (b = 6 ∧ k = 18 ∧ txt = ⟨#[113]⟩) ∨ (b = 7 ∧ k = 19 ∧ txt = ⟨#[100]⟩) ∨ (b = 8 ∧ k = 26 ∧ txt = ⟨#[49]⟩)

/-- A token as data. -/
def tok (j : Nat) (k : Int) (txt : ByteArray) : List Value := [.int .i64 k, .int .i64 0, .int .i64 0, .string txt, .string txt, .string ⟨#[]⟩, .int .i64 1, .int .i64 (1 + j), .int .i64 (1 + j), .int .i64 0, .int .i64 0, .int .i64 ((j : Int) - 1), .int .i64 (j + 1)]
def tokW (j : Nat) (k : Int) (txt : ByteArray) : List Value := [.int .i64 k, .int .i64 0, .int .i64 0, .string txt, .string txt, .string ⟨#[]⟩, .int .i64 1, .int .i64 (IntKind.i64.wrap (1 + j)), .int .i64 (IntKind.i64.wrap (1 + j)), .int .i64 0, .int .i64 0, .int .i64 (IntKind.i64.wrap ((j : Int) - 1)), .int .i64 (IntKind.i64.wrap (j + 1))]
theorem tokW_eq (j : Nat) (h : j < 3) (k : Int) (txt : ByteArray) : tokW j k txt = tok j k txt := by
  have h1 : IntKind.i64.wrap (1 + (j : Int)) = 1 + j := by simp only [IntKind.wrap, IntKind.bits, IntKind.signed]; simp; omega
  have h2 : IntKind.i64.wrap ((j : Int) - 1) = j - 1 := by simp only [IntKind.wrap, IntKind.bits, IntKind.signed]; simp; omega
  have h3 : IntKind.i64.wrap ((j : Int) + 1) = j + 1 := by simp only [IntKind.wrap, IntKind.bits, IntKind.signed]; simp; omega
  unfold tokW tok
  rw [h1, h2, h3]
def toks (ks : Nat → Int) (ts : Nat → ByteArray) (n : Nat) : List Value := (List.range n).flatMap fun j => tok j (ks j) (ts j)
theorem toks_succ (ks : Nat → Int) (ts : Nat → ByteArray) (n : Nat) : toks ks ts (n + 1) = toks ks ts n ++ tok n (ks n) (ts n) := by simp [toks, List.range_succ]

def Toked (ks : Nat → Int) (ts : Nat → ByteArray) (w : World) (e : Ending) (w' : World) : Prop := ∃ g cap, e = .returned (.slice (some ⟨g, 0, none⟩) 3 cap) ∧ w'.ownsRow w.heap.size 54 13 (.slice (some ⟨g, 0, none⟩) 3 cap) 3 (toks ks ts 3) ∧ Below w.heap.size w w'

theorem own_base {w : World} {base base' e size n : Nat} {v : Value} {xs : List Value} (h : w.ownsRow base e size v n xs) (hb : base' ≤ base) : w.ownsRow base' e size v n xs := by
  refine ⟨h.1, h.2.imp id ?_⟩
  rintro ⟨g, cap, cur, h1, h2, h3⟩
  exact ⟨g, cap, cur, h1, Nat.le_trans hb h2, h3⟩
theorem own_twice {wr : World} {base e size n : Nat} {v : Value} {xs : List Value} (h : wr.ownsRow base e size v n xs) (X Y : Obj) : (((wr.alloc X).drew).alloc Y).ownsRow base e size v n xs := (h.alloc X).alloc Y
theorem news_twice (wr : World) (X : Obj) (cs : List Value) (W : World) (hW : W.heap[wr.heap.size + 1]? = some (.cells cs.toArray 54 (0, 0))) : ∀ (j : Nat) (x : Value), cs[j]? = some x → W.cell? (Addr.add ⟨wr.heap.size + 1, 0, none⟩ j) = some x := by
  intro j x h
  exact World.news_of_block hW j x (by simpa using h)
theorem tok_one (j : Nat) (k : Int) (t : ByteArray) : ∀ u ∈ tokW j k t, u.oneCell' = true := by
  intro u hu
  simp only [tokW, List.mem_cons, List.mem_nil_iff, or_false] at hu
  rcases hu with rfl | rfl | rfl | rfl | rfl | rfl | rfl | rfl | rfl | rfl | rfl | rfl | rfl <;> rfl

set_option maxHeartbeats 16000000 in
set_option maxRecDepth 100000 in
theorem toks_any (w : World) (tb cap : Nat) (bs ks : Nat → Int) (ts : Nat → ByteArray) (hb : ∀ j, j < 3 → w.cell? ⟨tb, j, none⟩ = some (.int .u8 (bs j))) (h6 : ∀ j, j < 3 → Six (bs j) (ks j) (ts j)) :
    Calls Tryd.prog 24 #[.slice (some ⟨tb, 0, none⟩) 3 cap] w (Toked ks ts w) := by
  obtain ⟨i0, hi, hz0, hz1, hz2⟩ := info_parts info54
  have HB := Aside0.mk hb
  have H6 := Aside0.mk h6
  clear hb h6
  go_enter Tryd.func24, Tryd.ntmps24
  go_wp2_with fail
  go_loopw [3, 5] (fun u3 si wr => ∃ j : Nat, j ≤ 3 ∧ si = .int .i64 j ∧ wr.ownsRow (w.heap.size + 1) 54 13 u3 j (toks ks ts j) ∧ Below (w.heap.size + 1) (w.alloc (.cells texts 9)) wr) (fun _ si _ => 3 - (intOf si).toNat)
  case atStart => exact ⟨0, Nat.zero_le _, rfl, ⟨rfl, .inl ⟨rfl, rfl⟩⟩, Below.refl _ _⟩
  case round =>
    obtain ⟨j, hj, rfl, hown, hbel⟩ := hrel
    have HOWN := Aside0.mk hown
    have HBL := Aside0.mk hbel
    clear hown hbel
    by_cases hlt : j < 3
    · have hx := pw_cell_below (((Below.refl w.heap.size w).alloc (Nat.le_refl _) (.cells texts 9)).trans (HBL.out.mono (by omega))) (HB.out j hlt)
      have hx' := fun o => pw_cell_below ((Below.refl wr.heap.size wr).alloc (Nat.le_refl _) o) hx
      have h16 : (j : Int) < 16 := by omega
      have ltb := World.block_lt_of_cell? wr _ hx
      have h6 := H6.out j hlt
      have hsz := HBL.out.size
      rw [size_alloc] at hsz
      have htx : ∀ (k : Nat) (v : Value), texts[k]? = some v → ∀ o, (wr.alloc o).cell? ⟨w.heap.size, k, none⟩ = some v := fun k v h o => by
        refine pw_cell_below ((Below.refl wr.heap.size wr).alloc (Nat.le_refl _) o) ?_
        have := pw_cell_below (w := w.alloc (.cells texts 9)) (HBL.out.mono (by rw [size_alloc]; exact Nat.le_refl _)) ((blk_cell (blk_new w (.cells texts 9)) k).trans h)
        exact this
      generalize hbe : bs j = b at hx hx' h6
      generalize hke : ks j = k at h6
      generalize hte : ts j = txt at h6
      rcases h6 with ⟨rfl, rfl, rfl⟩ | ⟨rfl, rfl, rfl⟩ | ⟨rfl, rfl, rfl⟩ | ⟨rfl, rfl, rfl⟩ | ⟨rfl, rfl, rfl⟩ | ⟨rfl, rfl, rfl⟩
      · have xs : ∀ o, (wr.alloc o).cell? ⟨w.heap.size, 13, none⟩ = some (.string ⟨#[38]⟩) := htx 13 _ rfl
        clear htx
        go_wp2_with fail
        go_region_held3 (fun w' => w'.cell? ⟨w.heap.size, 13, none⟩ = some (.string ⟨#[38]⟩))
          (first
            | go_keep
            | (rw [hgrow.cell_far _ (by simp; omega) (fun e => by have := (own_block_lt HOWN.out _ e.symm).1; simp at this; omega)]; simp [*]))
          (first
            | ((refine step_append_lies _ (by rfl) _ _ _ (by rfl) (w.heap.size + 1) 54 i0 _ 13 128 Tryd.underlying38 hi hz0 hz1 hz2 rfl (by omega) _ j (toks ks ts j) (by rfl) (by first | exact (HOWN.out.alloc _).alloc _ | exact own_twice HOWN.out _ _) ⟨wr.heap.size + 1, 0, none⟩ 1 1 (tokW j 13 ⟨#[38]⟩) (by rfl) (by rfl) (news_twice wr (.cells #[] 0) _ _ (by first | exact blk_drew (blk_new' _ _ _ (by simp)) | exact blk_new' _ _ _ (by simp))) (tok_one j _ _) (by omega) (by unfold maxLen; omega) (by omega) (by simp; omega) (wr.heap.size + 1 + 1) (by simp) ?_; intro g1 cap1 w1 hown1 hgrow hat hlt1)))
        all_goals
          have HO1 := Aside0.mk hown1
          have HG1 := Aside0.mk hgrow
          clear hown1 hgrow hat xs hx hx'
          go_wp2_with fail
          go_roundw
          case rel =>
            refine ⟨j + 1, by omega, by go_num, ?_, ?_⟩
            · rw [toks_succ, hke, hte, ← tokW_eq j hlt]; exact HO1.out
            · refine Below.grown ?_ HG1.out (by simp; omega) fun k hk => (own_block_lt HOWN.out k hk).1
              first | exact ((HBL.out.alloc (by omega) _).alloc (by simp; omega) _).drew | exact ((HBL.out.alloc (by omega) _).drew).alloc (by simp; omega) _
          case measure => simp [intOf]; omega
      · have xs : ∀ o, (wr.alloc o).cell? ⟨w.heap.size, 14, none⟩ = some (.string ⟨#[42]⟩) := htx 14 _ rfl
        clear htx
        go_wp2_with fail
        go_region_held3 (fun w' => w'.cell? ⟨w.heap.size, 14, none⟩ = some (.string ⟨#[42]⟩))
          (first
            | go_keep
            | (rw [hgrow.cell_far _ (by simp; omega) (fun e => by have := (own_block_lt HOWN.out _ e.symm).1; simp at this; omega)]; simp [*]))
          (first
            | ((refine step_append_lies _ (by rfl) _ _ _ (by rfl) (w.heap.size + 1) 54 i0 _ 13 128 Tryd.underlying38 hi hz0 hz1 hz2 rfl (by omega) _ j (toks ks ts j) (by rfl) (by first | exact (HOWN.out.alloc _).alloc _ | exact own_twice HOWN.out _ _) ⟨wr.heap.size + 1, 0, none⟩ 1 1 (tokW j 14 ⟨#[42]⟩) (by rfl) (by rfl) (news_twice wr (.cells #[] 0) _ _ (by first | exact blk_drew (blk_new' _ _ _ (by simp)) | exact blk_new' _ _ _ (by simp))) (tok_one j _ _) (by omega) (by unfold maxLen; omega) (by omega) (by simp; omega) (wr.heap.size + 1 + 1) (by simp) ?_; intro g1 cap1 w1 hown1 hgrow hat hlt1)))
        all_goals
          have HO1 := Aside0.mk hown1
          have HG1 := Aside0.mk hgrow
          clear hown1 hgrow hat xs hx hx'
          go_wp2_with fail
          go_roundw
          case rel =>
            refine ⟨j + 1, by omega, by go_num, ?_, ?_⟩
            · rw [toks_succ, hke, hte, ← tokW_eq j hlt]; exact HO1.out
            · refine Below.grown ?_ HG1.out (by simp; omega) fun k hk => (own_block_lt HOWN.out k hk).1
              first | exact ((HBL.out.alloc (by omega) _).alloc (by simp; omega) _).drew | exact ((HBL.out.alloc (by omega) _).drew).alloc (by simp; omega) _
          case measure => simp [intOf]; omega
      · have xs : ∀ o, (wr.alloc o).cell? ⟨w.heap.size, 31, none⟩ = some (.string ⟨#[115]⟩) := htx 31 _ rfl
        clear htx
        go_wp2_with fail
        go_region_held3 (fun w' => w'.cell? ⟨w.heap.size, 31, none⟩ = some (.string ⟨#[115]⟩))
          (first
            | go_keep
            | (rw [hgrow.cell_far _ (by simp; omega) (fun e => by have := (own_block_lt HOWN.out _ e.symm).1; simp at this; omega)]; simp [*]))
          (first
            | ((refine step_append_lies _ (by rfl) _ _ _ (by rfl) (w.heap.size + 1) 54 i0 _ 13 128 Tryd.underlying38 hi hz0 hz1 hz2 rfl (by omega) _ j (toks ks ts j) (by rfl) (by first | exact (HOWN.out.alloc _).alloc _ | exact own_twice HOWN.out _ _) ⟨wr.heap.size + 1, 0, none⟩ 1 1 (tokW j 31 ⟨#[115]⟩) (by rfl) (by rfl) (news_twice wr (.cells #[] 0) _ _ (by first | exact blk_drew (blk_new' _ _ _ (by simp)) | exact blk_new' _ _ _ (by simp))) (tok_one j _ _) (by omega) (by unfold maxLen; omega) (by omega) (by simp; omega) (wr.heap.size + 1 + 1) (by simp) ?_; intro g1 cap1 w1 hown1 hgrow hat hlt1)))
        all_goals
          have HO1 := Aside0.mk hown1
          have HG1 := Aside0.mk hgrow
          clear hown1 hgrow hat xs hx hx'
          go_wp2_with fail
          go_roundw
          case rel =>
            refine ⟨j + 1, by omega, by go_num, ?_, ?_⟩
            · rw [toks_succ, hke, hte, ← tokW_eq j hlt]; exact HO1.out
            · refine Below.grown ?_ HG1.out (by simp; omega) fun k hk => (own_block_lt HOWN.out k hk).1
              first | exact ((HBL.out.alloc (by omega) _).alloc (by simp; omega) _).drew | exact ((HBL.out.alloc (by omega) _).drew).alloc (by simp; omega) _
          case measure => simp [intOf]; omega
      · have xs : ∀ o, (wr.alloc o).cell? ⟨w.heap.size, 18, none⟩ = some (.string ⟨#[113]⟩) := htx 18 _ rfl
        clear htx
        go_wp2_with fail
        go_region_held3 (fun w' => w'.cell? ⟨w.heap.size, 18, none⟩ = some (.string ⟨#[113]⟩))
          (first
            | go_keep
            | (rw [hgrow.cell_far _ (by simp; omega) (fun e => by have := (own_block_lt HOWN.out _ e.symm).1; simp at this; omega)]; simp [*]))
          (first
            | ((refine step_append_lies _ (by rfl) _ _ _ (by rfl) (w.heap.size + 1) 54 i0 _ 13 128 Tryd.underlying38 hi hz0 hz1 hz2 rfl (by omega) _ j (toks ks ts j) (by rfl) (by first | exact (HOWN.out.alloc _).alloc _ | exact own_twice HOWN.out _ _) ⟨wr.heap.size + 1, 0, none⟩ 1 1 (tokW j 18 ⟨#[113]⟩) (by rfl) (by rfl) (news_twice wr (.cells #[] 0) _ _ (by first | exact blk_drew (blk_new' _ _ _ (by simp)) | exact blk_new' _ _ _ (by simp))) (tok_one j _ _) (by omega) (by unfold maxLen; omega) (by omega) (by simp; omega) (wr.heap.size + 1 + 1) (by simp) ?_; intro g1 cap1 w1 hown1 hgrow hat hlt1)))
        all_goals
          have HO1 := Aside0.mk hown1
          have HG1 := Aside0.mk hgrow
          clear hown1 hgrow hat xs hx hx'
          go_wp2_with fail
          go_roundw
          case rel =>
            refine ⟨j + 1, by omega, by go_num, ?_, ?_⟩
            · rw [toks_succ, hke, hte, ← tokW_eq j hlt]; exact HO1.out
            · refine Below.grown ?_ HG1.out (by simp; omega) fun k hk => (own_block_lt HOWN.out k hk).1
              first | exact ((HBL.out.alloc (by omega) _).alloc (by simp; omega) _).drew | exact ((HBL.out.alloc (by omega) _).drew).alloc (by simp; omega) _
          case measure => simp [intOf]; omega
      · have xs : ∀ o, (wr.alloc o).cell? ⟨w.heap.size, 19, none⟩ = some (.string ⟨#[100]⟩) := htx 19 _ rfl
        clear htx
        go_wp2_with fail
        go_region_held3 (fun w' => w'.cell? ⟨w.heap.size, 19, none⟩ = some (.string ⟨#[100]⟩))
          (first
            | go_keep
            | (rw [hgrow.cell_far _ (by simp; omega) (fun e => by have := (own_block_lt HOWN.out _ e.symm).1; simp at this; omega)]; simp [*]))
          (first
            | ((refine step_append_lies _ (by rfl) _ _ _ (by rfl) (w.heap.size + 1) 54 i0 _ 13 128 Tryd.underlying38 hi hz0 hz1 hz2 rfl (by omega) _ j (toks ks ts j) (by rfl) (by first | exact (HOWN.out.alloc _).alloc _ | exact own_twice HOWN.out _ _) ⟨wr.heap.size + 1, 0, none⟩ 1 1 (tokW j 19 ⟨#[100]⟩) (by rfl) (by rfl) (news_twice wr (.cells #[] 0) _ _ (by first | exact blk_drew (blk_new' _ _ _ (by simp)) | exact blk_new' _ _ _ (by simp))) (tok_one j _ _) (by omega) (by unfold maxLen; omega) (by omega) (by simp; omega) (wr.heap.size + 1 + 1) (by simp) ?_; intro g1 cap1 w1 hown1 hgrow hat hlt1)))
        all_goals
          have HO1 := Aside0.mk hown1
          have HG1 := Aside0.mk hgrow
          clear hown1 hgrow hat xs hx hx'
          go_wp2_with fail
          go_roundw
          case rel =>
            refine ⟨j + 1, by omega, by go_num, ?_, ?_⟩
            · rw [toks_succ, hke, hte, ← tokW_eq j hlt]; exact HO1.out
            · refine Below.grown ?_ HG1.out (by simp; omega) fun k hk => (own_block_lt HOWN.out k hk).1
              first | exact ((HBL.out.alloc (by omega) _).alloc (by simp; omega) _).drew | exact ((HBL.out.alloc (by omega) _).drew).alloc (by simp; omega) _
          case measure => simp [intOf]; omega
      · have xs : ∀ o, (wr.alloc o).cell? ⟨w.heap.size, 26, none⟩ = some (.string ⟨#[49]⟩) := htx 26 _ rfl
        clear htx
        go_wp2_with fail
        go_region_held3 (fun w' => w'.cell? ⟨w.heap.size, 26, none⟩ = some (.string ⟨#[49]⟩))
          (first
            | go_keep
            | (rw [hgrow.cell_far _ (by simp; omega) (fun e => by have := (own_block_lt HOWN.out _ e.symm).1; simp at this; omega)]; simp [*]))
          (first
            | ((refine step_append_lies _ (by rfl) _ _ _ (by rfl) (w.heap.size + 1) 54 i0 _ 13 128 Tryd.underlying38 hi hz0 hz1 hz2 rfl (by omega) _ j (toks ks ts j) (by rfl) (by first | exact (HOWN.out.alloc _).alloc _ | exact own_twice HOWN.out _ _) ⟨wr.heap.size + 1, 0, none⟩ 1 1 (tokW j 26 ⟨#[49]⟩) (by rfl) (by rfl) (news_twice wr (.cells #[] 0) _ _ (by first | exact blk_drew (blk_new' _ _ _ (by simp)) | exact blk_new' _ _ _ (by simp))) (tok_one j _ _) (by omega) (by unfold maxLen; omega) (by omega) (by simp; omega) (wr.heap.size + 1 + 1) (by simp) ?_; intro g1 cap1 w1 hown1 hgrow hat hlt1)))
        all_goals
          have HO1 := Aside0.mk hown1
          have HG1 := Aside0.mk hgrow
          clear hown1 hgrow hat xs hx hx'
          go_wp2_with fail
          go_roundw
          case rel =>
            refine ⟨j + 1, by omega, by go_num, ?_, ?_⟩
            · rw [toks_succ, hke, hte, ← tokW_eq j hlt]; exact HO1.out
            · refine Below.grown ?_ HG1.out (by simp; omega) fun k hk => (own_block_lt HOWN.out k hk).1
              first | exact ((HBL.out.alloc (by omega) _).alloc (by simp; omega) _).drew | exact ((HBL.out.alloc (by omega) _).drew).alloc (by simp; omega) _
          case measure => simp [intOf]; omega
    · obtain rfl : j = 3 := by omega
      obtain ⟨g, cap3, hu⟩ : ∃ g cap3, u3 = .slice (some ⟨g, 0, none⟩) 3 cap3 := by
        rcases HOWN.out.2 with ⟨_, h⟩ | ⟨g, cap3, cur, h, _⟩
        · omega
        · exact ⟨g, cap3, h⟩
      subst hu
      go_wp2
      go_ret
      exact ⟨g, cap3, rfl, own_base HOWN.out (by omega), (((Below.refl w.heap.size w).alloc (Nat.le_refl _) _).trans (HBL.out.mono (by omega)))⟩
end Go.Proofs.YtmildhkegpmacaaDoor.GroupToks
