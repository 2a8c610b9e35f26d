/- FnNumberWords: the makers of the words' tokens. (Written by wip/tools/words.py.) -/
import Derived.Test.YtlkbhmmelejmjaaGreatDoorTokMake
import Derived.Test.YtlkbhmmelejmjaaGreatDoorWordsPure
namespace Go.Proofs.YtlkbhmmelejmjaaGreatDoor.WordsWalk
open Go.RowKit Go.Proofs.YtlkbhmmelejmjaaGreatDoorW.PrintWords Go.Proofs.YtlkbhmmelejmjaaGreatDoor.TokBase Go.Proofs.YtlkbhmmelejmjaaGreatDoor.TokList Go.Proofs.YtlkbhmmelejmjaaGreatDoor.TokMake Go.Proofs.YtlkbhmmelejmjaaGreatDoor.WordsPure
set_option linter.unusedVariables false
set_option linter.unusedSimpArgs false

def Fn (F : Nat) (w : World) (e : Ending) (w' : World) : Prop := e = .returned (.func (.func F) #[] #[]) ∧ w = w'

set_option maxHeartbeats 1000000 in
set_option maxRecDepth 100000 in
theorem key0 (s : ByteArray) (hs : s.toList = [110, 117, 108, 108]) (w : World) : Calls Tryz.prog 87 #[.string s] w (Fn 105 w) := by
  go_enter Tryz.func87, Tryz.ntmps87
  go_wp2
  go_ret
  exact ⟨rfl, rfl⟩

set_option maxHeartbeats 1000000 in
set_option maxRecDepth 100000 in
theorem key1 (s : ByteArray) (hs : s.toList = [78, 117, 108, 108]) (w : World) : Calls Tryz.prog 87 #[.string s] w (Fn 105 w) := by
  go_enter Tryz.func87, Tryz.ntmps87
  go_wp2
  go_ret
  exact ⟨rfl, rfl⟩

set_option maxHeartbeats 1000000 in
set_option maxRecDepth 100000 in
theorem key2 (s : ByteArray) (hs : s.toList = [78, 85, 76, 76]) (w : World) : Calls Tryz.prog 87 #[.string s] w (Fn 105 w) := by
  go_enter Tryz.func87, Tryz.ntmps87
  go_wp2
  go_ret
  exact ⟨rfl, rfl⟩

set_option maxHeartbeats 1000000 in
set_option maxRecDepth 100000 in
theorem key3 (s : ByteArray) (hs : s.toList = [126]) (w : World) : Calls Tryz.prog 87 #[.string s] w (Fn 105 w) := by
  go_enter Tryz.func87, Tryz.ntmps87
  go_wp2
  go_ret
  exact ⟨rfl, rfl⟩

set_option maxHeartbeats 1000000 in
set_option maxRecDepth 100000 in
theorem key4 (s : ByteArray) (hs : s.toList = [116, 114, 117, 101]) (w : World) : Calls Tryz.prog 87 #[.string s] w (Fn 107 w) := by
  go_enter Tryz.func87, Tryz.ntmps87
  go_wp2
  go_ret
  exact ⟨rfl, rfl⟩

set_option maxHeartbeats 1000000 in
set_option maxRecDepth 100000 in
theorem key5 (s : ByteArray) (hs : s.toList = [84, 114, 117, 101]) (w : World) : Calls Tryz.prog 87 #[.string s] w (Fn 107 w) := by
  go_enter Tryz.func87, Tryz.ntmps87
  go_wp2
  go_ret
  exact ⟨rfl, rfl⟩

set_option maxHeartbeats 1000000 in
set_option maxRecDepth 100000 in
theorem key6 (s : ByteArray) (hs : s.toList = [84, 82, 85, 69]) (w : World) : Calls Tryz.prog 87 #[.string s] w (Fn 107 w) := by
  go_enter Tryz.func87, Tryz.ntmps87
  go_wp2
  go_ret
  exact ⟨rfl, rfl⟩

set_option maxHeartbeats 1000000 in
set_option maxRecDepth 100000 in
theorem key7 (s : ByteArray) (hs : s.toList = [102, 97, 108, 115, 101]) (w : World) : Calls Tryz.prog 87 #[.string s] w (Fn 107 w) := by
  go_enter Tryz.func87, Tryz.ntmps87
  go_wp2
  go_ret
  exact ⟨rfl, rfl⟩

set_option maxHeartbeats 1000000 in
set_option maxRecDepth 100000 in
theorem key8 (s : ByteArray) (hs : s.toList = [70, 97, 108, 115, 101]) (w : World) : Calls Tryz.prog 87 #[.string s] w (Fn 107 w) := by
  go_enter Tryz.func87, Tryz.ntmps87
  go_wp2
  go_ret
  exact ⟨rfl, rfl⟩

set_option maxHeartbeats 1000000 in
set_option maxRecDepth 100000 in
theorem key9 (s : ByteArray) (hs : s.toList = [70, 65, 76, 83, 69]) (w : World) : Calls Tryz.prog 87 #[.string s] w (Fn 107 w) := by
  go_enter Tryz.func87, Tryz.ntmps87
  go_wp2
  go_ret
  exact ⟨rfl, rfl⟩

set_option maxHeartbeats 1000000 in
set_option maxRecDepth 100000 in
theorem key10 (s : ByteArray) (hs : s.toList = [46, 105, 110, 102]) (w : World) : Calls Tryz.prog 87 #[.string s] w (Fn 108 w) := by
  go_enter Tryz.func87, Tryz.ntmps87
  go_wp2
  go_ret
  exact ⟨rfl, rfl⟩

set_option maxHeartbeats 1000000 in
set_option maxRecDepth 100000 in
theorem key11 (s : ByteArray) (hs : s.toList = [46, 73, 110, 102]) (w : World) : Calls Tryz.prog 87 #[.string s] w (Fn 108 w) := by
  go_enter Tryz.func87, Tryz.ntmps87
  go_wp2
  go_ret
  exact ⟨rfl, rfl⟩

set_option maxHeartbeats 1000000 in
set_option maxRecDepth 100000 in
theorem key12 (s : ByteArray) (hs : s.toList = [46, 73, 78, 70]) (w : World) : Calls Tryz.prog 87 #[.string s] w (Fn 108 w) := by
  go_enter Tryz.func87, Tryz.ntmps87
  go_wp2
  go_ret
  exact ⟨rfl, rfl⟩

set_option maxHeartbeats 1000000 in
set_option maxRecDepth 100000 in
theorem key13 (s : ByteArray) (hs : s.toList = [45, 46, 105, 110, 102]) (w : World) : Calls Tryz.prog 87 #[.string s] w (Fn 108 w) := by
  go_enter Tryz.func87, Tryz.ntmps87
  go_wp2
  go_ret
  exact ⟨rfl, rfl⟩

set_option maxHeartbeats 1000000 in
set_option maxRecDepth 100000 in
theorem key14 (s : ByteArray) (hs : s.toList = [45, 46, 73, 110, 102]) (w : World) : Calls Tryz.prog 87 #[.string s] w (Fn 108 w) := by
  go_enter Tryz.func87, Tryz.ntmps87
  go_wp2
  go_ret
  exact ⟨rfl, rfl⟩

set_option maxHeartbeats 1000000 in
set_option maxRecDepth 100000 in
theorem key15 (s : ByteArray) (hs : s.toList = [45, 46, 73, 78, 70]) (w : World) : Calls Tryz.prog 87 #[.string s] w (Fn 108 w) := by
  go_enter Tryz.func87, Tryz.ntmps87
  go_wp2
  go_ret
  exact ⟨rfl, rfl⟩

set_option maxHeartbeats 1000000 in
set_option maxRecDepth 100000 in
theorem key16 (s : ByteArray) (hs : s.toList = [46, 110, 97, 110]) (w : World) : Calls Tryz.prog 87 #[.string s] w (Fn 109 w) := by
  go_enter Tryz.func87, Tryz.ntmps87
  go_wp2
  go_ret
  exact ⟨rfl, rfl⟩

set_option maxHeartbeats 1000000 in
set_option maxRecDepth 100000 in
theorem key17 (s : ByteArray) (hs : s.toList = [46, 78, 97, 78]) (w : World) : Calls Tryz.prog 87 #[.string s] w (Fn 109 w) := by
  go_enter Tryz.func87, Tryz.ntmps87
  go_wp2
  go_ret
  exact ⟨rfl, rfl⟩

set_option maxHeartbeats 1000000 in
set_option maxRecDepth 100000 in
theorem key18 (s : ByteArray) (hs : s.toList = [46, 78, 65, 78]) (w : World) : Calls Tryz.prog 87 #[.string s] w (Fn 109 w) := by
  go_enter Tryz.func87, Tryz.ntmps87
  go_wp2
  go_ret
  exact ⟨rfl, rfl⟩

theorem fn_neq105 (w : World) : Sem.run Tryz.prog (binOp BinOp.neq 82 (Value.func (Fn.func 105) #[] #[]) Value.nilFunc) w = .ok (.bool true) w := by kernel_rfl
set_option maxHeartbeats 1000000 in
set_option maxRecDepth 100000 in
theorem new105 (s o : ByteArray) (q : Nat) (w : World) (hk : Calls Tryz.prog 87 #[.string s] w (Fn 105 w)) : Calls Tryz.prog 48 #[.string s, .string o, .pointer (some ⟨q, 0, none⟩)] w (Maked 22 2 0 s o q w) := by
  have C := Aside0.mk hk
  have e2 := fn_neq105
  clear hk
  go_enter Tryz.func48, Tryz.ntmps48
  go_wp2_with fail
  refine C.out.mono ?_
  rintro e w1 ⟨rfl, rfl⟩
  go_wp2
  go_ret
  exact ⟨_, rfl, Nat.le_refl _, blk_new _ _, (Below.refl _ _).alloc (Nat.le_refl _) _⟩

theorem fn_neq107 (w : World) : Sem.run Tryz.prog (binOp BinOp.neq 82 (Value.func (Fn.func 107) #[] #[]) Value.nilFunc) w = .ok (.bool true) w := by kernel_rfl
set_option maxHeartbeats 1000000 in
set_option maxRecDepth 100000 in
theorem new107 (s o : ByteArray) (q : Nat) (w : World) (hk : Calls Tryz.prog 87 #[.string s] w (Fn 107 w)) : Calls Tryz.prog 48 #[.string s, .string o, .pointer (some ⟨q, 0, none⟩)] w (Maked 32 2 0 s o q w) := by
  have C := Aside0.mk hk
  have e2 := fn_neq107
  clear hk
  go_enter Tryz.func48, Tryz.ntmps48
  go_wp2_with fail
  refine C.out.mono ?_
  rintro e w1 ⟨rfl, rfl⟩
  go_wp2
  go_ret
  exact ⟨_, rfl, Nat.le_refl _, blk_new _ _, (Below.refl _ _).alloc (Nat.le_refl _) _⟩

theorem fn_neq108 (w : World) : Sem.run Tryz.prog (binOp BinOp.neq 82 (Value.func (Fn.func 108) #[] #[]) Value.nilFunc) w = .ok (.bool true) w := by kernel_rfl
set_option maxHeartbeats 1000000 in
set_option maxRecDepth 100000 in
theorem new108 (s o : ByteArray) (q : Nat) (w : World) (hk : Calls Tryz.prog 87 #[.string s] w (Fn 108 w)) : Calls Tryz.prog 48 #[.string s, .string o, .pointer (some ⟨q, 0, none⟩)] w (Maked 24 2 0 s o q w) := by
  have C := Aside0.mk hk
  have e2 := fn_neq108
  clear hk
  go_enter Tryz.func48, Tryz.ntmps48
  go_wp2_with fail
  refine C.out.mono ?_
  rintro e w1 ⟨rfl, rfl⟩
  go_wp2
  go_ret
  exact ⟨_, rfl, Nat.le_refl _, blk_new _ _, (Below.refl _ _).alloc (Nat.le_refl _) _⟩

theorem fn_neq109 (w : World) : Sem.run Tryz.prog (binOp BinOp.neq 82 (Value.func (Fn.func 109) #[] #[]) Value.nilFunc) w = .ok (.bool true) w := by kernel_rfl
set_option maxHeartbeats 1000000 in
set_option maxRecDepth 100000 in
theorem new109 (s o : ByteArray) (q : Nat) (w : World) (hk : Calls Tryz.prog 87 #[.string s] w (Fn 109 w)) : Calls Tryz.prog 48 #[.string s, .string o, .pointer (some ⟨q, 0, none⟩)] w (Maked 25 2 0 s o q w) := by
  have C := Aside0.mk hk
  have e2 := fn_neq109
  clear hk
  go_enter Tryz.func48, Tryz.ntmps48
  go_wp2_with fail
  refine C.out.mono ?_
  rintro e w1 ⟨rfl, rfl⟩
  go_wp2
  go_ret
  exact ⟨_, rfl, Nat.le_refl _, blk_new _ _, (Below.refl _ _).alloc (Nat.le_refl _) _⟩

/-- New at one of the words. -/
theorem new_word (s : ByteArray) (n : Int) (h : (s.toList, n) ∈ words) (o : ByteArray) (q : Nat) (w : World) : Calls Tryz.prog 48 #[.string s, .string o, .pointer (some ⟨q, 0, none⟩)] w (Maked n 2 0 s o q w) := by
  simp only [words, List.mem_cons, List.mem_nil_iff, or_false, Prod.mk.injEq] at h
  rcases h with ⟨h, rfl⟩ | ⟨h, rfl⟩ | ⟨h, rfl⟩ | ⟨h, rfl⟩ | ⟨h, rfl⟩ | ⟨h, rfl⟩ | ⟨h, rfl⟩ | ⟨h, rfl⟩ | ⟨h, rfl⟩ | ⟨h, rfl⟩ | ⟨h, rfl⟩ | ⟨h, rfl⟩ | ⟨h, rfl⟩ | ⟨h, rfl⟩ | ⟨h, rfl⟩ | ⟨h, rfl⟩ | ⟨h, rfl⟩ | ⟨h, rfl⟩ | ⟨h, rfl⟩
  · exact new105 s o q w (key0 s h w)
  · exact new105 s o q w (key1 s h w)
  · exact new105 s o q w (key2 s h w)
  · exact new105 s o q w (key3 s h w)
  · exact new107 s o q w (key4 s h w)
  · exact new107 s o q w (key5 s h w)
  · exact new107 s o q w (key6 s h w)
  · exact new107 s o q w (key7 s h w)
  · exact new107 s o q w (key8 s h w)
  · exact new107 s o q w (key9 s h w)
  · exact new108 s o q w (key10 s h w)
  · exact new108 s o q w (key11 s h w)
  · exact new108 s o q w (key12 s h w)
  · exact new108 s o q w (key13 s h w)
  · exact new108 s o q w (key14 s h w)
  · exact new108 s o q w (key15 s h w)
  · exact new109 s o q w (key16 s h w)
  · exact new109 s o q w (key17 s h w)
  · exact new109 s o q w (key18 s h w)

set_option maxHeartbeats 1000000 in
set_option maxRecDepth 100000 in
theorem maker_word (s : ByteArray) (n : Int) (h : (s.toList, n) ∈ words) (o : ByteArray) (q : Nat) (w : World) :
    Calls Tryz.prog 21 #[.int .i64 (-1), .string s, .string o, .pointer (some ⟨q, 0, none⟩)] w (Maked n 2 0 s o q w) := by
  have C := Aside0.mk (new_word s n h o q w)
  clear h
  go_enter Tryz.func21, Tryz.ntmps21
  go_wp2_with fail
  refine C.out.mono ?_
  rintro e w1 ⟨t, rfl, h1, h2, h3⟩
  have H1 := Aside0.mk h1
  have H2 := Aside0.mk h2
  have H3 := Aside0.mk h3
  clear h1 h2 h3
  go_wp2_with fail
  go_ret
  exact ⟨t, rfl, H1.out, H2.out, H3.out⟩

theorem field_type (n : Int) (s : ByteArray) (w : World) : Sem.run Tryz.prog (Instr.field 25 (Value.agg #[.int .i64 n, .int .i64 2, .int .i64 0, .string s, .string s, .string ⟨#[]⟩, .int .i64 1, .int .i64 1, .int .i64 0, .int .i64 0, .int .i64 0, .int .i64 (-1), .int .i64 (-1)]) 0) w = .ok (.int .i64 n) w := by kernel_rfl

def Yes (w : World) (e : Ending) (w' : World) : Prop := e = .returned (.bool true) ∧ Below w.heap.size w w'
set_option maxHeartbeats 4000000 in
set_option maxRecDepth 100000 in
theorem law_any (s : ByteArray) (w : World) (hs : s.size ≤ 140737488351232) : Calls Tryz.prog 8 #[.string s] w (Yes w) := by
  by_cases hbig : 2147483647 < s.size
  · go_enter Tryz.func8, Tryz.ntmps8
    go_wp2_with fail
    go_ret
    exact ⟨rfl, Below.refl _ _⟩
  have n5 : ¬ (2147483647 : Int) < (s.size : Int) := by omega
  obtain ⟨k, n, hk, hn⟩ := known_any s (by omega)
  have HK := Aside0.mk hk
  clear hk
  rcases hn with rfl | hn
  · go_enter Tryz.func8, Tryz.ntmps8
    go_wp2_with fail
    refine (WordsKnown.laws_nbKnown.calls k s 0 _ HK.out).mono ?_
    rintro e w1 ⟨rfl, b1⟩
    have B1 := Aside0.mk b1.below
    clear b1
    go_wp2_with fail
    go_ret
    exact ⟨rfl, B1.out⟩
  · have hn0 : (n == 0) = false := by
      simp only [words, List.mem_cons, List.mem_nil_iff, or_false, Prod.mk.injEq] at hn
      rcases hn with ⟨_, rfl⟩ | ⟨_, rfl⟩ | ⟨_, rfl⟩ | ⟨_, rfl⟩ | ⟨_, rfl⟩ | ⟨_, rfl⟩ | ⟨_, rfl⟩ | ⟨_, rfl⟩ | ⟨_, rfl⟩ | ⟨_, rfl⟩ | ⟨_, rfl⟩ | ⟨_, rfl⟩ | ⟨_, rfl⟩ | ⟨_, rfl⟩ | ⟨_, rfl⟩ | ⟨_, rfl⟩ | ⟨_, rfl⟩ | ⟨_, rfl⟩ | ⟨_, rfl⟩ <;> rfl
    have CM := Aside0.mk fun W => make_of (-1) n 2 0 s s 1 1 0 (by omega) (by omega) (fun q W => maker_word s n hn s q W) W
    clear hn
    go_enter Tryz.func8, Tryz.ntmps8
    go_wp2_with fail
    refine (WordsKnown.laws_nbKnown.calls k s n _ HK.out).mono ?_
    rintro e w1 ⟨rfl, b1⟩
    have B1 := Aside0.mk b1.below
    clear b1
    go_wp2_with fail
    refine (CM.out _).mono ?_
    rintro e w2 ⟨rfl, b2⟩
    have B2 := Aside0.mk (B1.out.trans (b2.mono B1.out.size))
    clear b2
    have hf := field_type n s w2
    unfold tokAgg
    simp only [tokCells]
    go_wp2_with fail
    go_ret
    exact ⟨rfl, B2.out⟩
end Go.Proofs.YtlkbhmmelejmjaaGreatDoor.WordsWalk
