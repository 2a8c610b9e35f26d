/- ReadHeader at every text of at most three digits and signs: what it tells where it tells something. (Written by wip/tools/parseread.py.) -/
import Derived.Test.YtmildhkegpmacaaDoorHeadWalks
namespace Go.Proofs.YtmildhkegpmacaaDoor.ParseRead
open Go.RowKit Go.Proofs.YtmildhkegpmacaaDoorW.PrintWords Go.Proofs.YtmildhkegpmacaaDoor.Utf
open Go.Proofs.YtmildhkegpmacaaDoor.Runes (Tabs tabs_below Reads scRunes_ok all all_f)
set_option linter.unusedVariables false
set_option linter.unusedSimpArgs false

/-- Which texts are headers, and with which indentation. -/
def Good (L : List Int) (i : Int) : Prop :=
  (L = [] ∧ i = 0) ∨ (∃ d, 49 ≤ d ∧ d ≤ 57 ∧ L = [d] ∧ i = d - 48) ∨ (∃ s, (s = 43 ∨ s = 45) ∧ L = [s] ∧ i = 0) ∨
  (∃ d s, 49 ≤ d ∧ d ≤ 57 ∧ (s = 43 ∨ s = 45) ∧ L = [d, s] ∧ i = d - 48) ∨ (∃ d s, 49 ≤ d ∧ d ≤ 57 ∧ (s = 43 ∨ s = 45) ∧ L = [s, d] ∧ i = d - 48)

/-- A digit or a sign. -/
def Kind (c : Int) : Prop := (49 ≤ c ∧ c ≤ 57) ∨ c = 48 ∨ c = 43 ∨ c = 45

theorem white_no (c : Int) (h : 43 ≤ c) : PFnPartQuotes.spec_scWhite.f c = some false := by
  unfold PFnPartQuotes.spec_scWhite.f
  rw [if_neg (by omega)]
  congr 1
  exact beq_eq_false_iff_ne.mpr (by omega)

theorem kind_ge {c : Int} (h : Kind c) : 43 ≤ c ∧ c ≤ 57 := by unfold Kind at h; omega

theorem kind_scalar (L : List Int) (h : ∀ c ∈ L, Kind c) : ∀ r ∈ L, Scalar r := fun r hr => by
  have := kind_ge (h r hr)
  unfold Scalar
  omega

theorem kind_all (L : List Int) (h : ∀ c ∈ L, Kind c) : all false L = true := by
  unfold all
  rw [List.all_eq_true]
  intro r hr
  have := kind_ge (h r hr)
  unfold Runes.content
  rw [if_pos (by omega)]
  simp
  omega

/-- What the walk says. -/
def Says (L : List Int) (w : World) (e : Ending) (w' : World) : Prop := ∃ ch i is : Int, e = .returned (.tuple #[.int .i64 ch, .int .i64 i, .int .i64 is]) ∧ (is = 2 → Good L i) ∧ Below w.heap.size w w'

set_option maxHeartbeats 8000000 in
set_option maxRecDepth 100000 in
theorem read1 (s : ByteArray) (c0 : Int) (k0 : Kind c0) (he : B s = enc [c0]) (w : World) (hT : Tabs w) :
    Calls Tryd.prog 11 #[.string s] w (Says [c0] w) := by
  have hK : ∀ c ∈ ([c0] : List Int), Kind c := by
    intro c hc
    simp only [List.mem_cons, List.mem_nil_iff, or_false] at hc
    rcases hc with rfl <;> assumption
  have hsz : s.size ≤ 65536 := by
    rw [← B_length, he]
    have := (enc_length [c0]).2
    simp only [List.length_cons, List.length_nil] at this
    omega
  have C := Aside0.mk (scRunes_ok s [c0] w hT hsz (kind_scalar _ hK) he)
  have HA : Aside0 (PFnPartQuotes.spec_scAll.f 3 [c0] false = some true) := ⟨by
    have := all_f [c0] false (by simp)
    rw [kind_all _ hK] at this
    exact this⟩
  have g0 := kind_ge k0
  have W0 := Aside0.mk (white_no c0 g0.1)
  clear hsz he hT hK
  go_enter Tryd.func11, Tryd.ntmps11
  go_wp2_with fail
  refine C.out.mono ?_
  rintro e w1 ⟨g, cap, rfl, hr, hcap, _, _, b1⟩
  have B1 := Aside0.mk b1
  have HR := Aside0.mk hr
  have y0 : w1.cell? ⟨g, 0, none⟩ = some (.int .i32 c0) := hr 0 (by simp)
  clear b1 hr
  simp only [List.length_cons, List.length_nil] at hcap ⊢
  go_wp2_with fail
  refine (PFnPartQuotes.spec_scAll.calls 3 _ cap [c0] false true _ (HR.out.kd (by simp)) hcap HA.out).mono ?_
  rintro e w2 ⟨rfl, ⟨m2, rfl⟩⟩
  clear HA HR C
  have HZ : Aside0 (∀ k, Below w.heap.size w (w1.drewN k)) := ⟨fun k => B1.out.trans (Drawn0.below ⟨⟨k, rfl⟩⟩ |>.mono B1.out.size)⟩
  clear B1
  rcases k0 with ⟨p0, q0⟩ | rfl | rfl | rfl
  · go_wp2_with fail
    go_loopw [7, 8] (fun i wh wr => i = .int .i64 1 ∧ wh = .bool false ∧ wr = w1.drewN m2) (fun _ _ _ => 0)
    case atStart => exact ⟨rfl, rfl, rfl⟩
    case round =>
      obtain ⟨rfl, rfl, rfl⟩ := hrel
      go_wp2_with fail
      go_ret3
      exact ⟨_, _, _, rfl, fun _ => .inr (.inl ⟨c0, p0, q0, rfl, by go_num⟩), HZ.out _⟩
  · go_wp2_with fail
    go_loopw [7, 8] (fun i wh wr => i = .int .i64 0 ∧ wh = .bool false ∧ wr = w1.drewN m2) (fun _ _ _ => 0)
    case atStart => exact ⟨rfl, rfl, rfl⟩
    case round =>
      obtain ⟨rfl, rfl, rfl⟩ := hrel
      go_wp2_with (go_at_call 36; refine (PFnPartQuotes.spec_scWhite.calls _ _ _ W0.out).mono ?_; rintro e w3 ⟨rfl, ⟨m3, rfl⟩⟩)
      go_ret3
      exact ⟨_, _, _, rfl, fun h => absurd h (by decide), HZ.out _⟩
  · go_wp2_with fail
    go_loopw [7, 8] (fun i wh wr => i = .int .i64 1 ∧ wh = .bool false ∧ wr = w1.drewN m2) (fun _ _ _ => 0)
    case atStart => exact ⟨rfl, rfl, rfl⟩
    case round =>
      obtain ⟨rfl, rfl, rfl⟩ := hrel
      go_wp2_with fail
      go_ret3
      exact ⟨_, _, _, rfl, fun _ => .inr (.inr (.inl ⟨43, .inl rfl, rfl, rfl⟩)), HZ.out _⟩
  · go_wp2_with fail
    go_loopw [7, 8] (fun i wh wr => i = .int .i64 1 ∧ wh = .bool false ∧ wr = w1.drewN m2) (fun _ _ _ => 0)
    case atStart => exact ⟨rfl, rfl, rfl⟩
    case round =>
      obtain ⟨rfl, rfl, rfl⟩ := hrel
      go_wp2_with fail
      go_ret3
      exact ⟨_, _, _, rfl, fun _ => .inr (.inr (.inl ⟨45, .inr rfl, rfl, rfl⟩)), HZ.out _⟩

set_option maxHeartbeats 8000000 in
set_option maxRecDepth 100000 in
theorem read2 (s : ByteArray) (c0 c1 : Int) (k0 : Kind c0) (k1 : Kind c1) (he : B s = enc [c0, c1]) (w : World) (hT : Tabs w) :
    Calls Tryd.prog 11 #[.string s] w (Says [c0, c1] w) := by
  have hK : ∀ c ∈ ([c0, c1] : List Int), Kind c := by
    intro c hc
    simp only [List.mem_cons, List.mem_nil_iff, or_false] at hc
    rcases hc with rfl | rfl <;> assumption
  have hsz : s.size ≤ 65536 := by
    rw [← B_length, he]
    have := (enc_length [c0, c1]).2
    simp only [List.length_cons, List.length_nil] at this
    omega
  have C := Aside0.mk (scRunes_ok s [c0, c1] w hT hsz (kind_scalar _ hK) he)
  have HA : Aside0 (PFnPartQuotes.spec_scAll.f 4 [c0, c1] false = some true) := ⟨by
    have := all_f [c0, c1] false (by simp)
    rw [kind_all _ hK] at this
    exact this⟩
  have g0 := kind_ge k0
  have W0 := Aside0.mk (white_no c0 g0.1)
  have g1 := kind_ge k1
  have W1 := Aside0.mk (white_no c1 g1.1)
  clear hsz he hT hK
  go_enter Tryd.func11, Tryd.ntmps11
  go_wp2_with fail
  refine C.out.mono ?_
  rintro e w1 ⟨g, cap, rfl, hr, hcap, _, _, b1⟩
  have B1 := Aside0.mk b1
  have HR := Aside0.mk hr
  have y0 : w1.cell? ⟨g, 0, none⟩ = some (.int .i32 c0) := hr 0 (by simp)
  have y1 : w1.cell? ⟨g, 1, none⟩ = some (.int .i32 c1) := hr 1 (by simp)
  clear b1 hr
  simp only [List.length_cons, List.length_nil] at hcap ⊢
  go_wp2_with fail
  refine (PFnPartQuotes.spec_scAll.calls 4 _ cap [c0, c1] false true _ (HR.out.kd (by simp)) hcap HA.out).mono ?_
  rintro e w2 ⟨rfl, ⟨m2, rfl⟩⟩
  clear HA HR C
  have HZ : Aside0 (∀ k, Below w.heap.size w (w1.drewN k)) := ⟨fun k => B1.out.trans (Drawn0.below ⟨⟨k, rfl⟩⟩ |>.mono B1.out.size)⟩
  clear B1
  rcases k0 with ⟨p0, q0⟩ | rfl | rfl | rfl
  · rcases k1 with ⟨p1, q1⟩ | rfl | rfl | rfl
    · have n45 : (c1 == 45) = false := beq_eq_false_iff_ne.mpr (by omega)
      have n43 : (c1 == 43) = false := beq_eq_false_iff_ne.mpr (by omega)
      go_wp2_with fail
      go_loopw [7, 8] (fun i wh wr => i = .int .i64 1 ∧ wh = .bool false ∧ wr = w1.drewN m2) (fun _ _ _ => 0)
      case atStart => exact ⟨rfl, rfl, rfl⟩
      case round =>
        obtain ⟨rfl, rfl, rfl⟩ := hrel
        go_wp2_with (go_at_call 36; refine (PFnPartQuotes.spec_scWhite.calls _ _ _ W1.out).mono ?_; rintro e w3 ⟨rfl, ⟨m3, rfl⟩⟩)
        go_ret3
        exact ⟨_, _, _, rfl, fun h => absurd h (by decide), HZ.out _⟩
    · go_wp2_with fail
      go_loopw [7, 8] (fun i wh wr => i = .int .i64 1 ∧ wh = .bool false ∧ wr = w1.drewN m2) (fun _ _ _ => 0)
      case atStart => exact ⟨rfl, rfl, rfl⟩
      case round =>
        obtain ⟨rfl, rfl, rfl⟩ := hrel
        go_wp2_with (go_at_call 36; refine (PFnPartQuotes.spec_scWhite.calls _ _ _ W1.out).mono ?_; rintro e w3 ⟨rfl, ⟨m3, rfl⟩⟩)
        go_ret3
        exact ⟨_, _, _, rfl, fun h => absurd h (by decide), HZ.out _⟩
    · go_wp2_with fail
      go_loopw [7, 8] (fun i wh wr => i = .int .i64 2 ∧ wh = .bool false ∧ wr = w1.drewN m2) (fun _ _ _ => 0)
      case atStart => exact ⟨rfl, rfl, rfl⟩
      case round =>
        obtain ⟨rfl, rfl, rfl⟩ := hrel
        go_wp2_with fail
        go_ret3
        exact ⟨_, _, _, rfl, fun _ => .inr (.inr (.inr (.inl ⟨c0, 43, p0, q0, .inl rfl, rfl, by go_num⟩))), HZ.out _⟩
    · go_wp2_with fail
      go_loopw [7, 8] (fun i wh wr => i = .int .i64 2 ∧ wh = .bool false ∧ wr = w1.drewN m2) (fun _ _ _ => 0)
      case atStart => exact ⟨rfl, rfl, rfl⟩
      case round =>
        obtain ⟨rfl, rfl, rfl⟩ := hrel
        go_wp2_with fail
        go_ret3
        exact ⟨_, _, _, rfl, fun _ => .inr (.inr (.inr (.inl ⟨c0, 45, p0, q0, .inr rfl, rfl, by go_num⟩))), HZ.out _⟩
  · rcases k1 with ⟨p1, q1⟩ | rfl | rfl | rfl
    · go_wp2_with fail
      go_loopw [7, 8] (fun i wh wr => i = .int .i64 0 ∧ wh = .bool false ∧ wr = w1.drewN m2) (fun _ _ _ => 0)
      case atStart => exact ⟨rfl, rfl, rfl⟩
      case round =>
        obtain ⟨rfl, rfl, rfl⟩ := hrel
        go_wp2_with (go_at_call 36; refine (PFnPartQuotes.spec_scWhite.calls _ _ _ W0.out).mono ?_; rintro e w3 ⟨rfl, ⟨m3, rfl⟩⟩)
        go_ret3
        exact ⟨_, _, _, rfl, fun h => absurd h (by decide), HZ.out _⟩
    · go_wp2_with fail
      go_loopw [7, 8] (fun i wh wr => i = .int .i64 0 ∧ wh = .bool false ∧ wr = w1.drewN m2) (fun _ _ _ => 0)
      case atStart => exact ⟨rfl, rfl, rfl⟩
      case round =>
        obtain ⟨rfl, rfl, rfl⟩ := hrel
        go_wp2_with (go_at_call 36; refine (PFnPartQuotes.spec_scWhite.calls _ _ _ W0.out).mono ?_; rintro e w3 ⟨rfl, ⟨m3, rfl⟩⟩)
        go_ret3
        exact ⟨_, _, _, rfl, fun h => absurd h (by decide), HZ.out _⟩
    · go_wp2_with fail
      go_loopw [7, 8] (fun i wh wr => i = .int .i64 0 ∧ wh = .bool false ∧ wr = w1.drewN m2) (fun _ _ _ => 0)
      case atStart => exact ⟨rfl, rfl, rfl⟩
      case round =>
        obtain ⟨rfl, rfl, rfl⟩ := hrel
        go_wp2_with (go_at_call 36; refine (PFnPartQuotes.spec_scWhite.calls _ _ _ W0.out).mono ?_; rintro e w3 ⟨rfl, ⟨m3, rfl⟩⟩)
        go_ret3
        exact ⟨_, _, _, rfl, fun h => absurd h (by decide), HZ.out _⟩
    · go_wp2_with fail
      go_loopw [7, 8] (fun i wh wr => i = .int .i64 0 ∧ wh = .bool false ∧ wr = w1.drewN m2) (fun _ _ _ => 0)
      case atStart => exact ⟨rfl, rfl, rfl⟩
      case round =>
        obtain ⟨rfl, rfl, rfl⟩ := hrel
        go_wp2_with (go_at_call 36; refine (PFnPartQuotes.spec_scWhite.calls _ _ _ W0.out).mono ?_; rintro e w3 ⟨rfl, ⟨m3, rfl⟩⟩)
        go_ret3
        exact ⟨_, _, _, rfl, fun h => absurd h (by decide), HZ.out _⟩
  · rcases k1 with ⟨p1, q1⟩ | rfl | rfl | rfl
    · go_wp2_with fail
      go_loopw [7, 8] (fun i wh wr => i = .int .i64 2 ∧ wh = .bool false ∧ wr = w1.drewN m2) (fun _ _ _ => 0)
      case atStart => exact ⟨rfl, rfl, rfl⟩
      case round =>
        obtain ⟨rfl, rfl, rfl⟩ := hrel
        go_wp2_with fail
        go_ret3
        exact ⟨_, _, _, rfl, fun _ => .inr (.inr (.inr (.inr ⟨c1, 43, p1, q1, .inl rfl, rfl, by go_num⟩))), HZ.out _⟩
    · go_wp2_with fail
      go_loopw [7, 8] (fun i wh wr => i = .int .i64 1 ∧ wh = .bool false ∧ wr = w1.drewN m2) (fun _ _ _ => 0)
      case atStart => exact ⟨rfl, rfl, rfl⟩
      case round =>
        obtain ⟨rfl, rfl, rfl⟩ := hrel
        go_wp2_with (go_at_call 36; refine (PFnPartQuotes.spec_scWhite.calls _ _ _ W1.out).mono ?_; rintro e w3 ⟨rfl, ⟨m3, rfl⟩⟩)
        go_ret3
        exact ⟨_, _, _, rfl, fun h => absurd h (by decide), HZ.out _⟩
    · go_wp2_with fail
      go_loopw [7, 8] (fun i wh wr => i = .int .i64 1 ∧ wh = .bool false ∧ wr = w1.drewN m2) (fun _ _ _ => 0)
      case atStart => exact ⟨rfl, rfl, rfl⟩
      case round =>
        obtain ⟨rfl, rfl, rfl⟩ := hrel
        go_wp2_with (go_at_call 36; refine (PFnPartQuotes.spec_scWhite.calls _ _ _ W1.out).mono ?_; rintro e w3 ⟨rfl, ⟨m3, rfl⟩⟩)
        go_ret3
        exact ⟨_, _, _, rfl, fun h => absurd h (by decide), HZ.out _⟩
    · go_wp2_with fail
      go_loopw [7, 8] (fun i wh wr => i = .int .i64 1 ∧ wh = .bool false ∧ wr = w1.drewN m2) (fun _ _ _ => 0)
      case atStart => exact ⟨rfl, rfl, rfl⟩
      case round =>
        obtain ⟨rfl, rfl, rfl⟩ := hrel
        go_wp2_with (go_at_call 36; refine (PFnPartQuotes.spec_scWhite.calls _ _ _ W1.out).mono ?_; rintro e w3 ⟨rfl, ⟨m3, rfl⟩⟩)
        go_ret3
        exact ⟨_, _, _, rfl, fun h => absurd h (by decide), HZ.out _⟩
  · rcases k1 with ⟨p1, q1⟩ | rfl | rfl | rfl
    · go_wp2_with fail
      go_loopw [7, 8] (fun i wh wr => i = .int .i64 2 ∧ wh = .bool false ∧ wr = w1.drewN m2) (fun _ _ _ => 0)
      case atStart => exact ⟨rfl, rfl, rfl⟩
      case round =>
        obtain ⟨rfl, rfl, rfl⟩ := hrel
        go_wp2_with fail
        go_ret3
        exact ⟨_, _, _, rfl, fun _ => .inr (.inr (.inr (.inr ⟨c1, 45, p1, q1, .inr rfl, rfl, by go_num⟩))), HZ.out _⟩
    · go_wp2_with fail
      go_loopw [7, 8] (fun i wh wr => i = .int .i64 1 ∧ wh = .bool false ∧ wr = w1.drewN m2) (fun _ _ _ => 0)
      case atStart => exact ⟨rfl, rfl, rfl⟩
      case round =>
        obtain ⟨rfl, rfl, rfl⟩ := hrel
        go_wp2_with (go_at_call 36; refine (PFnPartQuotes.spec_scWhite.calls _ _ _ W1.out).mono ?_; rintro e w3 ⟨rfl, ⟨m3, rfl⟩⟩)
        go_ret3
        exact ⟨_, _, _, rfl, fun h => absurd h (by decide), HZ.out _⟩
    · go_wp2_with fail
      go_loopw [7, 8] (fun i wh wr => i = .int .i64 1 ∧ wh = .bool false ∧ wr = w1.drewN m2) (fun _ _ _ => 0)
      case atStart => exact ⟨rfl, rfl, rfl⟩
      case round =>
        obtain ⟨rfl, rfl, rfl⟩ := hrel
        go_wp2_with (go_at_call 36; refine (PFnPartQuotes.spec_scWhite.calls _ _ _ W1.out).mono ?_; rintro e w3 ⟨rfl, ⟨m3, rfl⟩⟩)
        go_ret3
        exact ⟨_, _, _, rfl, fun h => absurd h (by decide), HZ.out _⟩
    · go_wp2_with fail
      go_loopw [7, 8] (fun i wh wr => i = .int .i64 1 ∧ wh = .bool false ∧ wr = w1.drewN m2) (fun _ _ _ => 0)
      case atStart => exact ⟨rfl, rfl, rfl⟩
      case round =>
        obtain ⟨rfl, rfl, rfl⟩ := hrel
        go_wp2_with (go_at_call 36; refine (PFnPartQuotes.spec_scWhite.calls _ _ _ W1.out).mono ?_; rintro e w3 ⟨rfl, ⟨m3, rfl⟩⟩)
        go_ret3
        exact ⟨_, _, _, rfl, fun h => absurd h (by decide), HZ.out _⟩

set_option maxHeartbeats 8000000 in
set_option maxRecDepth 100000 in
theorem read3 (s : ByteArray) (c0 c1 c2 : Int) (k0 : Kind c0) (k1 : Kind c1) (k2 : Kind c2) (he : B s = enc [c0, c1, c2]) (w : World) (hT : Tabs w) :
    Calls Tryd.prog 11 #[.string s] w (Says [c0, c1, c2] w) := by
  have hK : ∀ c ∈ ([c0, c1, c2] : List Int), Kind c := by
    intro c hc
    simp only [List.mem_cons, List.mem_nil_iff, or_false] at hc
    rcases hc with rfl | rfl | rfl <;> assumption
  have hsz : s.size ≤ 65536 := by
    rw [← B_length, he]
    have := (enc_length [c0, c1, c2]).2
    simp only [List.length_cons, List.length_nil] at this
    omega
  have C := Aside0.mk (scRunes_ok s [c0, c1, c2] w hT hsz (kind_scalar _ hK) he)
  have HA : Aside0 (PFnPartQuotes.spec_scAll.f 5 [c0, c1, c2] false = some true) := ⟨by
    have := all_f [c0, c1, c2] false (by simp)
    rw [kind_all _ hK] at this
    exact this⟩
  have g0 := kind_ge k0
  have W0 := Aside0.mk (white_no c0 g0.1)
  have g1 := kind_ge k1
  have W1 := Aside0.mk (white_no c1 g1.1)
  have g2 := kind_ge k2
  have W2 := Aside0.mk (white_no c2 g2.1)
  clear hsz he hT hK
  go_enter Tryd.func11, Tryd.ntmps11
  go_wp2_with fail
  refine C.out.mono ?_
  rintro e w1 ⟨g, cap, rfl, hr, hcap, _, _, b1⟩
  have B1 := Aside0.mk b1
  have HR := Aside0.mk hr
  have y0 : w1.cell? ⟨g, 0, none⟩ = some (.int .i32 c0) := hr 0 (by simp)
  have y1 : w1.cell? ⟨g, 1, none⟩ = some (.int .i32 c1) := hr 1 (by simp)
  have y2 : w1.cell? ⟨g, 2, none⟩ = some (.int .i32 c2) := hr 2 (by simp)
  clear b1 hr
  simp only [List.length_cons, List.length_nil] at hcap ⊢
  go_wp2_with fail
  refine (PFnPartQuotes.spec_scAll.calls 5 _ cap [c0, c1, c2] false true _ (HR.out.kd (by simp)) hcap HA.out).mono ?_
  rintro e w2 ⟨rfl, ⟨m2, rfl⟩⟩
  clear HA HR C
  have HZ : Aside0 (∀ k, Below w.heap.size w (w1.drewN k)) := ⟨fun k => B1.out.trans (Drawn0.below ⟨⟨k, rfl⟩⟩ |>.mono B1.out.size)⟩
  clear B1
  rcases k0 with ⟨p0, q0⟩ | rfl | rfl | rfl
  · rcases k1 with ⟨p1, q1⟩ | rfl | rfl | rfl
    · have n45 : (c1 == 45) = false := beq_eq_false_iff_ne.mpr (by omega)
      have n43 : (c1 == 43) = false := beq_eq_false_iff_ne.mpr (by omega)
      go_wp2_with fail
      go_loopw [7, 8] (fun i wh wr => i = .int .i64 1 ∧ wh = .bool false ∧ wr = w1.drewN m2) (fun _ _ _ => 0)
      case atStart => exact ⟨rfl, rfl, rfl⟩
      case round =>
        obtain ⟨rfl, rfl, rfl⟩ := hrel
        go_wp2_with (go_at_call 36; refine (PFnPartQuotes.spec_scWhite.calls _ _ _ W1.out).mono ?_; rintro e w3 ⟨rfl, ⟨m3, rfl⟩⟩)
        go_ret3
        exact ⟨_, _, _, rfl, fun h => absurd h (by decide), HZ.out _⟩
    · go_wp2_with fail
      go_loopw [7, 8] (fun i wh wr => i = .int .i64 1 ∧ wh = .bool false ∧ wr = w1.drewN m2) (fun _ _ _ => 0)
      case atStart => exact ⟨rfl, rfl, rfl⟩
      case round =>
        obtain ⟨rfl, rfl, rfl⟩ := hrel
        go_wp2_with (go_at_call 36; refine (PFnPartQuotes.spec_scWhite.calls _ _ _ W1.out).mono ?_; rintro e w3 ⟨rfl, ⟨m3, rfl⟩⟩)
        go_ret3
        exact ⟨_, _, _, rfl, fun h => absurd h (by decide), HZ.out _⟩
    · go_wp2_with fail
      go_loopw [7, 8] (fun i wh wr => i = .int .i64 2 ∧ wh = .bool false ∧ wr = w1.drewN m2) (fun _ _ _ => 0)
      case atStart => exact ⟨rfl, rfl, rfl⟩
      case round =>
        obtain ⟨rfl, rfl, rfl⟩ := hrel
        go_wp2_with (go_at_call 36; refine (PFnPartQuotes.spec_scWhite.calls _ _ _ W2.out).mono ?_; rintro e w3 ⟨rfl, ⟨m3, rfl⟩⟩)
        go_ret3
        exact ⟨_, _, _, rfl, fun h => absurd h (by decide), HZ.out _⟩
    · go_wp2_with fail
      go_loopw [7, 8] (fun i wh wr => i = .int .i64 2 ∧ wh = .bool false ∧ wr = w1.drewN m2) (fun _ _ _ => 0)
      case atStart => exact ⟨rfl, rfl, rfl⟩
      case round =>
        obtain ⟨rfl, rfl, rfl⟩ := hrel
        go_wp2_with (go_at_call 36; refine (PFnPartQuotes.spec_scWhite.calls _ _ _ W2.out).mono ?_; rintro e w3 ⟨rfl, ⟨m3, rfl⟩⟩)
        go_ret3
        exact ⟨_, _, _, rfl, fun h => absurd h (by decide), HZ.out _⟩
  · rcases k1 with ⟨p1, q1⟩ | rfl | rfl | rfl
    · go_wp2_with fail
      go_loopw [7, 8] (fun i wh wr => i = .int .i64 0 ∧ wh = .bool false ∧ wr = w1.drewN m2) (fun _ _ _ => 0)
      case atStart => exact ⟨rfl, rfl, rfl⟩
      case round =>
        obtain ⟨rfl, rfl, rfl⟩ := hrel
        go_wp2_with (go_at_call 36; refine (PFnPartQuotes.spec_scWhite.calls _ _ _ W0.out).mono ?_; rintro e w3 ⟨rfl, ⟨m3, rfl⟩⟩)
        go_ret3
        exact ⟨_, _, _, rfl, fun h => absurd h (by decide), HZ.out _⟩
    · go_wp2_with fail
      go_loopw [7, 8] (fun i wh wr => i = .int .i64 0 ∧ wh = .bool false ∧ wr = w1.drewN m2) (fun _ _ _ => 0)
      case atStart => exact ⟨rfl, rfl, rfl⟩
      case round =>
        obtain ⟨rfl, rfl, rfl⟩ := hrel
        go_wp2_with (go_at_call 36; refine (PFnPartQuotes.spec_scWhite.calls _ _ _ W0.out).mono ?_; rintro e w3 ⟨rfl, ⟨m3, rfl⟩⟩)
        go_ret3
        exact ⟨_, _, _, rfl, fun h => absurd h (by decide), HZ.out _⟩
    · go_wp2_with fail
      go_loopw [7, 8] (fun i wh wr => i = .int .i64 0 ∧ wh = .bool false ∧ wr = w1.drewN m2) (fun _ _ _ => 0)
      case atStart => exact ⟨rfl, rfl, rfl⟩
      case round =>
        obtain ⟨rfl, rfl, rfl⟩ := hrel
        go_wp2_with (go_at_call 36; refine (PFnPartQuotes.spec_scWhite.calls _ _ _ W0.out).mono ?_; rintro e w3 ⟨rfl, ⟨m3, rfl⟩⟩)
        go_ret3
        exact ⟨_, _, _, rfl, fun h => absurd h (by decide), HZ.out _⟩
    · go_wp2_with fail
      go_loopw [7, 8] (fun i wh wr => i = .int .i64 0 ∧ wh = .bool false ∧ wr = w1.drewN m2) (fun _ _ _ => 0)
      case atStart => exact ⟨rfl, rfl, rfl⟩
      case round =>
        obtain ⟨rfl, rfl, rfl⟩ := hrel
        go_wp2_with (go_at_call 36; refine (PFnPartQuotes.spec_scWhite.calls _ _ _ W0.out).mono ?_; rintro e w3 ⟨rfl, ⟨m3, rfl⟩⟩)
        go_ret3
        exact ⟨_, _, _, rfl, fun h => absurd h (by decide), HZ.out _⟩
  · rcases k1 with ⟨p1, q1⟩ | rfl | rfl | rfl
    · go_wp2_with fail
      go_loopw [7, 8] (fun i wh wr => i = .int .i64 2 ∧ wh = .bool false ∧ wr = w1.drewN m2) (fun _ _ _ => 0)
      case atStart => exact ⟨rfl, rfl, rfl⟩
      case round =>
        obtain ⟨rfl, rfl, rfl⟩ := hrel
        go_wp2_with (go_at_call 36; refine (PFnPartQuotes.spec_scWhite.calls _ _ _ W2.out).mono ?_; rintro e w3 ⟨rfl, ⟨m3, rfl⟩⟩)
        go_ret3
        exact ⟨_, _, _, rfl, fun h => absurd h (by decide), HZ.out _⟩
    · go_wp2_with fail
      go_loopw [7, 8] (fun i wh wr => i = .int .i64 1 ∧ wh = .bool false ∧ wr = w1.drewN m2) (fun _ _ _ => 0)
      case atStart => exact ⟨rfl, rfl, rfl⟩
      case round =>
        obtain ⟨rfl, rfl, rfl⟩ := hrel
        go_wp2_with (go_at_call 36; refine (PFnPartQuotes.spec_scWhite.calls _ _ _ W1.out).mono ?_; rintro e w3 ⟨rfl, ⟨m3, rfl⟩⟩)
        go_ret3
        exact ⟨_, _, _, rfl, fun h => absurd h (by decide), HZ.out _⟩
    · go_wp2_with fail
      go_loopw [7, 8] (fun i wh wr => i = .int .i64 1 ∧ wh = .bool false ∧ wr = w1.drewN m2) (fun _ _ _ => 0)
      case atStart => exact ⟨rfl, rfl, rfl⟩
      case round =>
        obtain ⟨rfl, rfl, rfl⟩ := hrel
        go_wp2_with (go_at_call 36; refine (PFnPartQuotes.spec_scWhite.calls _ _ _ W1.out).mono ?_; rintro e w3 ⟨rfl, ⟨m3, rfl⟩⟩)
        go_ret3
        exact ⟨_, _, _, rfl, fun h => absurd h (by decide), HZ.out _⟩
    · go_wp2_with fail
      go_loopw [7, 8] (fun i wh wr => i = .int .i64 1 ∧ wh = .bool false ∧ wr = w1.drewN m2) (fun _ _ _ => 0)
      case atStart => exact ⟨rfl, rfl, rfl⟩
      case round =>
        obtain ⟨rfl, rfl, rfl⟩ := hrel
        go_wp2_with (go_at_call 36; refine (PFnPartQuotes.spec_scWhite.calls _ _ _ W1.out).mono ?_; rintro e w3 ⟨rfl, ⟨m3, rfl⟩⟩)
        go_ret3
        exact ⟨_, _, _, rfl, fun h => absurd h (by decide), HZ.out _⟩
  · rcases k1 with ⟨p1, q1⟩ | rfl | rfl | rfl
    · go_wp2_with fail
      go_loopw [7, 8] (fun i wh wr => i = .int .i64 2 ∧ wh = .bool false ∧ wr = w1.drewN m2) (fun _ _ _ => 0)
      case atStart => exact ⟨rfl, rfl, rfl⟩
      case round =>
        obtain ⟨rfl, rfl, rfl⟩ := hrel
        go_wp2_with (go_at_call 36; refine (PFnPartQuotes.spec_scWhite.calls _ _ _ W2.out).mono ?_; rintro e w3 ⟨rfl, ⟨m3, rfl⟩⟩)
        go_ret3
        exact ⟨_, _, _, rfl, fun h => absurd h (by decide), HZ.out _⟩
    · go_wp2_with fail
      go_loopw [7, 8] (fun i wh wr => i = .int .i64 1 ∧ wh = .bool false ∧ wr = w1.drewN m2) (fun _ _ _ => 0)
      case atStart => exact ⟨rfl, rfl, rfl⟩
      case round =>
        obtain ⟨rfl, rfl, rfl⟩ := hrel
        go_wp2_with (go_at_call 36; refine (PFnPartQuotes.spec_scWhite.calls _ _ _ W1.out).mono ?_; rintro e w3 ⟨rfl, ⟨m3, rfl⟩⟩)
        go_ret3
        exact ⟨_, _, _, rfl, fun h => absurd h (by decide), HZ.out _⟩
    · go_wp2_with fail
      go_loopw [7, 8] (fun i wh wr => i = .int .i64 1 ∧ wh = .bool false ∧ wr = w1.drewN m2) (fun _ _ _ => 0)
      case atStart => exact ⟨rfl, rfl, rfl⟩
      case round =>
        obtain ⟨rfl, rfl, rfl⟩ := hrel
        go_wp2_with (go_at_call 36; refine (PFnPartQuotes.spec_scWhite.calls _ _ _ W1.out).mono ?_; rintro e w3 ⟨rfl, ⟨m3, rfl⟩⟩)
        go_ret3
        exact ⟨_, _, _, rfl, fun h => absurd h (by decide), HZ.out _⟩
    · go_wp2_with fail
      go_loopw [7, 8] (fun i wh wr => i = .int .i64 1 ∧ wh = .bool false ∧ wr = w1.drewN m2) (fun _ _ _ => 0)
      case atStart => exact ⟨rfl, rfl, rfl⟩
      case round =>
        obtain ⟨rfl, rfl, rfl⟩ := hrel
        go_wp2_with (go_at_call 36; refine (PFnPartQuotes.spec_scWhite.calls _ _ _ W1.out).mono ?_; rintro e w3 ⟨rfl, ⟨m3, rfl⟩⟩)
        go_ret3
        exact ⟨_, _, _, rfl, fun h => absurd h (by decide), HZ.out _⟩
end Go.Proofs.YtmildhkegpmacaaDoor.ParseRead
