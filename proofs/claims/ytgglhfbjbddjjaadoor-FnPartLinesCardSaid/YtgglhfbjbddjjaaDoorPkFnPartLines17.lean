/- Parts of the proof of FnPartLines, one behind the other: ScDouble. Each part says ahead of itself what it proves. -/
import Derived.Test.YtgglhfbjbddjjaaDoorPkFnPartLines14
import Derived.Test.YtgglhfbjbddjjaaDoorPkFnPartLines7

/- scanDoubleQuote: where the scan of the runes behind the quote comes to a value, the token has it, and the whole text but its last break was passed. -/
namespace Go.Proofs.YtgglhfbjbddjjaaDoor.ScDouble
open Go.RowKit Go.Proofs.YtgglhfbjbddjjaaDoorW.PrintWords Go.Proofs.YtgglhfbjbddjjaaDoorW.PrintMore Go.Proofs.YtgglhfbjbddjjaaDoor.Utf Go.Proofs.YtgglhfbjbddjjaaDoor.Runes Go.Proofs.YtgglhfbjbddjjaaDoor.ScBase Go.Proofs.YtgglhfbjbddjjaaDoor.ScStep Go.Proofs.YtgglhfbjbddjjaaDoor.ScHex Go.Proofs.YtgglhfbjbddjjaaDoor.ScHexes Go.Proofs.YtgglhfbjbddjjaaDoor.ScMark Go.Proofs.YtgglhfbjbddjjaaDoor.ScLoop Go.Proofs.YtgglhfbjbddjjaaDoor.ScSingle Go.Proofs.YtgglhfbjbddjjaaDoor.LnPure
set_option linter.unusedVariables false
set_option linter.unusedSimpArgs false
attribute [local go_sem ↓] Go.wp_at_zero Go.wp_at_succ

theorem ite_some'' {p : Prop} [Decidable p] {a x : Int} {r : Option Int} (h : (if p then some a else r) = some x) : (p ∧ x = a) ∨ r = some x := by
  split at h
  · rename_i hp; injection h with h; exact .inl ⟨hp, h.symm⟩
  · exact .inr h
theorem named_cases {d x : Int} (h : named d = some x) : (d = 48 ∧ x = 0) ∨ (d = 97 ∧ x = 7) ∨ (d = 98 ∧ x = 8) ∨ (d = 116 ∧ x = 9) ∨ (d = 110 ∧ x = 10) ∨ (d = 118 ∧ x = 11) ∨ (d = 102 ∧ x = 12) ∨ (d = 114 ∧ x = 13) ∨ (d = 101 ∧ x = 27) ∨ (d = 32 ∧ x = 32) ∨ (d = 34 ∧ x = 34) ∨ (d = 92 ∧ x = 92) ∨ (d = 78 ∧ x = 133) ∨ (d = 95 ∧ x = 160) ∨ (d = 76 ∧ x = 8232) ∨ (d = 80 ∧ x = 8233) := by
  unfold named at h
  iterate 15 refine (ite_some'' h).elim Or.inl (fun h => Or.inr ?_)
  rcases ite_some'' h with h | h
  · exact h
  · cases h
set_option maxRecDepth 100000 in
theorem frame_of (t : Array Value) (h : t.size = 595) : ∃ u : Nat → Value, t = #[u 0, u 1, u 2, u 3, u 4, u 5, u 6, u 7, u 8, u 9, u 10, u 11, u 12, u 13, u 14, u 15, u 16, u 17, u 18, u 19, u 20, u 21, u 22, u 23, u 24, u 25, u 26, u 27, u 28, u 29, u 30, u 31, u 32, u 33, u 34, u 35, u 36, u 37, u 38, u 39, u 40, u 41, u 42, u 43, u 44, u 45, u 46, u 47, u 48, u 49, u 50, u 51, u 52, u 53, u 54, u 55, u 56, u 57, u 58, u 59, u 60, u 61, u 62, u 63, u 64, u 65, u 66, u 67, u 68, u 69, u 70, u 71, u 72, u 73, u 74, u 75, u 76, u 77, u 78, u 79, u 80, u 81, u 82, u 83, u 84, u 85, u 86, u 87, u 88, u 89, u 90, u 91, u 92, u 93, u 94, u 95, u 96, u 97, u 98, u 99, u 100, u 101, u 102, u 103, u 104, u 105, u 106, u 107, u 108, u 109, u 110, u 111, u 112, u 113, u 114, u 115, u 116, u 117, u 118, u 119, u 120, u 121, u 122, u 123, u 124, u 125, u 126, u 127, u 128, u 129, u 130, u 131, u 132, u 133, u 134, u 135, u 136, u 137, u 138, u 139, u 140, u 141, u 142, u 143, u 144, u 145, u 146, u 147, u 148, u 149, u 150, u 151, u 152, u 153, u 154, u 155, u 156, u 157, u 158, u 159, u 160, u 161, u 162, u 163, u 164, u 165, u 166, u 167, u 168, u 169, u 170, u 171, u 172, u 173, u 174, u 175, u 176, u 177, u 178, u 179, u 180, u 181, u 182, u 183, u 184, u 185, u 186, u 187, u 188, u 189, u 190, u 191, u 192, u 193, u 194, u 195, u 196, u 197, u 198, u 199, u 200, u 201, u 202, u 203, u 204, u 205, u 206, u 207, u 208, u 209, u 210, u 211, u 212, u 213, u 214, u 215, u 216, u 217, u 218, u 219, u 220, u 221, u 222, u 223, u 224, u 225, u 226, u 227, u 228, u 229, u 230, u 231, u 232, u 233, u 234, u 235, u 236, u 237, u 238, u 239, u 240, u 241, u 242, u 243, u 244, u 245, u 246, u 247, u 248, u 249, u 250, u 251, u 252, u 253, u 254, u 255, u 256, u 257, u 258, u 259, u 260, u 261, u 262, u 263, u 264, u 265, u 266, u 267, u 268, u 269, u 270, u 271, u 272, u 273, u 274, u 275, u 276, u 277, u 278, u 279, u 280, u 281, u 282, u 283, u 284, u 285, u 286, u 287, u 288, u 289, u 290, u 291, u 292, u 293, u 294, u 295, u 296, u 297, u 298, u 299, u 300, u 301, u 302, u 303, u 304, u 305, u 306, u 307, u 308, u 309, u 310, u 311, u 312, u 313, u 314, u 315, u 316, u 317, u 318, u 319, u 320, u 321, u 322, u 323, u 324, u 325, u 326, u 327, u 328, u 329, u 330, u 331, u 332, u 333, u 334, u 335, u 336, u 337, u 338, u 339, u 340, u 341, u 342, u 343, u 344, u 345, u 346, u 347, u 348, u 349, u 350, u 351, u 352, u 353, u 354, u 355, u 356, u 357, u 358, u 359, u 360, u 361, u 362, u 363, u 364, u 365, u 366, u 367, u 368, u 369, u 370, u 371, u 372, u 373, u 374, u 375, u 376, u 377, u 378, u 379, u 380, u 381, u 382, u 383, u 384, u 385, u 386, u 387, u 388, u 389, u 390, u 391, u 392, u 393, u 394, u 395, u 396, u 397, u 398, u 399, u 400, u 401, u 402, u 403, u 404, u 405, u 406, u 407, u 408, u 409, u 410, u 411, u 412, u 413, u 414, u 415, u 416, u 417, u 418, u 419, u 420, u 421, u 422, u 423, u 424, u 425, u 426, u 427, u 428, u 429, u 430, u 431, u 432, u 433, u 434, u 435, u 436, u 437, u 438, u 439, u 440, u 441, u 442, u 443, u 444, u 445, u 446, u 447, u 448, u 449, u 450, u 451, u 452, u 453, u 454, u 455, u 456, u 457, u 458, u 459, u 460, u 461, u 462, u 463, u 464, u 465, u 466, u 467, u 468, u 469, u 470, u 471, u 472, u 473, u 474, u 475, u 476, u 477, u 478, u 479, u 480, u 481, u 482, u 483, u 484, u 485, u 486, u 487, u 488, u 489, u 490, u 491, u 492, u 493, u 494, u 495, u 496, u 497, u 498, u 499, u 500, u 501, u 502, u 503, u 504, u 505, u 506, u 507, u 508, u 509, u 510, u 511, u 512, u 513, u 514, u 515, u 516, u 517, u 518, u 519, u 520, u 521, u 522, u 523, u 524, u 525, u 526, u 527, u 528, u 529, u 530, u 531, u 532, u 533, u 534, u 535, u 536, u 537, u 538, u 539, u 540, u 541, u 542, u 543, u 544, u 545, u 546, u 547, u 548, u 549, u 550, u 551, u 552, u 553, u 554, u 555, u 556, u 557, u 558, u 559, u 560, u 561, u 562, u 563, u 564, u 565, u 566, u 567, u 568, u 569, u 570, u 571, u 572, u 573, u 574, u 575, u 576, u 577, u 578, u 579, u 580, u 581, u 582, u 583, u 584, u 585, u 586, u 587, u 588, u 589, u 590, u 591, u 592, u 593, u 594] := by
  refine ⟨fun i => t.getD i undef, ?_⟩
  have e : t = ((List.range 595).map fun i => t.getD i undef).toArray := by
    apply Array.ext
    · simp [h]
    · intro i h1 h2
      simp [Array.getD, h1]
  exact e
/-- What holds of the frame and the world at the head of the loop, when at most n rounds are to come. -/
def JD (w : World) (S C G Q cap0 N : Nat) (L R : List Int) (n : Nat) : Act → World → Prop := fun a wr => ∃ (g cap : Nat) (vs os : List Int) (O : Value) (f nw : Bool) (i : Nat) (u : Nat → Value), a = { tmps := #[.pointer (some ⟨S, 0, none⟩), .pointer (some ⟨C, 0, none⟩), u 2, u 3, u 4, u 5, .pointer (some ⟨Q, 0, none⟩), u 7, .slice (some ⟨G, 0, none⟩) N cap0, .int .i64 (N : Nat), .slice (some ⟨g, 0, none⟩) vs.length cap, .bool f, .bool nw, .int .i64 (i : Nat), u 14, u 15, u 16, u 17, u 18, u 19, u 20, u 21, u 22, u 23, u 24, u 25, u 26, u 27, u 28, u 29, u 30, u 31, u 32, u 33, u 34, u 35, u 36, u 37, u 38, u 39, u 40, u 41, u 42, u 43, u 44, u 45, u 46, u 47, u 48, u 49, u 50, u 51, u 52, u 53, u 54, u 55, u 56, u 57, u 58, u 59, u 60, u 61, u 62, u 63, u 64, u 65, u 66, u 67, u 68, u 69, u 70, u 71, u 72, u 73, u 74, u 75, u 76, u 77, u 78, u 79, u 80, u 81, u 82, u 83, u 84, u 85, u 86, u 87, u 88, u 89, u 90, u 91, u 92, u 93, u 94, u 95, u 96, u 97, u 98, u 99, u 100, u 101, u 102, u 103, u 104, u 105, u 106, u 107, u 108, u 109, u 110, u 111, u 112, u 113, u 114, u 115, u 116, u 117, u 118, u 119, u 120, u 121, u 122, u 123, u 124, u 125, u 126, u 127, u 128, u 129, u 130, u 131, u 132, u 133, u 134, u 135, u 136, u 137, u 138, u 139, u 140, u 141, u 142, u 143, u 144, u 145, u 146, u 147, u 148, u 149, u 150, u 151, u 152, u 153, u 154, u 155, u 156, u 157, u 158, u 159, u 160, u 161, u 162, u 163, u 164, u 165, u 166, u 167, u 168, u 169, u 170, u 171, u 172, u 173, u 174, u 175, u 176, u 177, u 178, u 179, u 180, u 181, u 182, u 183, u 184, u 185, u 186, u 187, u 188, u 189, u 190, u 191, u 192, u 193, u 194, u 195, u 196, u 197, u 198, u 199, u 200, u 201, u 202, u 203, u 204, u 205, u 206, u 207, u 208, u 209, u 210, u 211, u 212, u 213, u 214, u 215, u 216, u 217, u 218, u 219, u 220, u 221, u 222, u 223, u 224, u 225, u 226, u 227, u 228, u 229, u 230, u 231, u 232, u 233, u 234, u 235, u 236, u 237, u 238, u 239, u 240, u 241, u 242, u 243, u 244, u 245, u 246, u 247, u 248, u 249, u 250, u 251, u 252, u 253, u 254, u 255, u 256, u 257, u 258, u 259, u 260, u 261, u 262, u 263, u 264, u 265, u 266, u 267, u 268, u 269, u 270, u 271, u 272, u 273, u 274, u 275, u 276, u 277, u 278, u 279, u 280, u 281, u 282, u 283, u 284, u 285, u 286, u 287, u 288, u 289, u 290, u 291, u 292, u 293, u 294, u 295, u 296, u 297, u 298, u 299, u 300, u 301, u 302, u 303, u 304, u 305, u 306, u 307, u 308, u 309, u 310, u 311, u 312, u 313, u 314, u 315, u 316, u 317, u 318, u 319, u 320, u 321, u 322, u 323, u 324, u 325, u 326, u 327, u 328, u 329, u 330, u 331, u 332, u 333, u 334, u 335, u 336, u 337, u 338, u 339, u 340, u 341, u 342, u 343, u 344, u 345, u 346, u 347, u 348, u 349, u 350, u 351, u 352, u 353, u 354, u 355, u 356, u 357, u 358, u 359, u 360, u 361, u 362, u 363, u 364, u 365, u 366, u 367, u 368, u 369, u 370, u 371, u 372, u 373, u 374, u 375, u 376, u 377, u 378, u 379, u 380, u 381, u 382, u 383, u 384, u 385, u 386, u 387, u 388, u 389, u 390, u 391, u 392, u 393, u 394, u 395, u 396, u 397, u 398, u 399, u 400, u 401, u 402, u 403, u 404, u 405, u 406, u 407, u 408, u 409, u 410, u 411, u 412, u 413, u 414, u 415, u 416, u 417, u 418, u 419, u 420, u 421, u 422, u 423, u 424, u 425, u 426, u 427, u 428, u 429, u 430, u 431, u 432, u 433, u 434, u 435, u 436, u 437, u 438, u 439, u 440, u 441, u 442, u 443, u 444, u 445, u 446, u 447, u 448, u 449, u 450, u 451, u 452, u 453, u 454, u 455, u 456, u 457, u 458, u 459, u 460, u 461, u 462, u 463, u 464, u 465, u 466, u 467, u 468, u 469, u 470, u 471, u 472, u 473, u 474, u 475, u 476, u 477, u 478, u 479, u 480, u 481, u 482, u 483, u 484, u 485, u 486, u 487, u 488, u 489, u 490, u 491, u 492, u 493, u 494, u 495, u 496, u 497, u 498, u 499, u 500, u 501, u 502, u 503, u 504, u 505, u 506, u 507, u 508, u 509, u 510, u 511, u 512, u 513, u 514, u 515, u 516, u 517, u 518, u 519, u 520, u 521, u 522, u 523, u 524, u 525, u 526, u 527, u 528, u 529, u 530, u 531, u 532, u 533, u 534, u 535, u 536, u 537, u 538, u 539, u 540, u 541, u 542, u 543, u 544, u 545, u 546, u 547, u 548, u 549, u 550, u 551, u 552, u 553, u 554, u 555, u 556, u 557, u 558, u 559, u 560, u 561, u 562, u 563, u 564, u 565, u 566, u 567, u 568, u 569, u 570, u 571, u 572, u 573, u 574, u 575, u 576, u 577, u 578, u 579, u 580, u 581, u 582, u 583, u 584, u 585, u 586, u 587, u 588, u 589, u 590, u 591, u 592, u 593, u 594], defers := [] } ∧ 1 ≤ i ∧ i ≤ N ∧ n = N - i ∧ Aside0 (Lp 34 w wr S C G Q cap0 L R (if nw = true then (i : Int) else (i : Int) - 1) O (.slice (some ⟨g, 0, none⟩) vs.length cap) os vs f i)
set_option maxRecDepth 100000 in
theorem JD_of {w wr : World} {S C G Q cap0 N : Nat} {L R : List Int} {n : Nat} {t : Array Value} (g cap : Nat) (vs os : List Int) (O : Value) (f nw : Bool) (i : Nat) (hsz : t.size = 595) (e0 : t[0]? = some (.pointer (some ⟨S, 0, none⟩))) (e1 : t[1]? = some (.pointer (some ⟨C, 0, none⟩))) (e6 : t[6]? = some (.pointer (some ⟨Q, 0, none⟩))) (e8 : t[8]? = some (.slice (some ⟨G, 0, none⟩) N cap0)) (e9 : t[9]? = some (.int .i64 (N : Nat))) (e10 : t[10]? = some (.slice (some ⟨g, 0, none⟩) vs.length cap)) (e11 : t[11]? = some (.bool f)) (e12 : t[12]? = some (.bool nw)) (e13 : t[13]? = some (.int .i64 (i : Nat))) (h1 : 1 ≤ i) (h2 : i ≤ N) (h3 : n = N - i) (H : Lp 34 w wr S C G Q cap0 L R (if nw = true then (i : Int) else (i : Int) - 1) O (.slice (some ⟨g, 0, none⟩) vs.length cap) os vs f i) : JD w S C G Q cap0 N L R n { tmps := t, defers := [] } wr := by
  obtain ⟨u, rfl⟩ := frame_of t hsz
  replace e0 : u 0 = .pointer (some ⟨S, 0, none⟩) := Option.some.inj e0
  replace e1 : u 1 = .pointer (some ⟨C, 0, none⟩) := Option.some.inj e1
  replace e6 : u 6 = .pointer (some ⟨Q, 0, none⟩) := Option.some.inj e6
  replace e8 : u 8 = .slice (some ⟨G, 0, none⟩) N cap0 := Option.some.inj e8
  replace e9 : u 9 = .int .i64 (N : Nat) := Option.some.inj e9
  replace e10 : u 10 = .slice (some ⟨g, 0, none⟩) vs.length cap := Option.some.inj e10
  replace e11 : u 11 = .bool f := Option.some.inj e11
  replace e12 : u 12 = .bool nw := Option.some.inj e12
  replace e13 : u 13 = .int .i64 (i : Nat) := Option.some.inj e13
  refine ⟨g, cap, vs, os, O, f, nw, i, u, ?_, h1, h2, h3, ⟨H⟩⟩
  rw [e0, e1, e6, e8, e9, e10, e11, e12, e13]
set_option maxHeartbeats 8000000 in
set_option maxRecDepth 100000 in
theorem double_scan (w : World) (S C G cap0 : Nat) (L R : List Int) (hP : Pl w S C G) (hS : SC w S (sl G L.length cap0) 0) (hC : CX w C 0 (sl G L.length cap0) (.slice none 0 0)) (hR : Reads w G L) (hT : ∀ W, Fr w W (XS S C) → Tabs W) (hX : Tx L cap0) (hsc : ∃ n, (L.drop 1).length ≤ n ∧ scan 34 n (L.drop 1) [] false = some R) :
    Calls Tryd.prog 27 #[.pointer (some ⟨S, 0, none⟩), .pointer (some ⟨C, 0, none⟩)] w (ScP w S C G cap0 L 19 R) := by
  have hAdd := Aside0.mk (add_any w w.heap.size C 0 (sl G L.length cap0) (.slice none 0 0) [] 34 hC (row_nil w _) hP.c (Nat.le_refl _) (by decide))
  have HPL := Aside0.mk hP
  have HTX := Aside0.mk hX
  have HSC := Aside0.mk hsc
  have HS := Aside0.mk hS
  have HR := Aside0.mk hR
  have HT := Aside0.mk hT
  have n1 := hX.n1
  have n2 := hX.n2
  clear hP hX hsc hS hC hR hT
  go_enter Tryd.func27, Tryd.ntmps27
  go_wp2_with fail
  refine hAdd.out.mono ?_
  rintro e w1 ⟨rfl, O, hC1, hO1, hM1, hF1⟩
  have hS1 : SC w1 S (sl G L.length cap0) 0 := HS.out.blk (hF1.block S HPL.out.s (fun hx => by
    rcases hx with hx | hx
    · exact HPL.out.sc hx
    · cases hx))
  have HCP := Aside0.mk (pos_any w1 S (sl G L.length cap0) 0 hS1)
  have H1 := Aside0.mk (And.intro hS1 (And.intro hC1 (And.intro hO1 (And.intro hM1 hF1))))
  clear hS1 hC1 hO1 hM1 hF1
  go_wp2_with fail
  refine HCP.out.mono ?_
  rintro e w2 ⟨Q, rfl, hQ1, hQ2, hb2⟩
  obtain ⟨hS1, hC1, hO1, hM1, hF1⟩ := H1.out
  have hC2 := hC1.blk (hb2.block C (CX.lt hC1))
  obtain ⟨sz, a, b, y1, y2, y3, hc2⟩ := hC2
  have x0 := blk_cell hc2 0
  have x4 := blk_cell hc2 4
  simp only [List.getElem?_toArray, List.getElem?_cons_succ, List.getElem?_cons_zero] at x0 x4
  unfold sl at x4
  have H2 := Aside0.mk (And.intro hQ1 (And.intro hQ2 (And.intro hb2 hc2)))
  clear hS1 hC1 hO1 hM1 hF1 hQ1 hQ2 hb2 hc2
  obtain ⟨N, hN⟩ : ∃ N, N = L.length := ⟨_, rfl⟩
  have HN := Aside0.mk hN
  rw [← hN] at x4 n1 n2
  clear hN
  go_wp2_with fail
  generalize hW3 : w2.alloc (Obj.cells #[] 21) = w3
  have HL : Aside0 (Lp 34 w w3 S C G Q cap0 L R 0 O (.slice (some ⟨w2.heap.size, 0, none⟩) 0 0) [34] [] false 1) := ⟨by
    obtain ⟨hS1, hC1, hO1, hM1, hF1⟩ := H1.out
    obtain ⟨hQ1, hQ2, hb2, hc2⟩ := H2.out
    have hz1 := hF1.size
    have hz2 := hb2.size
    have hb3 : Below w1.heap.size w1 w3 := by rw [← hW3]; exact hb2.alloc hz2 _
    have hb23 : Below w2.heap.size w2 w3 := by rw [← hW3]; exact (Below.refl _ _).alloc (Nat.le_refl _) _
    refine ⟨⟨hS1.blk (hb3.block S (SC.lt hS1)), hC1.blk (hb3.block C (CX.lt hC1)), Row.blk hO1 (fun g hg => hb3.block g (Row.lt hO1 hg).2), ?_, fun g hg e => ?_, ?_, PosB.blk hQ2 (hb23.block Q (PosB.lt hQ2)), fun e => ?_, fun e => ?_, by omega, ?_⟩, by simp, by simp, (fun r hr => by cases hr), HSC.out⟩
    · rw [← hW3]; exact row_lit w2 _ (by omega)
    · have h1 := (Row.lt hO1 e).2
      have h2 : w2.heap.size = g := Option.some.inj hg
      omega
    · have hg : G < w.heap.size := HPL.out.g
      refine reads_blk HR.out ?_
      rw [hb3.block G (by omega)]
      exact hF1.block G hg (fun hx => by
        rcases hx with hx | hx
        · exact HPL.out.cg hx.symm
        · cases hx)
    · have h1 := (Row.lt hO1 e).2
      omega
    · have h2 : w2.heap.size = Q := Option.some.inj e
      have := PosB.lt hQ2
      omega
    · exact ⟨hb3.os.trans hF1.os, hb3.tape.trans hF1.tape, hb3.output.trans hF1.output, Nat.le_trans hF1.size hb3.size, fun k hk hx => (hb3.block k (by omega)).trans (hF1.block k hk (fun hy => by
        rcases hy with hy | hy
        · exact hx (.inr hy)
        · cases hy))⟩⟩
  clear hAdd HCP HSC H1 H2 HS HR x0 x4 hW3
  refine wp_loop_ghost (JD w S C G Q cap0 N L R) (N - 1) ?atStart ?round
  case atStart => exact JD_of w2.heap.size 0 [] [34] O false false 1 rfl rfl rfl rfl rfl rfl rfl rfl rfl rfl (Nat.le_refl _) (by omega) rfl (by have h := HL.out; exact h)
  case round =>
    intro rn ra wr hJ
    obtain ⟨g, cap, vs, os, O, f, nw, i, u, rfl, hi1, hiN, rfl, HI⟩ := hJ
    obtain ⟨KK, hKK⟩ : ∃ KK : Act → World → Prop, KK = (fun a' w' => ∃ n', n' < N - i ∧ JD w S C G Q cap0 N L R n' a' w') := ⟨_, rfl⟩
    rw [← hKK]
    have HK : Aside0 (∀ n' a' w', n' < N - i → JD w S C G Q cap0 N L R n' a' w' → KK a' w') := ⟨fun n' a' w' h1 h2 => by rw [hKK]; exact ⟨n', h1, h2⟩⟩
    clear hKK HL
    have hlt : i < N := by
      rcases Nat.lt_or_ge i N with h | h
      · exact h
      · exfalso
        obtain ⟨_, _, _, _, n, hn, hs⟩ := HI.out
        rw [List.drop_eq_nil_of_le (by have := HN.out; omega)] at hs
        cases n with
        | zero => cases hs
        | succ n => cases hs
    go_upto_if 51 with (fail)
    go_cut [12] from 52 to 54 (fun v12 wc => v12 = .bool false ∧ Aside0 (Lp 34 w wc S C G Q cap0 L R (i : Int) O (.slice (some ⟨g, 0, none⟩) vs.length cap) os vs f i))
    case first =>
      cases nw with
      | false =>
        have CC := Aside0.mk (colL HI.out.1 HPL.out 1 (by omega) (by omega) (by simp; omega) (by simp; omega))
        go_wp2_with (go_at_call 37; refine CC.out.mono ?_; rintro e w4 ⟨rfl, hL4⟩; have HL4 := Aside0.mk hL4; clear hL4)
        go_meet
        case rel => exact ⟨rfl, ⟨by have h := HI.out; have h4 := HL4.out; simp only [Bool.false_eq_true, if_false, Int.sub_add_cancel] at h4; exact ⟨h4, h.2⟩⟩⟩
      | true =>
        go_wp2_with fail
        go_meet
        case rel => exact ⟨rfl, ⟨by have h := HI.out; simp only [if_true] at h; exact h⟩⟩
    case rest =>
      obtain ⟨rfl, HI2⟩ := hcut
      have hil : i < L.length := by rw [← HN.out]; exact hlt
      have hcell := HI2.out.1.rd i hil
      have hdrop : L.drop i = L.getD i 0 :: L.drop (i + 1) := by
        rw [List.drop_eq_getElem_cons hil]; congr 1; simp [List.getD, hil]
      have hcm : L.getD i 0 ∈ L := by rw [show L.getD i 0 = L[i] by simp [List.getD, hil]]; exact List.getElem_mem hil
      have hcs := HTX.out.sc _ hcm
      have h13 := HTX.out.cr _ hcm
      obtain ⟨c, hc⟩ : ∃ c, c = L.getD i 0 := ⟨_, rfl⟩
      rw [← hc] at hcell hdrop hcs h13
      have hol : os.length ≤ 4 * i := HI2.out.2.1
      have hvl : vs.length ≤ i := HI2.out.2.2.1
      have CA := Aside0.mk (addL HI2.out.1 HPL.out (by omega) c)
      obtain ⟨n, hn, hsn⟩ := HI2.out.2.2.2.2
      rw [hdrop] at hn hsn
      obtain ⟨m, rfl⟩ : ∃ m, n = m + 1 := by
        cases n with
        | zero => simp at hn
        | succ n => exact ⟨n, rfl⟩
      simp only [List.length_cons] at hn
      replace hn := Nat.le_of_succ_le_succ hn
      simp only [scan] at hsn
      have HCS := Aside0.mk hcs
      have HDR := Aside0.mk hdrop
      have HMN := Aside0.mk hn
      have HVS := Aside0.mk HI2.out.2.2.2.1
      clear hc hcm hdrop hil HI HI2 hn hcs
      by_cases c10 : c = 10
      · subst c10
        rw [if_pos rfl] at hsn
        by_cases hmk : mkr (L.drop (i + 1)) = true
        · rw [if_pos hmk] at hsn; cases hsn
        rw [if_neg hmk] at hsn
        have hi2 : i + 1 < N := by
          rcases Nat.lt_or_ge (i + 1) N with h | h
          · exact h
          · exfalso
            rw [List.drop_eq_nil_of_le (by have := HN.out; omega)] at hsn
            cases m with
            | zero => cases hsn
            | succ m => cases hsn
        have HSN := Aside0.mk hsn
        have HNM := Aside0.mk (noMark (L.drop (i + 1)) (by simpa using hmk) (fun h3 => by
          rw [List.length_drop] at h3
          have hl := HTX.out.last
          rw [show L.length - 1 = i + 3 by omega] at hl
          rw [← hl]
          simp [List.getD]) (fun h => by
          rw [List.drop_drop, List.head?_drop] at h
          have hm : (13 : Int) ∈ L := List.mem_of_getElem? h
          exact HTX.out.cr _ hm rfl) (fun r hr => HTX.out.sc r (List.mem_of_mem_drop hr)))
        have CN := Aside0.mk (fun W => newline_any W S 10 true (decide_eq_true (by omega)).symm)
        clear hsn hmk h13
        go_upto_block 2 with (first
          | (go_at_call 35; refine CA.out.mono ?_; rintro e w5 ⟨rfl, O5, hL5⟩; have HL5 := Aside0.mk hL5; clear hL5)
          | (go_at_call 38; refine (CN.out _).mono ?_; rintro e w6 ⟨rfl, rfl⟩))
        have hcv : ∀ j, j < vs.length → w5.cell? ⟨g, j, none⟩ = some (.int .i32 (vs.getD j 0)) := fun j hj => by
          rw [World.ownsRow.cellAt HL5.out.rv j (by omega)]
          simp [nums, List.getD, hj]
        have hcap : vs.length ≤ cap := by
          rcases HL5.out.rv.2 with ⟨h, _⟩ | ⟨_, _, _, h, _, _, h2, _⟩
          · cases h
          · injection h with _ _ h3; omega
        obtain ⟨tl, htl⟩ : ∃ tl, tl = (trim vs).length := ⟨_, rfl⟩
        have htle : tl ≤ vs.length := by rw [htl]; exact trim_le vs
        have HTL := Aside0.mk htl
        have HCV := Aside0.mk hcv
        clear htl hcv
        go_cut [15, 16] from 68 to 77 (fun v15 v16 wc => v15 = .int .i64 ((tl : Int) - 1) ∧ (∃ j : Int, v16 = .int .i64 j) ∧ w5 = wc)
        case first =>
          go_wp2_with fail
          go_loop [15, 16] (fun v15 v16 => ∃ j : Nat, j ≤ vs.length ∧ v15 = .int .i64 (-1) ∧ v16 = .int .i64 ((j : Int) - 1) ∧ Aside0 (trim (vs.take j) = trim vs)) (fun _ v16 => (intOf v16 + 1).toNat)
          case atStart => exact ⟨vs.length, Nat.le_refl _, rfl, rfl, ⟨by rw [List.take_length]⟩⟩
          case round =>
            obtain ⟨j, hj, rfl, rfl, HJ⟩ := hrel
            cases j with
            | zero =>
              have ht0 : tl = 0 := by rw [HTL.out, ← HJ.out]; rfl
              subst ht0
              go_wp2_with fail
              go_meet
              case rel => exact ⟨rfl, ⟨_, rfl⟩, rfl⟩
            | succ j =>
              have hx := HCV.out j (by omega)
              have htk : vs.take (j + 1) = vs.take j ++ [vs.getD j 0] := by
                rw [List.take_add_one]
                simp [List.getD, show j < vs.length by omega]
              have HJ2 := HJ.out
              rw [htk] at HJ2
              generalize vs.getD j 0 = y at hx HJ2
              have e1 : ((j + 1 : Nat) : Int) - 1 = (j : Int) := by omega
              rw [e1]
              by_cases h32 : y = 32
              · subst h32
                rw [trim_space] at HJ2
                go_wp2_with fail
                exact ⟨⟨j, by omega, rfl, rfl, ⟨HJ2⟩⟩, by simp [intOf]⟩
              · have q32 : (y == 32) = false := by simpa using h32
                rw [trim_other _ _ h32] at HJ2
                have ht1 : tl = j + 1 := by
                  rw [HTL.out, ← HJ2, List.length_append, List.length_take]
                  simp; omega
                subst ht1
                clear HJ2 h32
                go_wp2_with fail
                go_meet
                case rel => exact ⟨by congr 1; omega, ⟨_, rfl⟩, rfl⟩
        case rest =>
          obtain ⟨rfl, ⟨j16, rfl⟩, rfl⟩ := hcut
          have htd : Aside0 (trim vs = vs.take tl) := ⟨by rw [HTL.out]; exact trim_take vs⟩
          have HC5 := Aside0.mk (HL5.out.cutV tl htle)
          have hgt : decide ((tl : Int) - 1 < (vs.length : Int)) = true := decide_eq_true (by omega)
          have htc : tl ≤ cap := by omega
          have htl2 : (vs.take tl).length = tl := by rw [List.length_take]; omega
          clear HCV HTL
          cases f with
          | false =>
            go_upto_region 31 with (first
              | ((with_reducible refine gate_dst (N := 92) rfl ?_); at_builtin; refine print_append_num w.heap.size rfl (.tmp 90) _ 32 21 .i32 4 rfl Tryd.underlying32 info21 (by decide) (.slice (some ⟨g, 0, none⟩) tl cap) (vs.take tl) 32 rfl ?hx ?hO (Below.refl _ _) HC5.out.fr.size (by omega) ?_; (case hx => rfl); (case hO => have h := HC5.out.rv; exact h); intro v1 w7 hown hB hg hat; obtain ⟨g1, cap1, rfl, hgb, hgl⟩ := hown.form (by simp); have HV := Aside0.mk (HC5.out.app HPL.out hown hg hat); clear hown hB hg hat))
            have CL := Aside0.mk (lineL HV.out HPL.out (by omega) (by omega))
            have hi2b : decide ((i : Int) + 1 < (N : Int)) = true := decide_eq_true (by omega)
            go_upto_region 33 with (go_at_call 39; refine CL.out.mono ?_; rintro e w8 ⟨rfl, hL8⟩; have HL8 := Aside0.mk hL8; clear hL8)
            have CV := Aside0.mk (valL HL8.out HPL.out (HT.out _ HL8.out.fr) (i + 1) (by have := HN.out; omega) (by have := HN.out; omega) HTX.out.cap HTX.out.sc HNM.out (.pointer (some ⟨S, 0, none⟩)) (.pointer (some ⟨C, 0, none⟩)))
            rw [← HN.out] at CV
            have hcapN : N ≤ cap0 := by have := HTX.out.cap; have := HN.out; omega
            go_upto_region 34 with (go_at_call 40; refine CV.out.mono ?_; rintro e w9 ⟨rfl, hL9, hb9⟩; have HL9 := Aside0.mk hL9; clear hL9 hb9)
            go_wp2_with fail
            exact HK.out (N - (i + 1)) _ _ (by omega) (JD_of g1 cap1 (vs.take tl ++ [32]) (os ++ [10]) O5 true true (i + 1) rfl rfl rfl rfl rfl rfl (by first | rfl | (rw [List.length_append]; rfl) | (rw [List.length_append, htl2]; rfl)) rfl rfl (by rfl) (by omega) (by omega) rfl ⟨by have h := HL9.out; simp only [if_true]; exact h, by simp; omega, by simp; omega, (fun r hr => by
              rcases List.mem_append.1 hr with hr | hr
              · exact HVS.out r (List.mem_of_mem_take hr)
              · rw [List.mem_singleton.1 hr]; unfold Scalar; omega), m, HMN.out, by have h := HSN.out; rw [htd.out] at h; exact h⟩)
          | true =>
            go_upto_region 31 with (first
              | ((with_reducible refine gate_dst (N := 89) rfl ?_); at_builtin; refine print_append_num w.heap.size rfl (.tmp 87) _ 32 21 .i32 4 rfl Tryd.underlying32 info21 (by decide) (.slice (some ⟨g, 0, none⟩) tl cap) (vs.take tl) 10 rfl ?hx ?hO (Below.refl _ _) HC5.out.fr.size (by omega) ?_; (case hx => rfl); (case hO => have h := HC5.out.rv; exact h); intro v1 w7 hown hB hg hat; obtain ⟨g1, cap1, rfl, hgb, hgl⟩ := hown.form (by simp); have HV := Aside0.mk (HC5.out.app HPL.out hown hg hat); clear hown hB hg hat))
            have CL := Aside0.mk (lineL HV.out HPL.out (by omega) (by omega))
            have hi2b : decide ((i : Int) + 1 < (N : Int)) = true := decide_eq_true (by omega)
            go_upto_region 33 with (go_at_call 39; refine CL.out.mono ?_; rintro e w8 ⟨rfl, hL8⟩; have HL8 := Aside0.mk hL8; clear hL8)
            have CV := Aside0.mk (valL HL8.out HPL.out (HT.out _ HL8.out.fr) (i + 1) (by have := HN.out; omega) (by have := HN.out; omega) HTX.out.cap HTX.out.sc HNM.out (.pointer (some ⟨S, 0, none⟩)) (.pointer (some ⟨C, 0, none⟩)))
            rw [← HN.out] at CV
            have hcapN : N ≤ cap0 := by have := HTX.out.cap; have := HN.out; omega
            go_upto_region 34 with (go_at_call 40; refine CV.out.mono ?_; rintro e w9 ⟨rfl, hL9, hb9⟩; have HL9 := Aside0.mk hL9; clear hL9 hb9)
            go_wp2_with fail
            exact HK.out (N - (i + 1)) _ _ (by omega) (JD_of g1 cap1 (vs.take tl ++ [10]) (os ++ [10]) O5 true true (i + 1) rfl rfl rfl rfl rfl rfl (by first | rfl | (rw [List.length_append]; rfl) | (rw [List.length_append, htl2]; rfl)) rfl rfl (by rfl) (by omega) (by omega) rfl ⟨by have h := HL9.out; simp only [if_true]; exact h, by simp; omega, by simp; omega, (fun r hr => by
              rcases List.mem_append.1 hr with hr | hr
              · exact HVS.out r (List.mem_of_mem_take hr)
              · rw [List.mem_singleton.1 hr]; unfold Scalar; omega), m, HMN.out, by have h := HSN.out; rw [htd.out] at h; exact h⟩)
      rw [if_neg c10, if_neg h13] at hsn
      have q10 : (c == 10) = false := by simpa using c10
      have q13 : (c == 13) = false := by simpa using h13
      have CN := Aside0.mk (fun W => newline_any W S c false (decide_eq_false (by omega)).symm)
      by_cases c32 : f = true ∧ c = 32
      · rw [if_pos c32] at hsn
        obtain ⟨rfl, rfl⟩ := c32
        have HSN := Aside0.mk hsn
        clear hsn c10 h13
        go_wp2_with (first
          | (go_at_call 35; refine CA.out.mono ?_; rintro e w5 ⟨rfl, O5, hL5⟩; have HL5 := Aside0.mk hL5; clear hL5)
          | (go_at_call 38; refine (CN.out _).mono ?_; rintro e w6 ⟨rfl, rfl⟩))
        exact HK.out (N - (i + 1)) _ _ (by omega) (JD_of g cap (vs) (os ++ [32]) O5 true false (i + 1) rfl rfl rfl rfl rfl rfl (by first | rfl | (rw [List.length_append]; rfl) | (rw [List.length_append, htl2]; rfl)) rfl rfl (by rfl) (by omega) (by omega) rfl ⟨by have h := HL5.out; simp only [Bool.false_eq_true, if_false]; rw [show ((i + 1 : Nat) : Int) - 1 = (i : Int) by omega]; exact h, by simp; omega, by omega, HVS.out, m, HMN.out, HSN.out⟩)
      rw [if_neg c32] at hsn
      by_cases c9 : c = 9
      · rw [if_pos c9] at hsn; cases hsn
      rw [if_neg c9] at hsn
      by_cases c92 : c = 92
      · subst c92
        rw [if_pos ⟨by trivial, by trivial⟩] at hsn
        have hi2 : i + 1 < N := by
          rcases Nat.lt_or_ge (i + 1) N with h | h
          · exact h
          · exfalso
            rw [List.drop_eq_nil_of_le (by have := HN.out; omega)] at hsn
            simp [esc] at hsn
        have hil1 : i + 1 < L.length := by have := HN.out; omega
        have hdrop1 : L.drop (i + 1) = L.getD (i + 1) 0 :: L.drop (i + 2) := by
          rw [List.drop_eq_getElem_cons hil1]; congr 1; simp [List.getD, hil1]
        obtain ⟨d, hd⟩ : ∃ d, d = L.getD (i + 1) 0 := ⟨_, rfl⟩
        rw [← hd] at hdrop1
        have HD := Aside0.mk hd
        rw [hdrop1] at hsn
        have hi2b : decide ((N : Int) ≤ (i : Int) + 1) = false := decide_eq_false (by omega)
        have hi2c : (i : Int) + 1 < (N : Int) := by omega
        have hmn2 := HMN.out
        rw [hdrop1, List.length_cons] at hmn2
        have HM2 := Aside0.mk (show (L.drop (i + 2)).length ≤ m by omega)
        have CN := Aside0.mk (fun W => newline_any W S 92 false (decide_eq_false (by omega)).symm)
        have hff : f = false ∨ f = true := by cases f <;> simp
        have q1 : ((92 : Int) == 32) = false := by decide
        clear hd hdrop1 hmn2 c10 h13 c32 c9 hil1
        by_cases d10 : d = 10
        · subst d10
          rw [if_pos (by rfl)] at hsn
          have HSN := Aside0.mk hsn
          clear hsn
          rcases hff with rfl | rfl
          all_goals
            go_upto_region 46 with (first
              | (go_at_call 38; refine (CN.out _).mono ?_; rintro e w6 ⟨rfl, rfl⟩)
              | (go_at_call 35; refine CA.out.mono ?_; rintro e w5 ⟨rfl, O5, hL5⟩; have HL5 := Aside0.mk hL5; have hd5 := hL5.rd (i + 1) (by have := HN.out; omega); rw [← HD.out] at hd5; clear hL5))
            have CA2 := Aside0.mk (addL HL5.out HPL.out (by simp; omega) 10)
            go_upto_region 151 with (fail)
            go_upto_region 152 with (go_at_call 35; refine CA2.out.mono ?_; rintro e w6 ⟨rfl, O6, hL6⟩; have HL6 := Aside0.mk hL6; clear hL6)
            have CC := Aside0.mk (colL HL6.out HPL.out 1 (by omega) (by omega) (by omega) (by omega))
            go_upto_region 153 with (go_at_call 37; refine CC.out.mono ?_; rintro e w7 ⟨rfl, hL7⟩; have HL7 := Aside0.mk hL7; clear hL7)
            have CL := Aside0.mk (lineL HL7.out HPL.out (by omega) (by omega))
            go_upto_region 154 with (go_at_call 39; refine CL.out.mono ?_; rintro e w8 ⟨rfl, hL8⟩; have HL8 := Aside0.mk hL8; clear hL8)
            go_wp2_with fail
            exact HK.out (N - (i + 2)) _ _ (by omega) (JD_of g cap vs (os ++ [92] ++ [10]) O6 true true (i + 2) rfl rfl rfl rfl rfl rfl rfl rfl rfl (by rfl) (by omega) (by omega) rfl ⟨by have h := HL8.out; simp only [if_true]; rw [show ((i + 2 : Nat) : Int) = (i : Int) + 1 + 1 by omega]; exact h, by simp; omega, by omega, HVS.out, m, HM2.out, HSN.out⟩)
        rw [if_neg (fun h => d10 (by injection h))] at hsn
        cases hesc : esc (d :: L.drop (i + 2)) with
        | none => rw [hesc] at hsn; cases hsn
        | some pr =>
        obtain ⟨x, tt⟩ := pr
        rw [hesc] at hsn
        simp only at hsn
        have HSN := Aside0.mk hsn
        simp only [esc] at hesc
        by_cases d120 : d = 120
        · subst d120
          rw [if_pos (by trivial)] at hesc
          by_cases hl2 : 2 ≤ (L.drop (i + 2)).length
          · rw [if_pos hl2] at hesc
            simp only [Option.map_eq_some_iff, Prod.mk.injEq] at hesc
            obtain ⟨y, hy, rfl, rfl⟩ := hesc
            have hi4 : i + 3 < N := by rw [List.length_drop] at hl2; have := HN.out; omega
            have hi4b : decide ((N : Int) ≤ (i : Int) + 3) = false := decide_eq_false (by omega)
            have hcpN : N ≤ cap0 := by have := HTX.out.cap; have := HN.out; omega
            have htk : (L.drop (i + 2)).take 2 = [L.getD (i + 2) 0, L.getD (i + 3) 0] := by
              have h2 : i + 2 < L.length := by have := HN.out; omega
              have h3 : i + 3 < L.length := by have := HN.out; omega
              have e2 : L.drop (i + 2) = L[i + 2] :: L.drop (i + 3) := List.drop_eq_getElem_cons h2
              have e3 : L.drop (i + 3) = L[i + 3] :: L.drop (i + 4) := List.drop_eq_getElem_cons h3
              have d2 : L.getD (i + 2) 0 = L[i + 2] := by simp [List.getD, h2]
              have d3 : L.getD (i + 3) 0 = L[i + 3] := by simp [List.getD, h3]
              rw [d2, d3, e2, e3]
              rfl
            rw [htk] at hy
            have hyr := LnEsc.hexs_range _ 0 y 1 (by omega) (by omega) hy
            have hy0 : 0 ≤ y := hyr.1
            have hy1 : y ≤ 255 := by
              have h := hyr.2
              simp at h
              omega
            have hyw : IntKind.i32.wrap y = y := by rw [IntKind.wrap_i32]; omega
            have HY := Aside0.mk hy
            have HYS := Aside0.mk (show Scalar y by unfold Scalar; omega)
            have HM4 := Aside0.mk (show ((L.drop (i + 2)).drop 2).length ≤ m by rw [List.length_drop]; have := HM2.out; omega)
            clear hsn hy hl2 htk hyr
            rcases hff with rfl | rfl
            all_goals
              go_upto_region 46 with (first
                | (go_at_call 38; refine (CN.out _).mono ?_; rintro e w6 ⟨rfl, rfl⟩)
                | (go_at_call 35; refine CA.out.mono ?_; rintro e w5 ⟨rfl, O5, hL5⟩; have HL5 := Aside0.mk hL5; have hd5 := hL5.rd (i + 1) (by have := HN.out; omega); rw [← HD.out] at hd5; clear hL5))
              have g2 := HL5.out.rd (i + 2) (by have := HN.out; omega)
              have g3 := HL5.out.rd (i + 3) (by have := HN.out; omega)
              have CH := Aside0.mk (hexs_two w5 G (i + 2) (cap0 - (i + 2)) _ _ y HY.out g2 g3 (by omega))
              clear g2 g3
              go_upto_region 123 with (fail)
              go_upto_region 124 with (go_at_call 43; refine CH.out.mono ?_; rintro e w6 ⟨rfl, rfl⟩)
              go_upto_region 168 with ((with_reducible refine gate_dst (N := 330) rfl ?_); at_builtin; refine print_append_num w.heap.size rfl (.tmp 326) _ 32 21 .i32 4 rfl Tryd.underlying32 info21 (by decide) (.slice (some ⟨g, 0, none⟩) vs.length cap) vs y rfl ?hx ?hO (Below.refl _ _) HL5.out.fr.size (by omega) ?_; (case hx => rfl); (case hO => have h := HL5.out.rv; exact h); intro v1 w7 hown hB hg hat; obtain ⟨g1, cap1, rfl, hgb, hgl⟩ := hown.form (by simp); have HV := Aside0.mk (HL5.out.app HPL.out hown hg hat); clear hown hB hg hat)
              have CC := Aside0.mk (colL HV.out HPL.out 3 (by omega) (by omega) (by omega) (by omega))
              go_upto_region 169 with (fail)
              go_upto_region 11 with (go_at_call 37; refine CC.out.mono ?_; rintro e w8 ⟨rfl, hL8⟩; have HL8 := Aside0.mk hL8; clear hL8)
              go_wp2_with fail
              exact HK.out (N - (i + 4)) _ _ (by omega) (JD_of g1 cap1 (vs ++ [y]) (os ++ [92]) O5 false false (i + 4) rfl rfl rfl rfl rfl rfl (by rw [List.length_append]; rfl) rfl rfl (by rfl) (by omega) (by omega) rfl ⟨by have h := HL8.out; simp only [Bool.false_eq_true, if_false]; rw [show ((i + 4 : Nat) : Int) - 1 = (i : Int) + 3 by omega]; exact h, by simp; omega, by simp; omega, (fun r hr => by
                rcases List.mem_append.1 hr with hr | hr
                · exact HVS.out r hr
                · rw [List.mem_singleton.1 hr]; exact HYS.out), m, by have h := HM4.out; rw [List.drop_drop] at h; exact h, by have h := HSN.out; rw [List.drop_drop] at h; exact h⟩)
          · rw [if_neg hl2] at hesc; cases hesc
        rw [if_neg d120] at hesc
        by_cases d117 : d = 117
        · subst d117
          rw [if_pos (by trivial)] at hesc
          by_cases hl2 : 4 ≤ (L.drop (i + 2)).length
          · rw [if_pos hl2] at hesc
            cases hy : hexs ((L.drop (i + 2)).take 4) 0 with
            | none => rw [hy] at hesc; cases hesc
            | some y =>
            rw [hy] at hesc
            simp only at hesc
            by_cases hyr0 : y < 55296 ∨ 57343 < y
            case neg => rw [if_neg hyr0] at hesc; cases hesc
            rw [if_pos hyr0] at hesc
            injection hesc with hesc
            injection hesc with he1 he2
            subst he1
            subst he2
            have hi4 : i + 5 < N := by rw [List.length_drop] at hl2; have := HN.out; omega
            have hi4b : decide ((N : Int) ≤ (i : Int) + 5) = false := decide_eq_false (by omega)
            have hcpN : N ≤ cap0 := by have := HTX.out.cap; have := HN.out; omega
            have htk : (L.drop (i + 2)).take 4 = [L.getD (i + 2) 0, L.getD (i + 3) 0, L.getD (i + 4) 0, L.getD (i + 5) 0] := by
              have h2 : i + 2 < L.length := by have := HN.out; omega
              have h3 : i + 3 < L.length := by have := HN.out; omega
              have h4 : i + 4 < L.length := by have := HN.out; omega
              have h5 : i + 5 < L.length := by have := HN.out; omega
              have e2 : L.drop (i + 2) = L[i + 2] :: L.drop (i + 3) := List.drop_eq_getElem_cons h2
              have e3 : L.drop (i + 3) = L[i + 3] :: L.drop (i + 4) := List.drop_eq_getElem_cons h3
              have e4 : L.drop (i + 4) = L[i + 4] :: L.drop (i + 5) := List.drop_eq_getElem_cons h4
              have e5 : L.drop (i + 5) = L[i + 5] :: L.drop (i + 6) := List.drop_eq_getElem_cons h5
              have d4 : L.getD (i + 4) 0 = L[i + 4] := by simp [List.getD, h4]
              have d5 : L.getD (i + 5) 0 = L[i + 5] := by simp [List.getD, h5]
              have d2 : L.getD (i + 2) 0 = L[i + 2] := by simp [List.getD, h2]
              have d3 : L.getD (i + 3) 0 = L[i + 3] := by simp [List.getD, h3]
              rw [d2, d3, d4, d5, e2, e3, e4, e5]
              rfl
            rw [htk] at hy
            have hyr := LnEsc.hexs_range _ 0 y 1 (by omega) (by omega) hy
            have hy0 : 0 ≤ y := hyr.1
            have hy1 : y ≤ 65535 := by
              have h := hyr.2
              simp at h
              omega
            have hyw : IntKind.i32.wrap y = y := by rw [IntKind.wrap_i32]; omega
            have HY := Aside0.mk hy
            have HYS := Aside0.mk (show Scalar y by unfold Scalar; omega)
            have HM4 := Aside0.mk (show ((L.drop (i + 2)).drop 4).length ≤ m by rw [List.length_drop]; have := HM2.out; omega)
            have hg1 : decide (55296 ≤ y) = false ∨ (decide (55296 ≤ y) = true ∧ decide (y ≤ 56319) = false) := by
              rcases hyr0 with h | h
              · exact .inl (decide_eq_false (by omega))
              · exact .inr ⟨decide_eq_true (by omega), decide_eq_false (by omega)⟩
            clear hsn hy hl2 htk hyr hyr0
            rcases hff with rfl | rfl
            all_goals rcases hg1 with hg1 | ⟨hg1, hg2⟩
            all_goals
              go_upto_region 46 with (first
                | (go_at_call 38; refine (CN.out _).mono ?_; rintro e w6 ⟨rfl, rfl⟩)
                | (go_at_call 35; refine CA.out.mono ?_; rintro e w5 ⟨rfl, O5, hL5⟩; have HL5 := Aside0.mk hL5; have hd5 := hL5.rd (i + 1) (by have := HN.out; omega); rw [← HD.out] at hd5; clear hL5))
              have g2 := HL5.out.rd (i + 2) (by have := HN.out; omega)
              have g3 := HL5.out.rd (i + 3) (by have := HN.out; omega)
              have g4 := HL5.out.rd (i + 4) (by have := HN.out; omega)
              have g5 := HL5.out.rd (i + 5) (by have := HN.out; omega)
              have CH := Aside0.mk (hexs_four w5 G (i + 2) (cap0 - (i + 2)) _ _ _ _ y HY.out g2 g3 g4 g5 (by omega))
              clear g2 g3 g4 g5
              go_upto_region 129 with (fail)
              go_upto_region 130 with (go_at_call 43; refine CH.out.mono ?_; rintro e w6 ⟨rfl, rfl⟩)
              go_upto_region 141 with (fail)
              go_upto_region 168 with ((with_reducible refine gate_dst (N := 435) rfl ?_); at_builtin; refine print_append_num w.heap.size rfl (.tmp 431) _ 32 21 .i32 4 rfl Tryd.underlying32 info21 (by decide) (.slice (some ⟨g, 0, none⟩) vs.length cap) vs y rfl ?hx ?hO (Below.refl _ _) HL5.out.fr.size (by omega) ?_; (case hx => rfl); (case hO => have h := HL5.out.rv; exact h); intro v1 w7 hown hB hg hat; obtain ⟨g1, cap1, rfl, hgb, hgl⟩ := hown.form (by simp); have HV := Aside0.mk (HL5.out.app HPL.out hown hg hat); clear hown hB hg hat)
              have CC := Aside0.mk (colL HV.out HPL.out 5 (by omega) (by omega) (by omega) (by omega))
              go_upto_region 169 with (fail)
              go_upto_region 11 with (go_at_call 37; refine CC.out.mono ?_; rintro e w8 ⟨rfl, hL8⟩; have HL8 := Aside0.mk hL8; clear hL8)
              go_wp2_with fail
              exact HK.out (N - (i + 6)) _ _ (by omega) (JD_of g1 cap1 (vs ++ [y]) (os ++ [92]) O5 false false (i + 6) rfl rfl rfl rfl rfl rfl (by rw [List.length_append]; rfl) rfl rfl (by rfl) (by omega) (by omega) rfl ⟨by have h := HL8.out; simp only [Bool.false_eq_true, if_false]; rw [show ((i + 6 : Nat) : Int) - 1 = (i : Int) + 5 by omega]; exact h, by simp; omega, by simp; omega, (fun r hr => by
                rcases List.mem_append.1 hr with hr | hr
                · exact HVS.out r hr
                · rw [List.mem_singleton.1 hr]; exact HYS.out), m, by have h := HM4.out; rw [List.drop_drop] at h; exact h, by have h := HSN.out; rw [List.drop_drop] at h; exact h⟩)
          · rw [if_neg hl2] at hesc; cases hesc
        rw [if_neg d117] at hesc
        simp only [Option.map_eq_some_iff, Prod.mk.injEq] at hesc
        obtain ⟨x', hnm, rfl, rfl⟩ := hesc
        have hxs : Scalar x' := by
          have := LnEsc.named_range hnm
          unfold Scalar; omega
        have HXS := Aside0.mk hxs
        have hcases := named_cases hnm
        clear hsn hnm hxs d10 d120 d117
        rcases hff with rfl | rfl
        all_goals
          go_upto_region 46 with (first
            | (go_at_call 38; refine (CN.out _).mono ?_; rintro e w6 ⟨rfl, rfl⟩)
            | (go_at_call 35; refine CA.out.mono ?_; rintro e w5 ⟨rfl, O5, hL5⟩; have HL5 := Aside0.mk hL5; have hd5 := hL5.rd (i + 1) (by have := HN.out; omega); rw [← HD.out] at hd5; clear hL5))
          rcases hcases with ⟨rfl, rfl⟩ | ⟨rfl, rfl⟩ | ⟨rfl, rfl⟩ | ⟨rfl, rfl⟩ | ⟨rfl, rfl⟩ | ⟨rfl, rfl⟩ | ⟨rfl, rfl⟩ | ⟨rfl, rfl⟩ | ⟨rfl, rfl⟩ | ⟨rfl, rfl⟩ | ⟨rfl, rfl⟩ | ⟨rfl, rfl⟩ | ⟨rfl, rfl⟩ | ⟨rfl, rfl⟩ | ⟨rfl, rfl⟩ | ⟨rfl, rfl⟩
          · have CA2 := Aside0.mk (addL HL5.out HPL.out (by simp; omega) 48)
            go_upto_region 51 with (fail)
            go_upto_region 52 with (go_at_call 35; refine CA2.out.mono ?_; rintro e w6 ⟨rfl, O6, hL6⟩; have HL6 := Aside0.mk hL6; clear hL6)
            go_upto_region 168 with ((with_reducible refine gate_dst (N := 175) rfl ?_); at_builtin; refine print_append_num w.heap.size rfl (.tmp 173) _ 32 21 .i32 4 rfl Tryd.underlying32 info21 (by decide) (.slice (some ⟨g, 0, none⟩) vs.length cap) vs 0 rfl ?hx ?hO (Below.refl _ _) HL6.out.fr.size (by omega) ?_; (case hx => rfl); (case hO => have h := HL6.out.rv; exact h); intro v1 w7 hown hB hg hat; obtain ⟨g1, cap1, rfl, hgb, hgl⟩ := hown.form (by simp); have HV := Aside0.mk (HL6.out.app HPL.out hown hg hat); clear hown hB hg hat)
            have CC := Aside0.mk (colL HV.out HPL.out 1 (by omega) (by omega) (by omega) (by omega))
            go_upto_region 169 with (fail)
            go_upto_region 11 with (go_at_call 37; refine CC.out.mono ?_; rintro e w8 ⟨rfl, hL8⟩; have HL8 := Aside0.mk hL8; clear hL8)
            go_wp2_with fail
            exact HK.out (N - (i + 2)) _ _ (by omega) (JD_of g1 cap1 (vs ++ [0]) (os ++ [92] ++ [48]) O6 false false (i + 2) rfl rfl rfl rfl rfl rfl (by rw [List.length_append]; rfl) rfl rfl (by rfl) (by omega) (by omega) rfl ⟨by have h := HL8.out; simp only [Bool.false_eq_true, if_false]; rw [show ((i + 2 : Nat) : Int) - 1 = (i : Int) + 1 by omega]; exact h, by simp; omega, by simp; omega, (fun r hr => by
              rcases List.mem_append.1 hr with hr | hr
              · exact HVS.out r hr
              · rw [List.mem_singleton.1 hr]; exact HXS.out), m, HM2.out, HSN.out⟩)
          · have CA2 := Aside0.mk (addL HL5.out HPL.out (by simp; omega) 97)
            go_upto_region 55 with (fail)
            go_upto_region 56 with (go_at_call 35; refine CA2.out.mono ?_; rintro e w6 ⟨rfl, O6, hL6⟩; have HL6 := Aside0.mk hL6; clear hL6)
            go_upto_region 168 with ((with_reducible refine gate_dst (N := 183) rfl ?_); at_builtin; refine print_append_num w.heap.size rfl (.tmp 181) _ 32 21 .i32 4 rfl Tryd.underlying32 info21 (by decide) (.slice (some ⟨g, 0, none⟩) vs.length cap) vs 7 rfl ?hx ?hO (Below.refl _ _) HL6.out.fr.size (by omega) ?_; (case hx => rfl); (case hO => have h := HL6.out.rv; exact h); intro v1 w7 hown hB hg hat; obtain ⟨g1, cap1, rfl, hgb, hgl⟩ := hown.form (by simp); have HV := Aside0.mk (HL6.out.app HPL.out hown hg hat); clear hown hB hg hat)
            have CC := Aside0.mk (colL HV.out HPL.out 1 (by omega) (by omega) (by omega) (by omega))
            go_upto_region 169 with (fail)
            go_upto_region 11 with (go_at_call 37; refine CC.out.mono ?_; rintro e w8 ⟨rfl, hL8⟩; have HL8 := Aside0.mk hL8; clear hL8)
            go_wp2_with fail
            exact HK.out (N - (i + 2)) _ _ (by omega) (JD_of g1 cap1 (vs ++ [7]) (os ++ [92] ++ [97]) O6 false false (i + 2) rfl rfl rfl rfl rfl rfl (by rw [List.length_append]; rfl) rfl rfl (by rfl) (by omega) (by omega) rfl ⟨by have h := HL8.out; simp only [Bool.false_eq_true, if_false]; rw [show ((i + 2 : Nat) : Int) - 1 = (i : Int) + 1 by omega]; exact h, by simp; omega, by simp; omega, (fun r hr => by
              rcases List.mem_append.1 hr with hr | hr
              · exact HVS.out r hr
              · rw [List.mem_singleton.1 hr]; exact HXS.out), m, HM2.out, HSN.out⟩)
          · have CA2 := Aside0.mk (addL HL5.out HPL.out (by simp; omega) 98)
            go_upto_region 59 with (fail)
            go_upto_region 60 with (go_at_call 35; refine CA2.out.mono ?_; rintro e w6 ⟨rfl, O6, hL6⟩; have HL6 := Aside0.mk hL6; clear hL6)
            go_upto_region 168 with ((with_reducible refine gate_dst (N := 191) rfl ?_); at_builtin; refine print_append_num w.heap.size rfl (.tmp 189) _ 32 21 .i32 4 rfl Tryd.underlying32 info21 (by decide) (.slice (some ⟨g, 0, none⟩) vs.length cap) vs 8 rfl ?hx ?hO (Below.refl _ _) HL6.out.fr.size (by omega) ?_; (case hx => rfl); (case hO => have h := HL6.out.rv; exact h); intro v1 w7 hown hB hg hat; obtain ⟨g1, cap1, rfl, hgb, hgl⟩ := hown.form (by simp); have HV := Aside0.mk (HL6.out.app HPL.out hown hg hat); clear hown hB hg hat)
            have CC := Aside0.mk (colL HV.out HPL.out 1 (by omega) (by omega) (by omega) (by omega))
            go_upto_region 169 with (fail)
            go_upto_region 11 with (go_at_call 37; refine CC.out.mono ?_; rintro e w8 ⟨rfl, hL8⟩; have HL8 := Aside0.mk hL8; clear hL8)
            go_wp2_with fail
            exact HK.out (N - (i + 2)) _ _ (by omega) (JD_of g1 cap1 (vs ++ [8]) (os ++ [92] ++ [98]) O6 false false (i + 2) rfl rfl rfl rfl rfl rfl (by rw [List.length_append]; rfl) rfl rfl (by rfl) (by omega) (by omega) rfl ⟨by have h := HL8.out; simp only [Bool.false_eq_true, if_false]; rw [show ((i + 2 : Nat) : Int) - 1 = (i : Int) + 1 by omega]; exact h, by simp; omega, by simp; omega, (fun r hr => by
              rcases List.mem_append.1 hr with hr | hr
              · exact HVS.out r hr
              · rw [List.mem_singleton.1 hr]; exact HXS.out), m, HM2.out, HSN.out⟩)
          · have CA2 := Aside0.mk (addL HL5.out HPL.out (by simp; omega) 116)
            go_upto_region 63 with (fail)
            go_upto_region 64 with (go_at_call 35; refine CA2.out.mono ?_; rintro e w6 ⟨rfl, O6, hL6⟩; have HL6 := Aside0.mk hL6; clear hL6)
            go_upto_region 168 with ((with_reducible refine gate_dst (N := 199) rfl ?_); at_builtin; refine print_append_num w.heap.size rfl (.tmp 197) _ 32 21 .i32 4 rfl Tryd.underlying32 info21 (by decide) (.slice (some ⟨g, 0, none⟩) vs.length cap) vs 9 rfl ?hx ?hO (Below.refl _ _) HL6.out.fr.size (by omega) ?_; (case hx => rfl); (case hO => have h := HL6.out.rv; exact h); intro v1 w7 hown hB hg hat; obtain ⟨g1, cap1, rfl, hgb, hgl⟩ := hown.form (by simp); have HV := Aside0.mk (HL6.out.app HPL.out hown hg hat); clear hown hB hg hat)
            have CC := Aside0.mk (colL HV.out HPL.out 1 (by omega) (by omega) (by omega) (by omega))
            go_upto_region 169 with (fail)
            go_upto_region 11 with (go_at_call 37; refine CC.out.mono ?_; rintro e w8 ⟨rfl, hL8⟩; have HL8 := Aside0.mk hL8; clear hL8)
            go_wp2_with fail
            exact HK.out (N - (i + 2)) _ _ (by omega) (JD_of g1 cap1 (vs ++ [9]) (os ++ [92] ++ [116]) O6 false false (i + 2) rfl rfl rfl rfl rfl rfl (by rw [List.length_append]; rfl) rfl rfl (by rfl) (by omega) (by omega) rfl ⟨by have h := HL8.out; simp only [Bool.false_eq_true, if_false]; rw [show ((i + 2 : Nat) : Int) - 1 = (i : Int) + 1 by omega]; exact h, by simp; omega, by simp; omega, (fun r hr => by
              rcases List.mem_append.1 hr with hr | hr
              · exact HVS.out r hr
              · rw [List.mem_singleton.1 hr]; exact HXS.out), m, HM2.out, HSN.out⟩)
          · have CA2 := Aside0.mk (addL HL5.out HPL.out (by simp; omega) 110)
            go_upto_region 67 with (fail)
            go_upto_region 68 with (go_at_call 35; refine CA2.out.mono ?_; rintro e w6 ⟨rfl, O6, hL6⟩; have HL6 := Aside0.mk hL6; clear hL6)
            go_upto_region 168 with ((with_reducible refine gate_dst (N := 207) rfl ?_); at_builtin; refine print_append_num w.heap.size rfl (.tmp 205) _ 32 21 .i32 4 rfl Tryd.underlying32 info21 (by decide) (.slice (some ⟨g, 0, none⟩) vs.length cap) vs 10 rfl ?hx ?hO (Below.refl _ _) HL6.out.fr.size (by omega) ?_; (case hx => rfl); (case hO => have h := HL6.out.rv; exact h); intro v1 w7 hown hB hg hat; obtain ⟨g1, cap1, rfl, hgb, hgl⟩ := hown.form (by simp); have HV := Aside0.mk (HL6.out.app HPL.out hown hg hat); clear hown hB hg hat)
            have CC := Aside0.mk (colL HV.out HPL.out 1 (by omega) (by omega) (by omega) (by omega))
            go_upto_region 169 with (fail)
            go_upto_region 11 with (go_at_call 37; refine CC.out.mono ?_; rintro e w8 ⟨rfl, hL8⟩; have HL8 := Aside0.mk hL8; clear hL8)
            go_wp2_with fail
            exact HK.out (N - (i + 2)) _ _ (by omega) (JD_of g1 cap1 (vs ++ [10]) (os ++ [92] ++ [110]) O6 false false (i + 2) rfl rfl rfl rfl rfl rfl (by rw [List.length_append]; rfl) rfl rfl (by rfl) (by omega) (by omega) rfl ⟨by have h := HL8.out; simp only [Bool.false_eq_true, if_false]; rw [show ((i + 2 : Nat) : Int) - 1 = (i : Int) + 1 by omega]; exact h, by simp; omega, by simp; omega, (fun r hr => by
              rcases List.mem_append.1 hr with hr | hr
              · exact HVS.out r hr
              · rw [List.mem_singleton.1 hr]; exact HXS.out), m, HM2.out, HSN.out⟩)
          · have CA2 := Aside0.mk (addL HL5.out HPL.out (by simp; omega) 118)
            go_upto_region 71 with (fail)
            go_upto_region 72 with (go_at_call 35; refine CA2.out.mono ?_; rintro e w6 ⟨rfl, O6, hL6⟩; have HL6 := Aside0.mk hL6; clear hL6)
            go_upto_region 168 with ((with_reducible refine gate_dst (N := 215) rfl ?_); at_builtin; refine print_append_num w.heap.size rfl (.tmp 213) _ 32 21 .i32 4 rfl Tryd.underlying32 info21 (by decide) (.slice (some ⟨g, 0, none⟩) vs.length cap) vs 11 rfl ?hx ?hO (Below.refl _ _) HL6.out.fr.size (by omega) ?_; (case hx => rfl); (case hO => have h := HL6.out.rv; exact h); intro v1 w7 hown hB hg hat; obtain ⟨g1, cap1, rfl, hgb, hgl⟩ := hown.form (by simp); have HV := Aside0.mk (HL6.out.app HPL.out hown hg hat); clear hown hB hg hat)
            have CC := Aside0.mk (colL HV.out HPL.out 1 (by omega) (by omega) (by omega) (by omega))
            go_upto_region 169 with (fail)
            go_upto_region 11 with (go_at_call 37; refine CC.out.mono ?_; rintro e w8 ⟨rfl, hL8⟩; have HL8 := Aside0.mk hL8; clear hL8)
            go_wp2_with fail
            exact HK.out (N - (i + 2)) _ _ (by omega) (JD_of g1 cap1 (vs ++ [11]) (os ++ [92] ++ [118]) O6 false false (i + 2) rfl rfl rfl rfl rfl rfl (by rw [List.length_append]; rfl) rfl rfl (by rfl) (by omega) (by omega) rfl ⟨by have h := HL8.out; simp only [Bool.false_eq_true, if_false]; rw [show ((i + 2 : Nat) : Int) - 1 = (i : Int) + 1 by omega]; exact h, by simp; omega, by simp; omega, (fun r hr => by
              rcases List.mem_append.1 hr with hr | hr
              · exact HVS.out r hr
              · rw [List.mem_singleton.1 hr]; exact HXS.out), m, HM2.out, HSN.out⟩)
          · have CA2 := Aside0.mk (addL HL5.out HPL.out (by simp; omega) 102)
            go_upto_region 75 with (fail)
            go_upto_region 76 with (go_at_call 35; refine CA2.out.mono ?_; rintro e w6 ⟨rfl, O6, hL6⟩; have HL6 := Aside0.mk hL6; clear hL6)
            go_upto_region 168 with ((with_reducible refine gate_dst (N := 223) rfl ?_); at_builtin; refine print_append_num w.heap.size rfl (.tmp 221) _ 32 21 .i32 4 rfl Tryd.underlying32 info21 (by decide) (.slice (some ⟨g, 0, none⟩) vs.length cap) vs 12 rfl ?hx ?hO (Below.refl _ _) HL6.out.fr.size (by omega) ?_; (case hx => rfl); (case hO => have h := HL6.out.rv; exact h); intro v1 w7 hown hB hg hat; obtain ⟨g1, cap1, rfl, hgb, hgl⟩ := hown.form (by simp); have HV := Aside0.mk (HL6.out.app HPL.out hown hg hat); clear hown hB hg hat)
            have CC := Aside0.mk (colL HV.out HPL.out 1 (by omega) (by omega) (by omega) (by omega))
            go_upto_region 169 with (fail)
            go_upto_region 11 with (go_at_call 37; refine CC.out.mono ?_; rintro e w8 ⟨rfl, hL8⟩; have HL8 := Aside0.mk hL8; clear hL8)
            go_wp2_with fail
            exact HK.out (N - (i + 2)) _ _ (by omega) (JD_of g1 cap1 (vs ++ [12]) (os ++ [92] ++ [102]) O6 false false (i + 2) rfl rfl rfl rfl rfl rfl (by rw [List.length_append]; rfl) rfl rfl (by rfl) (by omega) (by omega) rfl ⟨by have h := HL8.out; simp only [Bool.false_eq_true, if_false]; rw [show ((i + 2 : Nat) : Int) - 1 = (i : Int) + 1 by omega]; exact h, by simp; omega, by simp; omega, (fun r hr => by
              rcases List.mem_append.1 hr with hr | hr
              · exact HVS.out r hr
              · rw [List.mem_singleton.1 hr]; exact HXS.out), m, HM2.out, HSN.out⟩)
          · have CA2 := Aside0.mk (addL HL5.out HPL.out (by simp; omega) 114)
            go_upto_region 79 with (fail)
            go_upto_region 80 with (go_at_call 35; refine CA2.out.mono ?_; rintro e w6 ⟨rfl, O6, hL6⟩; have HL6 := Aside0.mk hL6; clear hL6)
            go_upto_region 168 with ((with_reducible refine gate_dst (N := 231) rfl ?_); at_builtin; refine print_append_num w.heap.size rfl (.tmp 229) _ 32 21 .i32 4 rfl Tryd.underlying32 info21 (by decide) (.slice (some ⟨g, 0, none⟩) vs.length cap) vs 13 rfl ?hx ?hO (Below.refl _ _) HL6.out.fr.size (by omega) ?_; (case hx => rfl); (case hO => have h := HL6.out.rv; exact h); intro v1 w7 hown hB hg hat; obtain ⟨g1, cap1, rfl, hgb, hgl⟩ := hown.form (by simp); have HV := Aside0.mk (HL6.out.app HPL.out hown hg hat); clear hown hB hg hat)
            have CC := Aside0.mk (colL HV.out HPL.out 1 (by omega) (by omega) (by omega) (by omega))
            go_upto_region 169 with (fail)
            go_upto_region 11 with (go_at_call 37; refine CC.out.mono ?_; rintro e w8 ⟨rfl, hL8⟩; have HL8 := Aside0.mk hL8; clear hL8)
            go_wp2_with fail
            exact HK.out (N - (i + 2)) _ _ (by omega) (JD_of g1 cap1 (vs ++ [13]) (os ++ [92] ++ [114]) O6 false false (i + 2) rfl rfl rfl rfl rfl rfl (by rw [List.length_append]; rfl) rfl rfl (by rfl) (by omega) (by omega) rfl ⟨by have h := HL8.out; simp only [Bool.false_eq_true, if_false]; rw [show ((i + 2 : Nat) : Int) - 1 = (i : Int) + 1 by omega]; exact h, by simp; omega, by simp; omega, (fun r hr => by
              rcases List.mem_append.1 hr with hr | hr
              · exact HVS.out r hr
              · rw [List.mem_singleton.1 hr]; exact HXS.out), m, HM2.out, HSN.out⟩)
          · have CA2 := Aside0.mk (addL HL5.out HPL.out (by simp; omega) 101)
            go_upto_region 83 with (fail)
            go_upto_region 84 with (go_at_call 35; refine CA2.out.mono ?_; rintro e w6 ⟨rfl, O6, hL6⟩; have HL6 := Aside0.mk hL6; clear hL6)
            go_upto_region 168 with ((with_reducible refine gate_dst (N := 239) rfl ?_); at_builtin; refine print_append_num w.heap.size rfl (.tmp 237) _ 32 21 .i32 4 rfl Tryd.underlying32 info21 (by decide) (.slice (some ⟨g, 0, none⟩) vs.length cap) vs 27 rfl ?hx ?hO (Below.refl _ _) HL6.out.fr.size (by omega) ?_; (case hx => rfl); (case hO => have h := HL6.out.rv; exact h); intro v1 w7 hown hB hg hat; obtain ⟨g1, cap1, rfl, hgb, hgl⟩ := hown.form (by simp); have HV := Aside0.mk (HL6.out.app HPL.out hown hg hat); clear hown hB hg hat)
            have CC := Aside0.mk (colL HV.out HPL.out 1 (by omega) (by omega) (by omega) (by omega))
            go_upto_region 169 with (fail)
            go_upto_region 11 with (go_at_call 37; refine CC.out.mono ?_; rintro e w8 ⟨rfl, hL8⟩; have HL8 := Aside0.mk hL8; clear hL8)
            go_wp2_with fail
            exact HK.out (N - (i + 2)) _ _ (by omega) (JD_of g1 cap1 (vs ++ [27]) (os ++ [92] ++ [101]) O6 false false (i + 2) rfl rfl rfl rfl rfl rfl (by rw [List.length_append]; rfl) rfl rfl (by rfl) (by omega) (by omega) rfl ⟨by have h := HL8.out; simp only [Bool.false_eq_true, if_false]; rw [show ((i + 2 : Nat) : Int) - 1 = (i : Int) + 1 by omega]; exact h, by simp; omega, by simp; omega, (fun r hr => by
              rcases List.mem_append.1 hr with hr | hr
              · exact HVS.out r hr
              · rw [List.mem_singleton.1 hr]; exact HXS.out), m, HM2.out, HSN.out⟩)
          · have CA2 := Aside0.mk (addL HL5.out HPL.out (by simp; omega) 32)
            go_upto_region 87 with (fail)
            go_upto_region 88 with (go_at_call 35; refine CA2.out.mono ?_; rintro e w6 ⟨rfl, O6, hL6⟩; have HL6 := Aside0.mk hL6; clear hL6)
            go_upto_region 168 with ((with_reducible refine gate_dst (N := 247) rfl ?_); at_builtin; refine print_append_num w.heap.size rfl (.tmp 245) _ 32 21 .i32 4 rfl Tryd.underlying32 info21 (by decide) (.slice (some ⟨g, 0, none⟩) vs.length cap) vs 32 rfl ?hx ?hO (Below.refl _ _) HL6.out.fr.size (by omega) ?_; (case hx => rfl); (case hO => have h := HL6.out.rv; exact h); intro v1 w7 hown hB hg hat; obtain ⟨g1, cap1, rfl, hgb, hgl⟩ := hown.form (by simp); have HV := Aside0.mk (HL6.out.app HPL.out hown hg hat); clear hown hB hg hat)
            have CC := Aside0.mk (colL HV.out HPL.out 1 (by omega) (by omega) (by omega) (by omega))
            go_upto_region 169 with (fail)
            go_upto_region 11 with (go_at_call 37; refine CC.out.mono ?_; rintro e w8 ⟨rfl, hL8⟩; have HL8 := Aside0.mk hL8; clear hL8)
            go_wp2_with fail
            exact HK.out (N - (i + 2)) _ _ (by omega) (JD_of g1 cap1 (vs ++ [32]) (os ++ [92] ++ [32]) O6 false false (i + 2) rfl rfl rfl rfl rfl rfl (by rw [List.length_append]; rfl) rfl rfl (by rfl) (by omega) (by omega) rfl ⟨by have h := HL8.out; simp only [Bool.false_eq_true, if_false]; rw [show ((i + 2 : Nat) : Int) - 1 = (i : Int) + 1 by omega]; exact h, by simp; omega, by simp; omega, (fun r hr => by
              rcases List.mem_append.1 hr with hr | hr
              · exact HVS.out r hr
              · rw [List.mem_singleton.1 hr]; exact HXS.out), m, HM2.out, HSN.out⟩)
          · have CA2 := Aside0.mk (addL HL5.out HPL.out (by simp; omega) 34)
            go_upto_region 91 with (fail)
            go_upto_region 92 with (go_at_call 35; refine CA2.out.mono ?_; rintro e w6 ⟨rfl, O6, hL6⟩; have HL6 := Aside0.mk hL6; clear hL6)
            go_upto_region 168 with ((with_reducible refine gate_dst (N := 255) rfl ?_); at_builtin; refine print_append_num w.heap.size rfl (.tmp 253) _ 32 21 .i32 4 rfl Tryd.underlying32 info21 (by decide) (.slice (some ⟨g, 0, none⟩) vs.length cap) vs 34 rfl ?hx ?hO (Below.refl _ _) HL6.out.fr.size (by omega) ?_; (case hx => rfl); (case hO => have h := HL6.out.rv; exact h); intro v1 w7 hown hB hg hat; obtain ⟨g1, cap1, rfl, hgb, hgl⟩ := hown.form (by simp); have HV := Aside0.mk (HL6.out.app HPL.out hown hg hat); clear hown hB hg hat)
            have CC := Aside0.mk (colL HV.out HPL.out 1 (by omega) (by omega) (by omega) (by omega))
            go_upto_region 169 with (fail)
            go_upto_region 11 with (go_at_call 37; refine CC.out.mono ?_; rintro e w8 ⟨rfl, hL8⟩; have HL8 := Aside0.mk hL8; clear hL8)
            go_wp2_with fail
            exact HK.out (N - (i + 2)) _ _ (by omega) (JD_of g1 cap1 (vs ++ [34]) (os ++ [92] ++ [34]) O6 false false (i + 2) rfl rfl rfl rfl rfl rfl (by rw [List.length_append]; rfl) rfl rfl (by rfl) (by omega) (by omega) rfl ⟨by have h := HL8.out; simp only [Bool.false_eq_true, if_false]; rw [show ((i + 2 : Nat) : Int) - 1 = (i : Int) + 1 by omega]; exact h, by simp; omega, by simp; omega, (fun r hr => by
              rcases List.mem_append.1 hr with hr | hr
              · exact HVS.out r hr
              · rw [List.mem_singleton.1 hr]; exact HXS.out), m, HM2.out, HSN.out⟩)
          · have CA2 := Aside0.mk (addL HL5.out HPL.out (by simp; omega) 92)
            go_upto_region 99 with (fail)
            go_upto_region 100 with (go_at_call 35; refine CA2.out.mono ?_; rintro e w6 ⟨rfl, O6, hL6⟩; have HL6 := Aside0.mk hL6; clear hL6)
            go_upto_region 168 with ((with_reducible refine gate_dst (N := 271) rfl ?_); at_builtin; refine print_append_num w.heap.size rfl (.tmp 269) _ 32 21 .i32 4 rfl Tryd.underlying32 info21 (by decide) (.slice (some ⟨g, 0, none⟩) vs.length cap) vs 92 rfl ?hx ?hO (Below.refl _ _) HL6.out.fr.size (by omega) ?_; (case hx => rfl); (case hO => have h := HL6.out.rv; exact h); intro v1 w7 hown hB hg hat; obtain ⟨g1, cap1, rfl, hgb, hgl⟩ := hown.form (by simp); have HV := Aside0.mk (HL6.out.app HPL.out hown hg hat); clear hown hB hg hat)
            have CC := Aside0.mk (colL HV.out HPL.out 1 (by omega) (by omega) (by omega) (by omega))
            go_upto_region 169 with (fail)
            go_upto_region 11 with (go_at_call 37; refine CC.out.mono ?_; rintro e w8 ⟨rfl, hL8⟩; have HL8 := Aside0.mk hL8; clear hL8)
            go_wp2_with fail
            exact HK.out (N - (i + 2)) _ _ (by omega) (JD_of g1 cap1 (vs ++ [92]) (os ++ [92] ++ [92]) O6 false false (i + 2) rfl rfl rfl rfl rfl rfl (by rw [List.length_append]; rfl) rfl rfl (by rfl) (by omega) (by omega) rfl ⟨by have h := HL8.out; simp only [Bool.false_eq_true, if_false]; rw [show ((i + 2 : Nat) : Int) - 1 = (i : Int) + 1 by omega]; exact h, by simp; omega, by simp; omega, (fun r hr => by
              rcases List.mem_append.1 hr with hr | hr
              · exact HVS.out r hr
              · rw [List.mem_singleton.1 hr]; exact HXS.out), m, HM2.out, HSN.out⟩)
          · have CA2 := Aside0.mk (addL HL5.out HPL.out (by simp; omega) 78)
            go_upto_region 103 with (fail)
            go_upto_region 104 with (go_at_call 35; refine CA2.out.mono ?_; rintro e w6 ⟨rfl, O6, hL6⟩; have HL6 := Aside0.mk hL6; clear hL6)
            go_upto_region 168 with ((with_reducible refine gate_dst (N := 279) rfl ?_); at_builtin; refine print_append_num w.heap.size rfl (.tmp 277) _ 32 21 .i32 4 rfl Tryd.underlying32 info21 (by decide) (.slice (some ⟨g, 0, none⟩) vs.length cap) vs 133 rfl ?hx ?hO (Below.refl _ _) HL6.out.fr.size (by omega) ?_; (case hx => rfl); (case hO => have h := HL6.out.rv; exact h); intro v1 w7 hown hB hg hat; obtain ⟨g1, cap1, rfl, hgb, hgl⟩ := hown.form (by simp); have HV := Aside0.mk (HL6.out.app HPL.out hown hg hat); clear hown hB hg hat)
            have CC := Aside0.mk (colL HV.out HPL.out 1 (by omega) (by omega) (by omega) (by omega))
            go_upto_region 169 with (fail)
            go_upto_region 11 with (go_at_call 37; refine CC.out.mono ?_; rintro e w8 ⟨rfl, hL8⟩; have HL8 := Aside0.mk hL8; clear hL8)
            go_wp2_with fail
            exact HK.out (N - (i + 2)) _ _ (by omega) (JD_of g1 cap1 (vs ++ [133]) (os ++ [92] ++ [78]) O6 false false (i + 2) rfl rfl rfl rfl rfl rfl (by rw [List.length_append]; rfl) rfl rfl (by rfl) (by omega) (by omega) rfl ⟨by have h := HL8.out; simp only [Bool.false_eq_true, if_false]; rw [show ((i + 2 : Nat) : Int) - 1 = (i : Int) + 1 by omega]; exact h, by simp; omega, by simp; omega, (fun r hr => by
              rcases List.mem_append.1 hr with hr | hr
              · exact HVS.out r hr
              · rw [List.mem_singleton.1 hr]; exact HXS.out), m, HM2.out, HSN.out⟩)
          · have CA2 := Aside0.mk (addL HL5.out HPL.out (by simp; omega) 95)
            go_upto_region 107 with (fail)
            go_upto_region 108 with (go_at_call 35; refine CA2.out.mono ?_; rintro e w6 ⟨rfl, O6, hL6⟩; have HL6 := Aside0.mk hL6; clear hL6)
            go_upto_region 168 with ((with_reducible refine gate_dst (N := 287) rfl ?_); at_builtin; refine print_append_num w.heap.size rfl (.tmp 285) _ 32 21 .i32 4 rfl Tryd.underlying32 info21 (by decide) (.slice (some ⟨g, 0, none⟩) vs.length cap) vs 160 rfl ?hx ?hO (Below.refl _ _) HL6.out.fr.size (by omega) ?_; (case hx => rfl); (case hO => have h := HL6.out.rv; exact h); intro v1 w7 hown hB hg hat; obtain ⟨g1, cap1, rfl, hgb, hgl⟩ := hown.form (by simp); have HV := Aside0.mk (HL6.out.app HPL.out hown hg hat); clear hown hB hg hat)
            have CC := Aside0.mk (colL HV.out HPL.out 1 (by omega) (by omega) (by omega) (by omega))
            go_upto_region 169 with (fail)
            go_upto_region 11 with (go_at_call 37; refine CC.out.mono ?_; rintro e w8 ⟨rfl, hL8⟩; have HL8 := Aside0.mk hL8; clear hL8)
            go_wp2_with fail
            exact HK.out (N - (i + 2)) _ _ (by omega) (JD_of g1 cap1 (vs ++ [160]) (os ++ [92] ++ [95]) O6 false false (i + 2) rfl rfl rfl rfl rfl rfl (by rw [List.length_append]; rfl) rfl rfl (by rfl) (by omega) (by omega) rfl ⟨by have h := HL8.out; simp only [Bool.false_eq_true, if_false]; rw [show ((i + 2 : Nat) : Int) - 1 = (i : Int) + 1 by omega]; exact h, by simp; omega, by simp; omega, (fun r hr => by
              rcases List.mem_append.1 hr with hr | hr
              · exact HVS.out r hr
              · rw [List.mem_singleton.1 hr]; exact HXS.out), m, HM2.out, HSN.out⟩)
          · have CA2 := Aside0.mk (addL HL5.out HPL.out (by simp; omega) 76)
            go_upto_region 111 with (fail)
            go_upto_region 112 with (go_at_call 35; refine CA2.out.mono ?_; rintro e w6 ⟨rfl, O6, hL6⟩; have HL6 := Aside0.mk hL6; clear hL6)
            go_upto_region 168 with ((with_reducible refine gate_dst (N := 295) rfl ?_); at_builtin; refine print_append_num w.heap.size rfl (.tmp 293) _ 32 21 .i32 4 rfl Tryd.underlying32 info21 (by decide) (.slice (some ⟨g, 0, none⟩) vs.length cap) vs 8232 rfl ?hx ?hO (Below.refl _ _) HL6.out.fr.size (by omega) ?_; (case hx => rfl); (case hO => have h := HL6.out.rv; exact h); intro v1 w7 hown hB hg hat; obtain ⟨g1, cap1, rfl, hgb, hgl⟩ := hown.form (by simp); have HV := Aside0.mk (HL6.out.app HPL.out hown hg hat); clear hown hB hg hat)
            have CC := Aside0.mk (colL HV.out HPL.out 1 (by omega) (by omega) (by omega) (by omega))
            go_upto_region 169 with (fail)
            go_upto_region 11 with (go_at_call 37; refine CC.out.mono ?_; rintro e w8 ⟨rfl, hL8⟩; have HL8 := Aside0.mk hL8; clear hL8)
            go_wp2_with fail
            exact HK.out (N - (i + 2)) _ _ (by omega) (JD_of g1 cap1 (vs ++ [8232]) (os ++ [92] ++ [76]) O6 false false (i + 2) rfl rfl rfl rfl rfl rfl (by rw [List.length_append]; rfl) rfl rfl (by rfl) (by omega) (by omega) rfl ⟨by have h := HL8.out; simp only [Bool.false_eq_true, if_false]; rw [show ((i + 2 : Nat) : Int) - 1 = (i : Int) + 1 by omega]; exact h, by simp; omega, by simp; omega, (fun r hr => by
              rcases List.mem_append.1 hr with hr | hr
              · exact HVS.out r hr
              · rw [List.mem_singleton.1 hr]; exact HXS.out), m, HM2.out, HSN.out⟩)
          · have CA2 := Aside0.mk (addL HL5.out HPL.out (by simp; omega) 80)
            go_upto_region 115 with (fail)
            go_upto_region 116 with (go_at_call 35; refine CA2.out.mono ?_; rintro e w6 ⟨rfl, O6, hL6⟩; have HL6 := Aside0.mk hL6; clear hL6)
            go_upto_region 168 with ((with_reducible refine gate_dst (N := 303) rfl ?_); at_builtin; refine print_append_num w.heap.size rfl (.tmp 301) _ 32 21 .i32 4 rfl Tryd.underlying32 info21 (by decide) (.slice (some ⟨g, 0, none⟩) vs.length cap) vs 8233 rfl ?hx ?hO (Below.refl _ _) HL6.out.fr.size (by omega) ?_; (case hx => rfl); (case hO => have h := HL6.out.rv; exact h); intro v1 w7 hown hB hg hat; obtain ⟨g1, cap1, rfl, hgb, hgl⟩ := hown.form (by simp); have HV := Aside0.mk (HL6.out.app HPL.out hown hg hat); clear hown hB hg hat)
            have CC := Aside0.mk (colL HV.out HPL.out 1 (by omega) (by omega) (by omega) (by omega))
            go_upto_region 169 with (fail)
            go_upto_region 11 with (go_at_call 37; refine CC.out.mono ?_; rintro e w8 ⟨rfl, hL8⟩; have HL8 := Aside0.mk hL8; clear hL8)
            go_wp2_with fail
            exact HK.out (N - (i + 2)) _ _ (by omega) (JD_of g1 cap1 (vs ++ [8233]) (os ++ [92] ++ [80]) O6 false false (i + 2) rfl rfl rfl rfl rfl rfl (by rw [List.length_append]; rfl) rfl rfl (by rfl) (by omega) (by omega) rfl ⟨by have h := HL8.out; simp only [Bool.false_eq_true, if_false]; rw [show ((i + 2 : Nat) : Int) - 1 = (i : Int) + 1 by omega]; exact h, by simp; omega, by simp; omega, (fun r hr => by
              rcases List.mem_append.1 hr with hr | hr
              · exact HVS.out r hr
              · rw [List.mem_singleton.1 hr]; exact HXS.out), m, HM2.out, HSN.out⟩)
      rw [if_neg (fun h => c92 h.2)] at hsn
      have q92 : (c == 92) = false := by simpa using c92
      have q9 : (c == 9) = false := by simpa using c9
      by_cases c34 : c = 34
      · subst c34
        rw [if_pos rfl] at hsn
        by_cases h10 : L.drop (i + 1) = [10]
        · rw [if_pos h10] at hsn
          injection hsn with hsn
          have hlen : i + 2 = N := by
            have := congrArg List.length h10
            rw [List.length_drop, ← HN.out] at this
            simp at this; omega
          have hx1 : L.getD (i + 1) 0 = 10 := by
            have := congrArg (fun l : List Int => l.getD 0 0) h10
            simpa [List.getD] using this
          subst hsn
          have CN := Aside0.mk (fun W => newline_any W S 34 false (decide_eq_false (by omega)).symm)
          have hrd : Aside0 (L.getD (i + 1) 0 = 10) := ⟨hx1⟩
          clear h10 hx1 c10 c9 c32 h13 c92
          have hff : f = false ∨ f = true := by cases f <;> simp
          go_upto_region 189 with (first
            | (go_at_call 35; refine CA.out.mono ?_; rintro e w5 ⟨rfl, O5, hL5⟩; have HL5 := Aside0.mk hL5; clear hL5)
            | (go_at_call 38; refine (CN.out _).mono ?_; rintro e w6 ⟨rfl, rfl⟩))
          all_goals
            have hi1N : i + 1 < N := by omega
            have hg1 := HL5.out.rd (i + 1) (by have := HN.out; omega)
            rw [hrd.out] at hg1
            obtain ⟨szC, aC, bC, yC1, yC2, yC3, hcC⟩ := HL5.out.cx
            have k4 := blk_cell hcC 4
            simp only [List.getElem?_toArray, List.getElem?_cons_succ, List.getElem?_cons_zero] at k4
            unfold sl at k4
            rw [← HN.out] at k4
            have hi2b : decide ((i : Int) + 1 < (N : Int)) = true := decide_eq_true (by omega)
            have CC := Aside0.mk (colL HL5.out HPL.out 1 (by omega) (by omega) (by omega) (by omega))
            clear hcC
            go_upto_region 190 with (go_at_call 37; refine CC.out.mono ?_; rintro e w6 ⟨rfl, hL6⟩; have HL6 := Aside0.mk hL6; clear hL6)
            obtain ⟨go, capo, hOe, _, _⟩ := HL6.out.ro.form (by simp)
            obtain ⟨szD, aD, bD, yD1, yD2, yD3, hcD⟩ := HL6.out.cx
            have k6 := blk_cell hcD 6
            simp only [List.getElem?_toArray, List.getElem?_cons_succ, List.getElem?_cons_zero] at k6
            rw [hOe] at k6
            have hro := HL6.out.ro
            rw [hOe] at hro
            have hAO : ∀ W, Below w6.heap.size w6 W → (convert 32 9 (.slice (some ⟨go, 0, none⟩) (os.length + 1) capo)).run Tryd.prog W = .ok (.string (runesBytes (os ++ [34]))) W := fun W hW => by
              have h := run_convert_runes (P := Tryd.prog) W 32 9 21 ⟨go, 0, none⟩ (os ++ [34]).length capo (os ++ [34]) (Nat.le_refl _) Tryd.underlying32 Tryd.underlying21 Tryd.underlying9 (fun j hj => by
                rw [addr_add]
                exact pw_cell_below hW (row_cell hro j hj))
              rw [List.take_of_length_le (Nat.le_refl _), List.length_append, List.length_singleton] at h
              exact h
            have hAV : ∀ W, Below w6.heap.size w6 W → (convert 32 9 (.slice (some ⟨g, 0, none⟩) vs.length cap)).run Tryd.prog W = .ok (.string (ba (enc vs))) W := fun W hW => by
              have h := run_convert_runes (P := Tryd.prog) W 32 9 21 ⟨g, 0, none⟩ vs.length cap vs (Nat.le_refl _) Tryd.underlying32 Tryd.underlying21 Tryd.underlying9 (fun j hj => by
                rw [addr_add]
                exact pw_cell_below hW (row_cell HL6.out.rv j hj))
              rw [List.take_of_length_le (Nat.le_refl _), runes_enc vs HVS.out] at h
              exact h
            rw [List.length_append, List.length_singleton] at k6
            obtain ⟨ob, hob⟩ : ∃ ob, ob = runesBytes (os ++ [34]) := ⟨_, rfl⟩
            obtain ⟨vb, hvb⟩ : ∃ vb, vb = ba (enc vs) := ⟨_, rfl⟩
            rw [← hob] at hAO
            rw [← hvb] at hAV
            have hcO := hAO w6.drew (Below.refl _ _).drew
            have hcV := hAV w6.drew (Below.refl _ _).drew
            have k6d : w6.drew.cell? ⟨C, 6, none⟩ = some (.slice (some ⟨go, 0, none⟩) (os.length + 1) capo) := k6
            have HAO := Aside0.mk hAO
            have HAV := Aside0.mk hAV
            have CT := Aside0.mk (fun W => double_tok vb ob Q W)
            have HVB := Aside0.mk hvb
            clear hro hOe hcD hob hvb hAO hAV
            go_region_held3 (fun w' => w'.cell? ⟨C, 6, none⟩ = some (.slice (some ⟨go, 0, none⟩) (os.length + 1) capo) ∧ (convert 32 9 (.slice (some ⟨go, 0, none⟩) (os.length + 1) capo)).run Tryd.prog w' = .ok (.string ob) w' ∧ (convert 32 9 (.slice (some ⟨g, 0, none⟩) vs.length cap)).run Tryd.prog w' = .ok (.string vb) w') (first | exact ⟨k6d, hcO, hcV⟩ | exact ⟨k7, k8, k9⟩) ((go_at_call 44; refine (CT.out _).mono ?_; rintro e w7 ⟨t, rfl, ht1, ht2, hb7⟩; have HT7 := Aside0.mk (And.intro ht1 (And.intro ht2 hb7)); have k7 := pw_cell_below hb7 k6d; have k8 := HAO.out _ ((Below.refl w6.heap.size w6).drew.trans hb7); have k9 := HAV.out _ ((Below.refl w6.heap.size w6).drew.trans hb7); clear ht1 ht2 hb7))
            all_goals
              go_wp2_with fail
              go_ret2
              have hL7 := HL6.out.below HPL.out ((Below.refl w6.heap.size w6).drew.trans HT7.out.2.2)
              refine ⟨t, Q, ob, rfl, by rw [← HVB.out]; exact HT7.out.2.1, hL7.ps, Nat.le_trans HL6.out.fr.size HT7.out.1, hL7.qb, ?_, hL7.fr⟩
              have h := hL7.sc
              rw [show ((L.length - 1 : Nat) : Int) = (i : Int) + 1 by have := HN.out; omega]
              exact h
        · rw [if_neg h10] at hsn; cases hsn
      · rw [if_neg c34] at hsn
        have q34 : (c == 34) = false := by simpa using c34
        have q34b : (c != 34) = true := by simpa using c34
        have HSN := Aside0.mk hsn
        have hf32 : (f && (c == 32)) = false := by
          cases f with
          | false => rfl
          | true => simp only [Bool.true_and]; simp only [true_and] at c32; simpa using c32
        have hf9 : (f && (c == 9)) = false := by rw [q9]; cases f <;> rfl
        have hff : f = false ∨ (f = true ∧ (c == 32) = false) := by
          cases f with
          | false => exact .inl rfl
          | true => exact .inr ⟨rfl, by simpa using c32⟩
        clear hsn c10 h13 c9 c34 c92 hf32 hf9 c32
        rcases hff with rfl | ⟨rfl, q32⟩
        all_goals
          go_wp2_with (first
          | (go_at_call 35; refine CA.out.mono ?_; rintro e w5 ⟨rfl, O5, hL5⟩; have HL5 := Aside0.mk hL5; clear hL5)
          | (go_at_call 38; refine (CN.out _).mono ?_; rintro e w6 ⟨rfl, rfl⟩)
          | ((with_reducible refine gate_dst (N := 570) rfl ?_); at_builtin; refine print_append_num w.heap.size rfl (.tmp 567) _ 32 21 .i32 4 rfl Tryd.underlying32 info21 (by decide) (.slice (some ⟨g, 0, none⟩) vs.length cap) vs c rfl rfl HL5.out.rv (Below.refl _ _) HL5.out.fr.size (by omega) ?_; intro v1 w7 hown hB hg hat; obtain ⟨g1, cap1, rfl, hgb, hgl⟩ := hown.form (by simp); have HV := Aside0.mk (HL5.out.app HPL.out hown hg hat); clear hown hB hg hat))
          exact HK.out (N - (i + 1)) _ _ (by omega) (JD_of g1 cap1 (vs ++ [c]) (os ++ [c]) O5 false false (i + 1) rfl rfl rfl rfl rfl rfl (by first | rfl | (rw [List.length_append]; rfl) | (rw [List.length_append, htl2]; rfl)) rfl rfl (by rfl) (by omega) (by omega) rfl ⟨by have h := HV.out; simp only [Bool.false_eq_true, if_false]; rw [show ((i + 1 : Nat) : Int) - 1 = (i : Int) by omega]; exact h, by simp; omega, by simp; omega, (fun r hr => by
          rcases List.mem_append.1 hr with hr | hr
          · exact HVS.out r hr
          · rw [List.mem_singleton.1 hr]; exact HCS.out), m, HMN.out, HSN.out⟩)
end Go.Proofs.YtgglhfbjbddjjaaDoor.ScDouble
