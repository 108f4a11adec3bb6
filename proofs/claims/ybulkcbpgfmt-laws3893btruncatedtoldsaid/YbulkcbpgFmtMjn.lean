/-
  Seat b3893aF: MergeWire, its cases joined.
-/
import Derived.Test.YbulkcbpgFmtMcA0
import Derived.Test.YbulkcbpgFmtMcA1
import Derived.Test.YbulkcbpgFmtMcA2
import Derived.Test.YbulkcbpgFmtMcA3
import Derived.Test.YbulkcbpgFmtMcA4
import Derived.Test.YbulkcbpgFmtMcA5
import Derived.Test.YbulkcbpgFmtMcA6
import Derived.Test.YbulkcbpgFmtMcB0
import Derived.Test.YbulkcbpgFmtMcB1
import Derived.Test.YbulkcbpgFmtMcB2
import Derived.Test.YbulkcbpgFmtMcB3
import Derived.Test.YbulkcbpgFmtMcB4
import Derived.Test.YbulkcbpgFmtMcB5
import Derived.Test.YbulkcbpgFmtMcB6
import Derived.Test.YbulkcbpgFmtMcU
import Derived.Test.YbulkcbpgFmtMcU1
namespace Go.Proofs.YbulkcbpgFmt
open Go.RowKit Go.Deep
set_option linter.unusedVariables false
set_option maxRecDepth 100000

theorem arr_lit8 (tm : Array Value) (n : Nat) (h : tm.size = n) : tm = ((List.range n).map (fun i => tm.getD i undef)).toArray := by
  subst h
  apply Array.ext
  · simp
  · intro i h1 h2
    simp [Array.getD, h1]

theorem frame8 (g : Nat → Value) : ((List.range 669).map g).toArray = #[g 0, g 1, g 2, g 3, g 4, g 5, g 6, g 7, g 8, g 9, g 10, g 11, g 12, g 13, g 14, g 15, g 16, g 17, g 18, g 19, g 20, g 21, g 22, g 23, g 24, g 25, g 26, g 27, g 28, g 29, g 30, g 31, g 32, g 33, g 34, g 35, g 36, g 37, g 38, g 39, g 40, g 41, g 42, g 43, g 44, g 45, g 46, g 47, g 48, g 49, g 50, g 51, g 52, g 53, g 54, g 55, g 56, g 57, g 58, g 59, g 60, g 61, g 62, g 63, g 64, g 65, g 66, g 67, g 68, g 69, g 70, g 71, g 72, g 73, g 74, g 75, g 76, g 77, g 78, g 79, g 80, g 81, g 82, g 83, g 84, g 85, g 86, g 87, g 88, g 89, g 90, g 91, g 92, g 93, g 94, g 95, g 96, g 97, g 98, g 99, g 100, g 101, g 102, g 103, g 104, g 105, g 106, g 107, g 108, g 109, g 110, g 111, g 112, g 113, g 114, g 115, g 116, g 117, g 118, g 119, g 120, g 121, g 122, g 123, g 124, g 125, g 126, g 127, g 128, g 129, g 130, g 131, g 132, g 133, g 134, g 135, g 136, g 137, g 138, g 139, g 140, g 141, g 142, g 143, g 144, g 145, g 146, g 147, g 148, g 149, g 150, g 151, g 152, g 153, g 154, g 155, g 156, g 157, g 158, g 159, g 160, g 161, g 162, g 163, g 164, g 165, g 166, g 167, g 168, g 169, g 170, g 171, g 172, g 173, g 174, g 175, g 176, g 177, g 178, g 179, g 180, g 181, g 182, g 183, g 184, g 185, g 186, g 187, g 188, g 189, g 190, g 191, g 192, g 193, g 194, g 195, g 196, g 197, g 198, g 199, g 200, g 201, g 202, g 203, g 204, g 205, g 206, g 207, g 208, g 209, g 210, g 211, g 212, g 213, g 214, g 215, g 216, g 217, g 218, g 219, g 220, g 221, g 222, g 223, g 224, g 225, g 226, g 227, g 228, g 229, g 230, g 231, g 232, g 233, g 234, g 235, g 236, g 237, g 238, g 239, g 240, g 241, g 242, g 243, g 244, g 245, g 246, g 247, g 248, g 249, g 250, g 251, g 252, g 253, g 254, g 255, g 256, g 257, g 258, g 259, g 260, g 261, g 262, g 263, g 264, g 265, g 266, g 267, g 268, g 269, g 270, g 271, g 272, g 273, g 274, g 275, g 276, g 277, g 278, g 279, g 280, g 281, g 282, g 283, g 284, g 285, g 286, g 287, g 288, g 289, g 290, g 291, g 292, g 293, g 294, g 295, g 296, g 297, g 298, g 299, g 300, g 301, g 302, g 303, g 304, g 305, g 306, g 307, g 308, g 309, g 310, g 311, g 312, g 313, g 314, g 315, g 316, g 317, g 318, g 319, g 320, g 321, g 322, g 323, g 324, g 325, g 326, g 327, g 328, g 329, g 330, g 331, g 332, g 333, g 334, g 335, g 336, g 337, g 338, g 339, g 340, g 341, g 342, g 343, g 344, g 345, g 346, g 347, g 348, g 349, g 350, g 351, g 352, g 353, g 354, g 355, g 356, g 357, g 358, g 359, g 360, g 361, g 362, g 363, g 364, g 365, g 366, g 367, g 368, g 369, g 370, g 371, g 372, g 373, g 374, g 375, g 376, g 377, g 378, g 379, g 380, g 381, g 382, g 383, g 384, g 385, g 386, g 387, g 388, g 389, g 390, g 391, g 392, g 393, g 394, g 395, g 396, g 397, g 398, g 399, g 400, g 401, g 402, g 403, g 404, g 405, g 406, g 407, g 408, g 409, g 410, g 411, g 412, g 413, g 414, g 415, g 416, g 417, g 418, g 419, g 420, g 421, g 422, g 423, g 424, g 425, g 426, g 427, g 428, g 429, g 430, g 431, g 432, g 433, g 434, g 435, g 436, g 437, g 438, g 439, g 440, g 441, g 442, g 443, g 444, g 445, g 446, g 447, g 448, g 449, g 450, g 451, g 452, g 453, g 454, g 455, g 456, g 457, g 458, g 459, g 460, g 461, g 462, g 463, g 464, g 465, g 466, g 467, g 468, g 469, g 470, g 471, g 472, g 473, g 474, g 475, g 476, g 477, g 478, g 479, g 480, g 481, g 482, g 483, g 484, g 485, g 486, g 487, g 488, g 489, g 490, g 491, g 492, g 493, g 494, g 495, g 496, g 497, g 498, g 499, g 500, g 501, g 502, g 503, g 504, g 505, g 506, g 507, g 508, g 509, g 510, g 511, g 512, g 513, g 514, g 515, g 516, g 517, g 518, g 519, g 520, g 521, g 522, g 523, g 524, g 525, g 526, g 527, g 528, g 529, g 530, g 531, g 532, g 533, g 534, g 535, g 536, g 537, g 538, g 539, g 540, g 541, g 542, g 543, g 544, g 545, g 546, g 547, g 548, g 549, g 550, g 551, g 552, g 553, g 554, g 555, g 556, g 557, g 558, g 559, g 560, g 561, g 562, g 563, g 564, g 565, g 566, g 567, g 568, g 569, g 570, g 571, g 572, g 573, g 574, g 575, g 576, g 577, g 578, g 579, g 580, g 581, g 582, g 583, g 584, g 585, g 586, g 587, g 588, g 589, g 590, g 591, g 592, g 593, g 594, g 595, g 596, g 597, g 598, g 599, g 600, g 601, g 602, g 603, g 604, g 605, g 606, g 607, g 608, g 609, g 610, g 611, g 612, g 613, g 614, g 615, g 616, g 617, g 618, g 619, g 620, g 621, g 622, g 623, g 624, g 625, g 626, g 627, g 628, g 629, g 630, g 631, g 632, g 633, g 634, g 635, g 636, g 637, g 638, g 639, g 640, g 641, g 642, g 643, g 644, g 645, g 646, g 647, g 648, g 649, g 650, g 651, g 652, g 653, g 654, g 655, g 656, g 657, g 658, g 659, g 660, g 661, g 662, g 663, g 664, g 665, g 666, g 667, g 668] := rfl

theorem frame8_of (tm : Array Value) (h : tm.size = 669) (x0 x1 x2 : Value) (h0 : tm.getD 0 undef = x0) (h1 : tm.getD 1 undef = x1) (h2 : tm.getD 2 undef = x2) :
    ∃ f : Nat → Value, tm = #[x0, x1, x2, f 3, f 4, f 5, f 6, f 7, f 8, f 9, f 10, f 11, f 12, f 13, f 14, f 15, f 16, f 17, f 18, f 19, f 20, f 21, f 22, f 23, f 24, f 25, f 26, f 27, f 28, f 29, f 30, f 31, f 32, f 33, f 34, f 35, f 36, f 37, f 38, f 39, f 40, f 41, f 42, f 43, f 44, f 45, f 46, f 47, f 48, f 49, f 50, f 51, f 52, f 53, f 54, f 55, f 56, f 57, f 58, f 59, f 60, f 61, f 62, f 63, f 64, f 65, f 66, f 67, f 68, f 69, f 70, f 71, f 72, f 73, f 74, f 75, f 76, f 77, f 78, f 79, f 80, f 81, f 82, f 83, f 84, f 85, f 86, f 87, f 88, f 89, f 90, f 91, f 92, f 93, f 94, f 95, f 96, f 97, f 98, f 99, f 100, f 101, f 102, f 103, f 104, f 105, f 106, f 107, f 108, f 109, f 110, f 111, f 112, f 113, f 114, f 115, f 116, f 117, f 118, f 119, f 120, f 121, f 122, f 123, f 124, f 125, f 126, f 127, f 128, f 129, f 130, f 131, f 132, f 133, f 134, f 135, f 136, f 137, f 138, f 139, f 140, f 141, f 142, f 143, f 144, f 145, f 146, f 147, f 148, f 149, f 150, f 151, f 152, f 153, f 154, f 155, f 156, f 157, f 158, f 159, f 160, f 161, f 162, f 163, f 164, f 165, f 166, f 167, f 168, f 169, f 170, f 171, f 172, f 173, f 174, f 175, f 176, f 177, f 178, f 179, f 180, f 181, f 182, f 183, f 184, f 185, f 186, f 187, f 188, f 189, f 190, f 191, f 192, f 193, f 194, f 195, f 196, f 197, f 198, f 199, f 200, f 201, f 202, f 203, f 204, f 205, f 206, f 207, f 208, f 209, f 210, f 211, f 212, f 213, f 214, f 215, f 216, f 217, f 218, f 219, f 220, f 221, f 222, f 223, f 224, f 225, f 226, f 227, f 228, f 229, f 230, f 231, f 232, f 233, f 234, f 235, f 236, f 237, f 238, f 239, f 240, f 241, f 242, f 243, f 244, f 245, f 246, f 247, f 248, f 249, f 250, f 251, f 252, f 253, f 254, f 255, f 256, f 257, f 258, f 259, f 260, f 261, f 262, f 263, f 264, f 265, f 266, f 267, f 268, f 269, f 270, f 271, f 272, f 273, f 274, f 275, f 276, f 277, f 278, f 279, f 280, f 281, f 282, f 283, f 284, f 285, f 286, f 287, f 288, f 289, f 290, f 291, f 292, f 293, f 294, f 295, f 296, f 297, f 298, f 299, f 300, f 301, f 302, f 303, f 304, f 305, f 306, f 307, f 308, f 309, f 310, f 311, f 312, f 313, f 314, f 315, f 316, f 317, f 318, f 319, f 320, f 321, f 322, f 323, f 324, f 325, f 326, f 327, f 328, f 329, f 330, f 331, f 332, f 333, f 334, f 335, f 336, f 337, f 338, f 339, f 340, f 341, f 342, f 343, f 344, f 345, f 346, f 347, f 348, f 349, f 350, f 351, f 352, f 353, f 354, f 355, f 356, f 357, f 358, f 359, f 360, f 361, f 362, f 363, f 364, f 365, f 366, f 367, f 368, f 369, f 370, f 371, f 372, f 373, f 374, f 375, f 376, f 377, f 378, f 379, f 380, f 381, f 382, f 383, f 384, f 385, f 386, f 387, f 388, f 389, f 390, f 391, f 392, f 393, f 394, f 395, f 396, f 397, f 398, f 399, f 400, f 401, f 402, f 403, f 404, f 405, f 406, f 407, f 408, f 409, f 410, f 411, f 412, f 413, f 414, f 415, f 416, f 417, f 418, f 419, f 420, f 421, f 422, f 423, f 424, f 425, f 426, f 427, f 428, f 429, f 430, f 431, f 432, f 433, f 434, f 435, f 436, f 437, f 438, f 439, f 440, f 441, f 442, f 443, f 444, f 445, f 446, f 447, f 448, f 449, f 450, f 451, f 452, f 453, f 454, f 455, f 456, f 457, f 458, f 459, f 460, f 461, f 462, f 463, f 464, f 465, f 466, f 467, f 468, f 469, f 470, f 471, f 472, f 473, f 474, f 475, f 476, f 477, f 478, f 479, f 480, f 481, f 482, f 483, f 484, f 485, f 486, f 487, f 488, f 489, f 490, f 491, f 492, f 493, f 494, f 495, f 496, f 497, f 498, f 499, f 500, f 501, f 502, f 503, f 504, f 505, f 506, f 507, f 508, f 509, f 510, f 511, f 512, f 513, f 514, f 515, f 516, f 517, f 518, f 519, f 520, f 521, f 522, f 523, f 524, f 525, f 526, f 527, f 528, f 529, f 530, f 531, f 532, f 533, f 534, f 535, f 536, f 537, f 538, f 539, f 540, f 541, f 542, f 543, f 544, f 545, f 546, f 547, f 548, f 549, f 550, f 551, f 552, f 553, f 554, f 555, f 556, f 557, f 558, f 559, f 560, f 561, f 562, f 563, f 564, f 565, f 566, f 567, f 568, f 569, f 570, f 571, f 572, f 573, f 574, f 575, f 576, f 577, f 578, f 579, f 580, f 581, f 582, f 583, f 584, f 585, f 586, f 587, f 588, f 589, f 590, f 591, f 592, f 593, f 594, f 595, f 596, f 597, f 598, f 599, f 600, f 601, f 602, f 603, f 604, f 605, f 606, f 607, f 608, f 609, f 610, f 611, f 612, f 613, f 614, f 615, f 616, f 617, f 618, f 619, f 620, f 621, f 622, f 623, f 624, f 625, f 626, f 627, f 628, f 629, f 630, f 631, f 632, f 633, f 634, f 635, f 636, f 637, f 638, f 639, f 640, f 641, f 642, f 643, f 644, f 645, f 646, f 647, f 648, f 649, f 650, f 651, f 652, f 653, f 654, f 655, f 656, f 657, f 658, f 659, f 660, f 661, f 662, f 663, f 664, f 665, f 666, f 667, f 668] := by
  subst h0 h1 h2
  exact ⟨fun i => tm.getD i undef, (arr_lit8 tm 669 h).trans (frame8 _)⟩

/-- The loop's invariant. -/
def Inv8 (p d n0 : Nat) (R : Nat → Value → World → Prop) (n : Nat) (a : Act) (w : World) : Prop :=
  a.defers = [] ∧ a.tmps.size = 669 ∧ a.tmps.getD 0 undef = .pointer (some ⟨p, 0, none⟩) ∧ a.tmps.getD 2 undef = .int .i64 d ∧
  ∃ k : Nat, k ≤ n0 ∧ n = n0 - k ∧ R k (a.tmps.getD 1 undef) w

theorem chunk_14 {d : Nat} {x : SOp} (h : x.k = 14) : chunk d x = vb 56 ++ vb x.v := by simp [chunk, h]
theorem chunk_15 {d : Nat} {x : SOp} (h : x.k = 15) : chunk d x = vb 73 ++ fx x.v 8 := by simp [chunk, h]
theorem chunk_16 {d : Nat} {x : SOp} (h : x.k = 16) : chunk d x = vb 162 ++ (vb ((x.vs.map (· % 256)).length : Int) ++ x.vs.map (· % 256)) := by simp [chunk, h]
theorem chunk_17 {d : Nat} {x : SOp} (h : x.k = 17) : chunk d x = vb 8 ++ vb x.v := by simp [chunk, h]
theorem chunk_18 {d : Nat} {x : SOp} (h : x.k = 18) : chunk d x = vb 805 ++ fx x.v 4 := by simp [chunk, h]
theorem chunk_19d {d : Nat} {x : SOp} (h : x.k = 19) (hd : 0 < d) : chunk d x = vb 243 ++ vb 244 := by simp [chunk, h, hd]
theorem chunk_19z {d : Nat} {x : SOp} (h : x.k = 19) (hd : ¬ 0 < d) : chunk d x = vb 56 ++ vb 0 := by
  have : d = 0 := by omega
  simp [chunk, h, this]

theorem chunks_drop (d : Nat) (xs : List SOp) (k : Nat) (hk : k < xs.length) : chunks d (xs.drop k) = chunk d xs[k] ++ chunks d (xs.drop (k + 1)) := by
  rw [List.drop_eq_getElem_cons hk]; simp only [chunks, List.flatMap_cons]

theorem chunk_pos (d : Nat) (x : SOp) : 0 < (chunk d x).length := by
  unfold chunk
  repeat' split
  all_goals simp only [List.length_append]
  all_goals first
    | (have := vb_pos (num x.k * 8 + wt x.k); omega)
    | (have := vb_pos (num (x.k - 7) * 8 + 2); omega)
    | (have := vb_pos 56; omega)
    | (have := vb_pos 73; omega)
    | (have := vb_pos 162; omega)
    | (have := vb_pos 8; omega)
    | (have := vb_pos 805; omega)
    | (have := vb_pos 243; omega)

/-- One round. -/
theorem round8 (w0 wr : World) (p g d n c o : Nat) (V V1 : Nat → Value) (M1 : Nat → List Value) (rest : List Int) (x : SOp) (hokx : okOp x) (hd : d ≤ 3) (f : Nat → Value) (K : Act → World → Prop)
    (hS : MSt w0 wr p g V V1 M1 (.slice (some ⟨g, o, none⟩) n c) (chunk d x ++ rest)) (hn : n ≤ 549755813888) (HN2 : Hid (∀ i, (M1 i).length ≤ 10549248))
    (HK : Hid (∀ (tm : Array Value) (v' : Value) (w' : World), tm.size = 669 → tm.getD 0 undef = .pointer (some ⟨p, 0, none⟩) → tm.getD 2 undef = .int .i64 d → tm.getD 1 undef = v' → (∃ V2, MSt w0 w' p g V V2 (eff d x M1) v' rest) → K ⟨tm, []⟩ w')) :
    Code.wp Ybaf.prog body8 (Exit.then K Never) ⟨#[.pointer (some ⟨p, 0, none⟩), .slice (some ⟨g, o, none⟩) n c, .int .i64 d, f 3, f 4, f 5, f 6, f 7, f 8, f 9, f 10, f 11, f 12, f 13, f 14, f 15, f 16, f 17, f 18, f 19, f 20, f 21, f 22, f 23, f 24, f 25, f 26, f 27, f 28, f 29, f 30, f 31, f 32, f 33, f 34, f 35, f 36, f 37, f 38, f 39, f 40, f 41, f 42, f 43, f 44, f 45, f 46, f 47, f 48, f 49, f 50, f 51, f 52, f 53, f 54, f 55, f 56, f 57, f 58, f 59, f 60, f 61, f 62, f 63, f 64, f 65, f 66, f 67, f 68, f 69, f 70, f 71, f 72, f 73, f 74, f 75, f 76, f 77, f 78, f 79, f 80, f 81, f 82, f 83, f 84, f 85, f 86, f 87, f 88, f 89, f 90, f 91, f 92, f 93, f 94, f 95, f 96, f 97, f 98, f 99, f 100, f 101, f 102, f 103, f 104, f 105, f 106, f 107, f 108, f 109, f 110, f 111, f 112, f 113, f 114, f 115, f 116, f 117, f 118, f 119, f 120, f 121, f 122, f 123, f 124, f 125, f 126, f 127, f 128, f 129, f 130, f 131, f 132, f 133, f 134, f 135, f 136, f 137, f 138, f 139, f 140, f 141, f 142, f 143, f 144, f 145, f 146, f 147, f 148, f 149, f 150, f 151, f 152, f 153, f 154, f 155, f 156, f 157, f 158, f 159, f 160, f 161, f 162, f 163, f 164, f 165, f 166, f 167, f 168, f 169, f 170, f 171, f 172, f 173, f 174, f 175, f 176, f 177, f 178, f 179, f 180, f 181, f 182, f 183, f 184, f 185, f 186, f 187, f 188, f 189, f 190, f 191, f 192, f 193, f 194, f 195, f 196, f 197, f 198, f 199, f 200, f 201, f 202, f 203, f 204, f 205, f 206, f 207, f 208, f 209, f 210, f 211, f 212, f 213, f 214, f 215, f 216, f 217, f 218, f 219, f 220, f 221, f 222, f 223, f 224, f 225, f 226, f 227, f 228, f 229, f 230, f 231, f 232, f 233, f 234, f 235, f 236, f 237, f 238, f 239, f 240, f 241, f 242, f 243, f 244, f 245, f 246, f 247, f 248, f 249, f 250, f 251, f 252, f 253, f 254, f 255, f 256, f 257, f 258, f 259, f 260, f 261, f 262, f 263, f 264, f 265, f 266, f 267, f 268, f 269, f 270, f 271, f 272, f 273, f 274, f 275, f 276, f 277, f 278, f 279, f 280, f 281, f 282, f 283, f 284, f 285, f 286, f 287, f 288, f 289, f 290, f 291, f 292, f 293, f 294, f 295, f 296, f 297, f 298, f 299, f 300, f 301, f 302, f 303, f 304, f 305, f 306, f 307, f 308, f 309, f 310, f 311, f 312, f 313, f 314, f 315, f 316, f 317, f 318, f 319, f 320, f 321, f 322, f 323, f 324, f 325, f 326, f 327, f 328, f 329, f 330, f 331, f 332, f 333, f 334, f 335, f 336, f 337, f 338, f 339, f 340, f 341, f 342, f 343, f 344, f 345, f 346, f 347, f 348, f 349, f 350, f 351, f 352, f 353, f 354, f 355, f 356, f 357, f 358, f 359, f 360, f 361, f 362, f 363, f 364, f 365, f 366, f 367, f 368, f 369, f 370, f 371, f 372, f 373, f 374, f 375, f 376, f 377, f 378, f 379, f 380, f 381, f 382, f 383, f 384, f 385, f 386, f 387, f 388, f 389, f 390, f 391, f 392, f 393, f 394, f 395, f 396, f 397, f 398, f 399, f 400, f 401, f 402, f 403, f 404, f 405, f 406, f 407, f 408, f 409, f 410, f 411, f 412, f 413, f 414, f 415, f 416, f 417, f 418, f 419, f 420, f 421, f 422, f 423, f 424, f 425, f 426, f 427, f 428, f 429, f 430, f 431, f 432, f 433, f 434, f 435, f 436, f 437, f 438, f 439, f 440, f 441, f 442, f 443, f 444, f 445, f 446, f 447, f 448, f 449, f 450, f 451, f 452, f 453, f 454, f 455, f 456, f 457, f 458, f 459, f 460, f 461, f 462, f 463, f 464, f 465, f 466, f 467, f 468, f 469, f 470, f 471, f 472, f 473, f 474, f 475, f 476, f 477, f 478, f 479, f 480, f 481, f 482, f 483, f 484, f 485, f 486, f 487, f 488, f 489, f 490, f 491, f 492, f 493, f 494, f 495, f 496, f 497, f 498, f 499, f 500, f 501, f 502, f 503, f 504, f 505, f 506, f 507, f 508, f 509, f 510, f 511, f 512, f 513, f 514, f 515, f 516, f 517, f 518, f 519, f 520, f 521, f 522, f 523, f 524, f 525, f 526, f 527, f 528, f 529, f 530, f 531, f 532, f 533, f 534, f 535, f 536, f 537, f 538, f 539, f 540, f 541, f 542, f 543, f 544, f 545, f 546, f 547, f 548, f 549, f 550, f 551, f 552, f 553, f 554, f 555, f 556, f 557, f 558, f 559, f 560, f 561, f 562, f 563, f 564, f 565, f 566, f 567, f 568, f 569, f 570, f 571, f 572, f 573, f 574, f 575, f 576, f 577, f 578, f 579, f 580, f 581, f 582, f 583, f 584, f 585, f 586, f 587, f 588, f 589, f 590, f 591, f 592, f 593, f 594, f 595, f 596, f 597, f 598, f 599, f 600, f 601, f 602, f 603, f 604, f 605, f 606, f 607, f 608, f 609, f 610, f 611, f 612, f 613, f 614, f 615, f 616, f 617, f 618, f 619, f 620, f 621, f 622, f 623, f 624, f 625, f 626, f 627, f 628, f 629, f 630, f 631, f 632, f 633, f 634, f 635, f 636, f 637, f 638, f 639, f 640, f 641, f 642, f 643, f 644, f 645, f 646, f 647, f 648, f 649, f 650, f 651, f 652, f 653, f 654, f 655, f 656, f 657, f 658, f 659, f 660, f 661, f 662, f 663, f 664, f 665, f 666, f 667, f 668], []⟩ wr := by
  obtain ⟨kk, hkk⟩ : ∃ kk : Nat, x.k = kk := ⟨_, rfl⟩
  have hk20 : kk < 20 := by have := hokx.o0; unfold SOp.k at hkk; omega
  have hvl := vs_len x
  have hvs : ∀ y ∈ x.vs, 0 ≤ y ∧ y < 18446744073709551616 := fun y hy => hokx.vs y (List.mem_of_mem_take hy)
  have hcase : kk < 7 ∨ (7 ≤ kk ∧ kk < 14) ∨ kk = 14 ∨ kk = 15 ∨ kk = 16 ∨ kk = 17 ∨ kk = 18 ∨ (kk = 19 ∧ 0 < d) ∨ (kk = 19 ∧ ¬ 0 < d) := by omega
  rcases hcase with h7 | hE | hE | hE | hE | hE | hE | hE | hE
  · rw [chunk_a hkk h7] at hS
    rw [eff_a hkk h7] at HK
    rcases seven kk h7 with rfl | rfl | rfl | rfl | rfl | rfl | rfl
    · exact mc_A0 w0 wr p g d n c o V V1 M1 rest x.v hokx.v0 hokx.v1 f K hS hn HN2 HK
    · exact mc_A1 w0 wr p g d n c o V V1 M1 rest x.v hokx.v0 hokx.v1 f K hS hn HN2 HK
    · exact mc_A2 w0 wr p g d n c o V V1 M1 rest x.v hokx.v0 hokx.v1 f K hS hn HN2 HK
    · exact mc_A3 w0 wr p g d n c o V V1 M1 rest x.v hokx.v0 hokx.v1 f K hS hn HN2 HK
    · exact mc_A4 w0 wr p g d n c o V V1 M1 rest x.v hokx.v0 hokx.v1 f K hS hn HN2 HK
    · exact mc_A5 w0 wr p g d n c o V V1 M1 rest x.v hokx.v0 hokx.v1 f K hS hn HN2 HK
    · exact mc_A6 w0 wr p g d n c o V V1 M1 rest x.v hokx.v0 hokx.v1 f K hS hn HN2 HK
  · obtain ⟨i, rfl⟩ : ∃ i, kk = i + 7 := ⟨kk - 7, by omega⟩
    have hi7 : i < 7 := by omega
    rw [chunk_b hkk hi7, List.append_assoc (vb (num i * 8 + 2))] at hS
    rw [eff_b hkk hi7] at HK
    rcases seven i hi7 with rfl | rfl | rfl | rfl | rfl | rfl | rfl
    · exact mc_B0 w0 wr p g d n c o V V1 M1 rest x.vs hvl hvs f K hS hn HN2 HK
    · exact mc_B1 w0 wr p g d n c o V V1 M1 rest x.vs hvl hvs f K hS hn HN2 HK
    · exact mc_B2 w0 wr p g d n c o V V1 M1 rest x.vs hvl hvs f K hS hn HN2 HK
    · exact mc_B3 w0 wr p g d n c o V V1 M1 rest x.vs hvl hvs f K hS hn HN2 HK
    · exact mc_B4 w0 wr p g d n c o V V1 M1 rest x.vs hvl hvs f K hS hn HN2 HK
    · exact mc_B5 w0 wr p g d n c o V V1 M1 rest x.vs hvl hvs f K hS hn HN2 HK
    · exact mc_B6 w0 wr p g d n c o V V1 M1 rest x.vs hvl hvs f K hS hn HN2 HK
  · subst hE
    rw [eff_c hkk (by omega), chunk_14 hkk] at HK
    rw [chunk_14 hkk] at hS
    exact mc_U w0 wr p g d n c o V V1 M1 rest 7 0 (vb x.v) (.varint 7 d x.v hokx.v0 hokx.v1) (by decide) (by decide) (by decide) f K hS hn HN2 HK
  · subst hE
    rw [eff_c hkk (by omega), chunk_15 hkk] at HK
    rw [chunk_15 hkk] at hS
    exact mc_U w0 wr p g d n c o V V1 M1 rest 9 1 (fx x.v 8) (.fix64 9 d x.v) (by decide) (by decide) (by decide) f K hS hn HN2 HK
  · subst hE
    rw [eff_c hkk (by omega), chunk_16 hkk] at HK
    rw [chunk_16 hkk] at hS
    exact mc_U w0 wr p g d n c o V V1 M1 rest 20 2 (vb ((x.vs.map (· % 256)).length : Int) ++ x.vs.map (· % 256)) (.bytes 20 d (x.vs.map (· % 256))) (by decide) (by decide) (by decide) f K hS hn HN2 HK
  · subst hE
    rw [eff_c hkk (by omega), chunk_17 hkk] at HK
    rw [chunk_17 hkk] at hS
    exact mc_U1 w0 wr p g d n c o V V1 M1 rest (vb x.v) (.varint 1 d x.v hokx.v0 hokx.v1) f K hS hn HN2 HK
  · subst hE
    rw [eff_c hkk (by omega), chunk_18 hkk] at HK
    rw [chunk_18 hkk] at hS
    exact mc_U w0 wr p g d n c o V V1 M1 rest 100 5 (fx x.v 4) (.fix32 100 d x.v) (by decide) (by decide) (by decide) f K hS hn HN2 HK
  · obtain ⟨rfl, hE2⟩ := hE
    rw [eff_c hkk (by omega), chunk_19d hkk hE2] at HK
    rw [chunk_19d hkk hE2] at hS
    exact mc_U w0 wr p g d n c o V V1 M1 rest 30 3 (vb 244) (.group d (by omega)) (by decide) (by decide) (by decide) f K hS hn HN2 HK
  · obtain ⟨rfl, hE2⟩ := hE
    rw [eff_c hkk (by omega), chunk_19z hkk hE2] at HK
    rw [chunk_19z hkk hE2] at hS
    exact mc_U w0 wr p g d n c o V V1 M1 rest 7 0 (vb 0) (.varint 7 d 0 (by omega) (by omega)) (by decide) (by decide) (by decide) f K hS hn HN2 HK

set_option maxHeartbeats 4000000 in
theorem merge_any (w : World) (p g d : Nat) (v : Value) (ops : List SOp) (M : Nat → List Value) (V : Nat → Value) (hm : MsgAt w p M V) (hrd : RdV w g v (chunks d ops)) (hg : g < w.heap.size) (hfar : ¬ Foot p V g) (hok : ∀ x ∈ ops, okOp x) (hn : ops.length ≤ 1024) (hd : d ≤ 3) (hM : ∀ i, (M i).length ≤ 2048) :
    Calls Ybaf.prog 8 #[.pointer (some ⟨p, 0, none⟩), v, .int .i64 d] w fun e w' => e = .returned .nilIface ∧ ∃ V', MsgAt w' p (effs d ops M) V' ∧ Chg (Foot p V) w w' := by
  obtain ⟨a, c, rfl⟩ := hrd.form
  go_enter Ybaf.func8, Ybaf.ntmps8
  go_wp2_with fail
  change Code.wp _ (Code.loop body8) _ _ _
  refine wp_loop_ghost (Inv8 p d ops.length (fun k v wr => ∃ V', MSt w wr p g V V' (effs d (ops.take k) M) v (chunks d (ops.drop k)))) ops.length ?_ ?_
  · exact ⟨rfl, rfl, rfl, rfl, 0, Nat.zero_le _, rfl, V, hm, Chg.refl _ _, fun _ h => .inl h, hrd, hg, hfar⟩
  · rintro n ⟨tm, df⟩ wr ⟨hdf, hsz, t0, t2, k, hk, rfl, V1, hS⟩
    have hdf : df = [] := hdf
    subst hdf
    have hsz : tm.size = 669 := hsz
    have t0 : tm.getD 0 undef = _ := t0
    have t2 : tm.getD 2 undef = _ := t2
    have hS : MSt w wr p g V V1 _ (tm.getD 1 undef) _ := hS
    obtain ⟨a1, c1, t1⟩ := hS.rd.form
    rw [t1] at hS
    by_cases hlt : k < ops.length
    · have hstepC := chunks_drop d ops k hlt
      have hstepE := effs_step d ops k hlt M
      have hlenN := fun i => effs_len d (ops.take k) M i
      have hlenC := chunks_len d (ops.drop k)
      rw [List.length_take, Nat.min_eq_left (by omega)] at hlenN
      rw [List.length_drop] at hlenC
      have hN2 : ∀ i, (effs d (ops.take k) M i).length ≤ 10549248 := fun i => by have := hlenN i; have := hM i; omega
      have hpos : 0 < (chunks d (ops.drop k)).length := by rw [hstepC, List.length_append]; have := chunk_pos d ops[k]; omega
      have hnn : (chunks d (ops.drop k)).length ≤ 549755813888 := by omega
      generalize (chunks d (ops.drop k)).length = n1 at *
      rw [hstepC] at hS
      obtain ⟨o, rfl⟩ := hS.rd.addr hpos
      obtain ⟨f, hfrm2⟩ := frame8_of tm hsz _ _ _ t0 t1 t2
      have HK : Hid (∀ (tm : Array Value) (v' : Value) (w' : World), tm.size = 669 → tm.getD 0 undef = .pointer (some ⟨p, 0, none⟩) → tm.getD 2 undef = .int .i64 d → tm.getD 1 undef = v' → (∃ V2, MSt w w' p g V V2 (eff d ops[k] (effs d (ops.take k) M)) v' (chunks d (ops.drop (k + 1)))) →
          ∃ n', n' < ops.length - k ∧ Inv8 p d ops.length (fun k v wr => ∃ V', MSt w wr p g V V' (effs d (ops.take k) M) v (chunks d (ops.drop k))) n' ⟨tm, []⟩ w') := by
        intro tm v' w' s0 s1 s2 s3 ⟨V2, hb⟩
        subst s3
        exact ⟨ops.length - (k + 1), by omega, rfl, s0, s1, s2, k + 1, by omega, rfl, V2, by rw [hstepE]; exact hb⟩
      clear t0 t1 t2
      rw [hfrm2]
      clear hfrm2
      refine wp_mono (round8 w wr p g d n1 c1 o V V1 _ _ ops[k] (hok _ (List.getElem_mem hlt)) hd f (fun a' w' => ∃ n', n' < ops.length - k ∧ Inv8 p d ops.length (fun k v wr => ∃ V', MSt w wr p g V V' (effs d (ops.take k) M) v (chunks d (ops.drop k))) n' a' w') hS hnn hN2 HK) ?_
      intro e a' w' h
      cases e <;> first | exact h | exact h.elim
    · have hke : k = ops.length := by omega
      subst hke
      rw [List.take_length] at hS
      have hz : (chunks d (ops.drop ops.length)).length = 0 := by rw [List.drop_length]; rfl
      rw [hz] at t1
      obtain ⟨f, hfrm2⟩ := frame8_of tm hsz _ _ _ t0 t1 t2
      clear t0 t1 t2 hrd
      subst hfrm2
      conv => arg 2; whnf
      go_wp2
      go_ret
      have hmsg := hS.msg
      simp only [List.take_length] at hmsg
      first
        | exact ⟨rfl, V1, hmsg, hS.chg⟩
        | exact ⟨rfl, ⟨V1, hmsg⟩, hS.chg⟩

end Go.Proofs.YbulkcbpgFmt
