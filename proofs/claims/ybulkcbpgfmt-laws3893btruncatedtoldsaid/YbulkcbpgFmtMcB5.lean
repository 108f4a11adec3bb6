/-
  Seat b3893aF: MergeWire, one case of a round.
-/
import Derived.Test.YbulkcbpgFmtMrg1
namespace Go.Proofs.YbulkcbpgFmt
open Go.RowKit Go.Deep
set_option linter.unusedVariables false

set_option maxHeartbeats 4000000 in
set_option maxRecDepth 100000 in
theorem mc_B5 (w0 wr : World) (p g d n c o : Nat) (V V1 : Nat → Value) (M1 : Nat → List Value) (rest : List Int) (vs : List Int) (hvs : vs.length ≤ 1024) (hy : ∀ y ∈ vs, 0 ≤ y ∧ y < 18446744073709551616) (f : Nat → Value) (K : Act → World → Prop)
    (hS : MSt w0 wr p g V V1 M1 (.slice (some ⟨g, o, none⟩) n c) ((vb 50 ++ (vb ((runOf 5 vs).length : Int) ++ runOf 5 vs)) ++ rest)) (hn : n ≤ 549755813888) (HN2 : Hid (∀ i, (M1 i).length ≤ 10549248))
    (HK : Hid (∀ (tm : Array Value) (v' : Value) (w' : World), tm.size = 669 → tm.getD 0 undef = .pointer (some ⟨p, 0, none⟩) → tm.getD 2 undef = .int .i64 d → tm.getD 1 undef = v' → (∃ V2, MSt w0 w' p g V V2 (put M1 5 (vs.map (val 5))) v' rest) → K ⟨tm, []⟩ w')) :
    Code.wp Ybaf.prog body8 (Exit.then K Never) ⟨#[.pointer (some ⟨p, 0, none⟩), .slice (some ⟨g, o, none⟩) n c, .int .i64 d, f 3, f 4, f 5, f 6, f 7, f 8, f 9, f 10, f 11, f 12, f 13, f 14, f 15, f 16, f 17, f 18, f 19, f 20, f 21, f 22, f 23, f 24, f 25, f 26, f 27, f 28, f 29, f 30, f 31, f 32, f 33, f 34, f 35, f 36, f 37, f 38, f 39, f 40, f 41, f 42, f 43, f 44, f 45, f 46, f 47, f 48, f 49, f 50, f 51, f 52, f 53, f 54, f 55, f 56, f 57, f 58, f 59, f 60, f 61, f 62, f 63, f 64, f 65, f 66, f 67, f 68, f 69, f 70, f 71, f 72, f 73, f 74, f 75, f 76, f 77, f 78, f 79, f 80, f 81, f 82, f 83, f 84, f 85, f 86, f 87, f 88, f 89, f 90, f 91, f 92, f 93, f 94, f 95, f 96, f 97, f 98, f 99, f 100, f 101, f 102, f 103, f 104, f 105, f 106, f 107, f 108, f 109, f 110, f 111, f 112, f 113, f 114, f 115, f 116, f 117, f 118, f 119, f 120, f 121, f 122, f 123, f 124, f 125, f 126, f 127, f 128, f 129, f 130, f 131, f 132, f 133, f 134, f 135, f 136, f 137, f 138, f 139, f 140, f 141, f 142, f 143, f 144, f 145, f 146, f 147, f 148, f 149, f 150, f 151, f 152, f 153, f 154, f 155, f 156, f 157, f 158, f 159, f 160, f 161, f 162, f 163, f 164, f 165, f 166, f 167, f 168, f 169, f 170, f 171, f 172, f 173, f 174, f 175, f 176, f 177, f 178, f 179, f 180, f 181, f 182, f 183, f 184, f 185, f 186, f 187, f 188, f 189, f 190, f 191, f 192, f 193, f 194, f 195, f 196, f 197, f 198, f 199, f 200, f 201, f 202, f 203, f 204, f 205, f 206, f 207, f 208, f 209, f 210, f 211, f 212, f 213, f 214, f 215, f 216, f 217, f 218, f 219, f 220, f 221, f 222, f 223, f 224, f 225, f 226, f 227, f 228, f 229, f 230, f 231, f 232, f 233, f 234, f 235, f 236, f 237, f 238, f 239, f 240, f 241, f 242, f 243, f 244, f 245, f 246, f 247, f 248, f 249, f 250, f 251, f 252, f 253, f 254, f 255, f 256, f 257, f 258, f 259, f 260, f 261, f 262, f 263, f 264, f 265, f 266, f 267, f 268, f 269, f 270, f 271, f 272, f 273, f 274, f 275, f 276, f 277, f 278, f 279, f 280, f 281, f 282, f 283, f 284, f 285, f 286, f 287, f 288, f 289, f 290, f 291, f 292, f 293, f 294, f 295, f 296, f 297, f 298, f 299, f 300, f 301, f 302, f 303, f 304, f 305, f 306, f 307, f 308, f 309, f 310, f 311, f 312, f 313, f 314, f 315, f 316, f 317, f 318, f 319, f 320, f 321, f 322, f 323, f 324, f 325, f 326, f 327, f 328, f 329, f 330, f 331, f 332, f 333, f 334, f 335, f 336, f 337, f 338, f 339, f 340, f 341, f 342, f 343, f 344, f 345, f 346, f 347, f 348, f 349, f 350, f 351, f 352, f 353, f 354, f 355, f 356, f 357, f 358, f 359, f 360, f 361, f 362, f 363, f 364, f 365, f 366, f 367, f 368, f 369, f 370, f 371, f 372, f 373, f 374, f 375, f 376, f 377, f 378, f 379, f 380, f 381, f 382, f 383, f 384, f 385, f 386, f 387, f 388, f 389, f 390, f 391, f 392, f 393, f 394, f 395, f 396, f 397, f 398, f 399, f 400, f 401, f 402, f 403, f 404, f 405, f 406, f 407, f 408, f 409, f 410, f 411, f 412, f 413, f 414, f 415, f 416, f 417, f 418, f 419, f 420, f 421, f 422, f 423, f 424, f 425, f 426, f 427, f 428, f 429, f 430, f 431, f 432, f 433, f 434, f 435, f 436, f 437, f 438, f 439, f 440, f 441, f 442, f 443, f 444, f 445, f 446, f 447, f 448, f 449, f 450, f 451, f 452, f 453, f 454, f 455, f 456, f 457, f 458, f 459, f 460, f 461, f 462, f 463, f 464, f 465, f 466, f 467, f 468, f 469, f 470, f 471, f 472, f 473, f 474, f 475, f 476, f 477, f 478, f 479, f 480, f 481, f 482, f 483, f 484, f 485, f 486, f 487, f 488, f 489, f 490, f 491, f 492, f 493, f 494, f 495, f 496, f 497, f 498, f 499, f 500, f 501, f 502, f 503, f 504, f 505, f 506, f 507, f 508, f 509, f 510, f 511, f 512, f 513, f 514, f 515, f 516, f 517, f 518, f 519, f 520, f 521, f 522, f 523, f 524, f 525, f 526, f 527, f 528, f 529, f 530, f 531, f 532, f 533, f 534, f 535, f 536, f 537, f 538, f 539, f 540, f 541, f 542, f 543, f 544, f 545, f 546, f 547, f 548, f 549, f 550, f 551, f 552, f 553, f 554, f 555, f 556, f 557, f 558, f 559, f 560, f 561, f 562, f 563, f 564, f 565, f 566, f 567, f 568, f 569, f 570, f 571, f 572, f 573, f 574, f 575, f 576, f 577, f 578, f 579, f 580, f 581, f 582, f 583, f 584, f 585, f 586, f 587, f 588, f 589, f 590, f 591, f 592, f 593, f 594, f 595, f 596, f 597, f 598, f 599, f 600, f 601, f 602, f 603, f 604, f 605, f 606, f 607, f 608, f 609, f 610, f 611, f 612, f 613, f 614, f 615, f 616, f 617, f 618, f 619, f 620, f 621, f 622, f 623, f 624, f 625, f 626, f 627, f 628, f 629, f 630, f 631, f 632, f 633, f 634, f 635, f 636, f 637, f 638, f 639, f 640, f 641, f 642, f 643, f 644, f 645, f 646, f 647, f 648, f 649, f 650, f 651, f 652, f 653, f 654, f 655, f 656, f 657, f 658, f 659, f 660, f 661, f 662, f 663, f 664, f 665, f 666, f 667, f 668], []⟩ wr := by
  have hcell := hS.msg.blk.cell (i := 5) (by omega)
  have hrd := hS.rd
  rw [List.append_assoc] at hrd
  obtain ⟨hn1, hnc⟩ := hrd.len
  have h1 : (vb 50).length = 1 := by decide
  have htag := ctag_any g _ 50 _ wr hrd (by omega) (by omega) (by omega) (by omega)
  rw [h1] at htag
  have hrd1 := hrd.at h1
  rw [List.append_assoc] at hrd1
  have hvp := vb_pos ((runOf 5 vs).length : Int)
  have hRl := runOf_len 5 vs
  have hcb := cbytes_any g _ (runOf 5 vs) rest _ hrd1 (by have := hrd1.len; omega)
  rw [List.length_append, List.length_append, List.length_append, h1] at hn1
  have hlv : (vb ((runOf 5 vs).length : Int) ++ runOf 5 vs).length = (vb ((runOf 5 vs).length : Int)).length + (runOf 5 vs).length := List.length_append
  generalize hlb : (vb ((runOf 5 vs).length : Int)).length = lb at *
  generalize hlR : (runOf 5 vs).length = lR at *
  generalize hlr : rest.length = lr at *
  have HL : Hid (True ∧ (runOf 5 vs).length = lR ∧ rest.length = lr ∧ (vb (lR : Int) ++ runOf 5 vs).length = lb + lR) := ⟨trivial, hlR, hlr, hlv⟩
  clear hlb hlR hlr hlv h1 hrd
  have hn3 : n = 1 + (lb + lR + lr) := hn1
  clear hn1
  have hnz : (0 : Int) < (n : Int) := by omega
  have hc1 : ¬ c = 1 := by omega
  have hn2 : ¬ n = 1 := by omega
  have HN3 : Hid (n = 1 + (lb + lR + lr)) := hn3
  have hnge : 1 + (lb + lR) ≤ n := by omega
  clear hn3
  simp at htag
  conv => arg 2; whnf
  go_wp2_with fail
  refine htag.mono ?_
  rintro e w1 ⟨rfl, rfl⟩
  clear htag
  go_wp2_with fail
  refine hcb.mono ?_
  rintro e w2 ⟨u, rfl, rfl, hu⟩
  clear hcb
  obtain ⟨au, cu, rfl⟩ := hu.form
  rw [HL.out.2.1] at hu ⊢
  have hS1 := hS.to hrd1
  have hbM := HN2.out 5
  go_wp2_with fail
  refine (grow5_any _ _ (lR / 8) _ (hS1.msg.row 5 (by omega)) (by omega)).mono ?_
  rintro e w3 ⟨v3, rfl, hG⟩
  obtain ⟨a3, c3, rfl⟩ := hG.form
  have hblk3 := Grew.blk hS1.msg hG
  have hc3 := hblk3.cell (i := 5) (by omega)
  have hf3 := hblk3.frozen 5
  obtain ⟨V3, hS3⟩ := hS1.upd (Grew.upd hS1.msg 5 (by omega) hG)
  have hu3 := (hu.chg hG.chg (fun hf => hf)).chg ((Chg.refl (Foot p V1) w3).setCell (a := ⟨p, 5, none⟩) (.slice a3 (M1 5).length c3) (fun _ => .inl rfl)) hS1.apart
  go_wp2_with fail
  clear hcell hrd1 hu hS hS1 hblk3 hc3 hf3 hG
  go_loopg [60] vs.length (fun gh r wx => ∃ j : Nat, j ≤ vs.length ∧ gh = vs.length - j ∧ RdV wx g r (runOf 5 (vs.drop j)) ∧ ∃ V', MSt w0 wx p g V V' (put M1 5 ((vs.take j).map (val 5))) (.slice (some ⟨g, o + 1, none⟩) (n - 1) (c - 1)) (vb (lR : Int) ++ (runOf 5 vs ++ rest)))
  case atStart => exact ⟨0, Nat.zero_le _, rfl, by simpa using hu3, V3, by simpa [put_none] using hS3⟩
  case round =>
    clear hu3 hS3
    obtain ⟨j, hj, rfl, hrj, V4, hSj⟩ := hrel
    obtain ⟨aj, cj, rfl⟩ := hrj.form
    generalize hnj : (runOf 5 (vs.drop j)).length = nj at hrj ⊢
    by_cases hjl : j < vs.length
    · have hpos : 0 < nj := by rw [← hnj, runOf_drop 5 vs j hjl, List.length_append]; have := encV_pos 5 vs[j]; omega
      have hRl4 : nj ≤ 10 * (vs.length - j) := by rw [← hnj, ← List.length_drop]; exact runOf_len 5 (vs.drop j)
      have hen : (encV 5 vs[j]).length ≤ nj := by rw [← hnj, runOf_drop 5 vs j hjl, List.length_append]; omega
      clear hnj
      rw [runOf_drop 5 vs j hjl] at hrj
      have hncj := hrj.len.2
      obtain ⟨oj, rfl⟩ := hrj.addr (by omega)
      have hyb := hy vs[j] (List.getElem_mem hjl)
      have HP1 : Hid (put (put M1 5 ((vs.take j).map (val 5))) 5 [val 5 vs[j]] = put M1 5 ((vs.take (j + 1)).map (val 5))) := put_step M1 5 vs (val 5) j hjl
      have hlP := put_len M1 5 ((vs.take j).map (val 5)) 5
      rw [List.length_map, List.length_take] at hlP
      have hlP2 : (put M1 5 ((vs.take j).map (val 5)) 5).length ≤ 10550272 := by omega
      clear hlP
      generalize vs[j] = y at *
      generalize put M1 5 ((vs.take j).map (val 5)) = Mj at *
      obtain ⟨m6, HM6⟩ := hidEx ((Mj 5).length + 1)
      replace hrj : RdV _ g _ (fx y 8 ++ runOf 5 (vs.drop (j + 1))) := hrj
      replace hen : 8 ≤ nj := hen
      have hpz : (0 : Int) < (nj : Int) := by omega
      have hcj := hSj.msg.blk.cell (i := 5) (by omega)
      go_wp2_with fail
      refine (fixed64_any g _ y _ _ hrj hyb.1 hyb.2).mono ?_
      rintro e w5 ⟨rfl, hc5⟩
      have hS5 := hSj.chgNo hc5
      have hr5 := hrj.chg hc5 (fun hf => hf)
      have hcell5 := hS5.msg.blk.cell (i := 5) (by omega)
      have hca := fun o => hS5.msg.cell_alloc (i := 5) (by omega) o
      clear hcj
      go_wp2_with (first
        | (at_builtin; refine wpList_msg_append rfl 5 (by decide) _ _ rfl hS5.msg ((Chg.refl _ _).alloc _) rfl ⟨w5.heap.size, 0, none⟩ 1 1 [val 5 y] rfl rfl (one_cell rfl) (one_one rfl) (by decide) m6 HM6.out (by have := HM6.out; omega) ?_; intro g1 cap w6 hA; have hc6 := hA.cell; have hf6 := hA.frozen))
      all_goals
        obtain ⟨V6, hS6⟩ := hS5.upd hA.upd
        have hR6 := (hr5.chg hA.chgF hS5.apart).at (fx_len y 8)
        rw [HP1.out] at hS6
        go_roundg (vs.length - (j + 1))
        case measure => omega
        case rel => first | exact ⟨j + 1, by omega, rfl, hR6, V6, hS6⟩ | exact ⟨j + 1, by omega, rfl, hR6.none (by omega) _ _, V6, hS6⟩
    · have hje : j = vs.length := by omega
      subst hje
      have hz : nj = 0 := by rw [← hnj, List.drop_length]; rfl
      subst hz
      rw [List.take_length] at hSj
      have hR7 := hSj.rd
      rw [← List.append_assoc] at hR7
      have hR8 := hR7.at HL.out.2.2.2
      have hcc : lb + lR ≤ c - 1 := by omega
      go_wp2_with fail
      all_goals first
        | exact HK.out _ _ _ rfl rfl rfl rfl ⟨V4, hSj.to hR8⟩
        | exact HK.out _ _ _ rfl rfl rfl rfl ⟨V4, hSj.to (hR8.none (by omega) _ _)⟩


end Go.Proofs.YbulkcbpgFmt
