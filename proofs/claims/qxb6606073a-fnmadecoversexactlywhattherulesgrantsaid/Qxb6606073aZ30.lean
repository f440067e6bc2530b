import Derived.Test.Qxb6606073aFr
set_option linter.unusedSimpArgs false
set_option linter.unusedVariables false
namespace Go.Proofs.Qxb6606073a
open Go.RowKit

set_option maxRecDepth 50000 in
theorem frame595 (f : Nat → Value) : ((List.range 595).map f).toArray = #[f 0, f 1, f 2, f 3, f 4, f 5, f 6, f 7, f 8, f 9, f 10, f 11, f 12, f 13, f 14, f 15, f 16, f 17, f 18, f 19, f 20, f 21, f 22, f 23, f 24, f 25, f 26, f 27, f 28, f 29, f 30, f 31, f 32, f 33, f 34, f 35, f 36, f 37, f 38, f 39, f 40, f 41, f 42, f 43, f 44, f 45, f 46, f 47, f 48, f 49, f 50, f 51, f 52, f 53, f 54, f 55, f 56, f 57, f 58, f 59, f 60, f 61, f 62, f 63, f 64, f 65, f 66, f 67, f 68, f 69, f 70, f 71, f 72, f 73, f 74, f 75, f 76, f 77, f 78, f 79, f 80, f 81, f 82, f 83, f 84, f 85, f 86, f 87, f 88, f 89, f 90, f 91, f 92, f 93, f 94, f 95, f 96, f 97, f 98, f 99, f 100, f 101, f 102, f 103, f 104, f 105, f 106, f 107, f 108, f 109, f 110, f 111, f 112, f 113, f 114, f 115, f 116, f 117, f 118, f 119, f 120, f 121, f 122, f 123, f 124, f 125, f 126, f 127, f 128, f 129, f 130, f 131, f 132, f 133, f 134, f 135, f 136, f 137, f 138, f 139, f 140, f 141, f 142, f 143, f 144, f 145, f 146, f 147, f 148, f 149, f 150, f 151, f 152, f 153, f 154, f 155, f 156, f 157, f 158, f 159, f 160, f 161, f 162, f 163, f 164, f 165, f 166, f 167, f 168, f 169, f 170, f 171, f 172, f 173, f 174, f 175, f 176, f 177, f 178, f 179, f 180, f 181, f 182, f 183, f 184, f 185, f 186, f 187, f 188, f 189, f 190, f 191, f 192, f 193, f 194, f 195, f 196, f 197, f 198, f 199, f 200, f 201, f 202, f 203, f 204, f 205, f 206, f 207, f 208, f 209, f 210, f 211, f 212, f 213, f 214, f 215, f 216, f 217, f 218, f 219, f 220, f 221, f 222, f 223, f 224, f 225, f 226, f 227, f 228, f 229, f 230, f 231, f 232, f 233, f 234, f 235, f 236, f 237, f 238, f 239, f 240, f 241, f 242, f 243, f 244, f 245, f 246, f 247, f 248, f 249, f 250, f 251, f 252, f 253, f 254, f 255, f 256, f 257, f 258, f 259, f 260, f 261, f 262, f 263, f 264, f 265, f 266, f 267, f 268, f 269, f 270, f 271, f 272, f 273, f 274, f 275, f 276, f 277, f 278, f 279, f 280, f 281, f 282, f 283, f 284, f 285, f 286, f 287, f 288, f 289, f 290, f 291, f 292, f 293, f 294, f 295, f 296, f 297, f 298, f 299, f 300, f 301, f 302, f 303, f 304, f 305, f 306, f 307, f 308, f 309, f 310, f 311, f 312, f 313, f 314, f 315, f 316, f 317, f 318, f 319, f 320, f 321, f 322, f 323, f 324, f 325, f 326, f 327, f 328, f 329, f 330, f 331, f 332, f 333, f 334, f 335, f 336, f 337, f 338, f 339, f 340, f 341, f 342, f 343, f 344, f 345, f 346, f 347, f 348, f 349, f 350, f 351, f 352, f 353, f 354, f 355, f 356, f 357, f 358, f 359, f 360, f 361, f 362, f 363, f 364, f 365, f 366, f 367, f 368, f 369, f 370, f 371, f 372, f 373, f 374, f 375, f 376, f 377, f 378, f 379, f 380, f 381, f 382, f 383, f 384, f 385, f 386, f 387, f 388, f 389, f 390, f 391, f 392, f 393, f 394, f 395, f 396, f 397, f 398, f 399, f 400, f 401, f 402, f 403, f 404, f 405, f 406, f 407, f 408, f 409, f 410, f 411, f 412, f 413, f 414, f 415, f 416, f 417, f 418, f 419, f 420, f 421, f 422, f 423, f 424, f 425, f 426, f 427, f 428, f 429, f 430, f 431, f 432, f 433, f 434, f 435, f 436, f 437, f 438, f 439, f 440, f 441, f 442, f 443, f 444, f 445, f 446, f 447, f 448, f 449, f 450, f 451, f 452, f 453, f 454, f 455, f 456, f 457, f 458, f 459, f 460, f 461, f 462, f 463, f 464, f 465, f 466, f 467, f 468, f 469, f 470, f 471, f 472, f 473, f 474, f 475, f 476, f 477, f 478, f 479, f 480, f 481, f 482, f 483, f 484, f 485, f 486, f 487, f 488, f 489, f 490, f 491, f 492, f 493, f 494, f 495, f 496, f 497, f 498, f 499, f 500, f 501, f 502, f 503, f 504, f 505, f 506, f 507, f 508, f 509, f 510, f 511, f 512, f 513, f 514, f 515, f 516, f 517, f 518, f 519, f 520, f 521, f 522, f 523, f 524, f 525, f 526, f 527, f 528, f 529, f 530, f 531, f 532, f 533, f 534, f 535, f 536, f 537, f 538, f 539, f 540, f 541, f 542, f 543, f 544, f 545, f 546, f 547, f 548, f 549, f 550, f 551, f 552, f 553, f 554, f 555, f 556, f 557, f 558, f 559, f 560, f 561, f 562, f 563, f 564, f 565, f 566, f 567, f 568, f 569, f 570, f 571, f 572, f 573, f 574, f 575, f 576, f 577, f 578, f 579, f 580, f 581, f 582, f 583, f 584, f 585, f 586, f 587, f 588, f 589, f 590, f 591, f 592, f 593, f 594] := by kernel_rfl

set_option maxRecDepth 50000 in
set_option maxHeartbeats 20000000 in
theorem zz30 (a : Option Addr) (n c : Nat) (t1 : ByteArray) (t2 : ByteArray)  (w : World) (hn : n ≤ 9223372036854775807) (h : EntsAt w a n) (z1 : t1.size ≤ 9223372036854775807) (z2 : t2.size ≤ 9223372036854775807) :
    Calls Try.prog 30 #[.slice a n c, .string t1, .string t2] w fun e w' => RetB e ∧ w = w' := by
  obtain ⟨eb, eo, HA, HE⟩ := h
  by_cases hN : n ≤ 1048576
  · go_enter Try.func30, Try.ntmps30
    go_wp2
    refine wp_loop_ghost_k (FrI 595 (fun g f wx => (∃ (s : Int) (i : Nat), f 0 = .slice a n c ∧ f 1 = .string t1 ∧ f 2 = .string t2 ∧ f 7 = .int .i64 s ∧ f 8 = .int .i64 i ∧ 0 ≤ s ∧ s ≤ 1048576 ∧ i ≤ n ∧ g = n - i) ∧ wx = w)) n ?_ ?_
    · exact FrI_intro _ rfl ⟨⟨_, 0, rfl, rfl, rfl, rfl, rfl, by omega, by omega, Nat.zero_le _, rfl⟩, rfl⟩
    skip
    intro gk1 a1 wr hI J1 K1 hJ1 hK1
    obtain ⟨f, rfl, ⟨s, i, q0, q1, q2, qz, qc, hs0, hs1, hi, hgi⟩, rfl⟩ := hI
    rw [frame595, q0, q1, q2, qz, qc]
    clear q0 q1 q2 qz qc
    by_cases hlt : i < n
    · obtain rfl := HA.out (by omega)
      obtain ⟨ra, rn, rc, rb, ro, pa, pn, pc, pb, po, ce0, rl, ce1, pl, HRA, HR, HPA, HP⟩ := HE.out i hlt
      by_cases hb : rn ≤ 1048576
      · by_cases hb2 : s + rn ≤ 1048576
        · obtain ⟨wo, rfl⟩ : ∃ wo : World, wo = wr := ⟨_, rfl⟩
          go_wp2
          refine wp_loop_ghost_k (FrI 595 (fun g f wx => (∃ (s : Int) (j : Nat), f 0 = .slice (some ⟨eb, eo, none⟩) n c ∧ f 1 = .string t1 ∧ f 2 = .string t2 ∧ f 8 = .int .i64 i ∧ f 7 = .int .i64 s ∧ f 9 = .int .i64 j ∧ 0 ≤ s ∧ s ≤ 1048576 ∧ j ≤ rn ∧ g = rn - j) ∧ wx = wo)) rn ?_ ?_
          · exact FrI_intro _ rfl ⟨⟨_, 0, rfl, rfl, rfl, rfl, rfl, rfl, by omega, by omega, Nat.zero_le _, rfl⟩, rfl⟩
          clear hs0 hs1
          intro gk2 a2 wr hI J2 K2 hJ2 hK2
          obtain ⟨f, rfl, ⟨s, j, q0, q1, q2, q8, qz, qc, hs0, hs1, hj, hgj⟩, rfl⟩ := hI
          rw [frame595, q0, q1, q2, q8, qz, qc]
          clear q0 q1 q2 q8 qz qc
          by_cases hjr : j < rn
          · obtain rfl := HRA.out (by omega)
            obtain ⟨Hr0, Hr1, Hr2, Hr3, Hr4⟩ := HR.out j hjr
            obtain ⟨xvra, xvrn, xvrc, xvrb, xvro, xvrS, xvrv, xvrl, xvrA, xvrC⟩ := Hr0.out
            by_cases hbxvr : xvrn ≤ 1048576
            · by_cases hdxvr : s + xvrn ≤ 1048576
              · obtain ⟨wo, rfl⟩ : ∃ wo : World, wo = wr := ⟨_, rfl⟩
                go_wp2
                refine wp_loop_ghost_k (FrI 595 (fun g f wx => (∃ (s : Int) (k : Nat), f 0 = .slice (some ⟨eb, eo, none⟩) n c ∧ f 1 = .string t1 ∧ f 2 = .string t2 ∧ f 8 = .int .i64 i ∧ f 9 = .int .i64 j ∧ f 7 = .int .i64 s ∧ f 10 = .int .i64 k ∧ 0 ≤ s ∧ s ≤ 1048576 ∧ k ≤ xvrn ∧ g = xvrn - k) ∧ wx = wo)) xvrn ?_ ?_
                · exact FrI_intro _ rfl ⟨⟨_, 0, rfl, rfl, rfl, rfl, rfl, rfl, rfl, by omega, by omega, Nat.zero_le _, rfl⟩, rfl⟩
                clear hs0 hs1
                intro gk3 a3 wr hI J3 K3 hJ3 hK3
                obtain ⟨f, rfl, ⟨s, k, q0, q1, q2, q8, q9, qz, qc, hs0, hs1, hk, hgk⟩, rfl⟩ := hI
                rw [frame595, q0, q1, q2, q8, q9, qz, qc]
                clear q0 q1 q2 q8 q9 qz qc
                by_cases hkl : k < xvrn
                · obtain rfl := xvrA.out (by omega)
                  obtain ⟨cs, cz⟩ := xvrC.out k hkl
                  generalize xvrS k = x at *
                  by_cases hx : x.size ≤ 1048576
                  · by_cases hy : s + x.size ≤ 1048576
                    · skip
                      go_wp2
                      exact Handed.intro (xvrn - (k + 1)) (by omega) (hJ3 _ _ _ (FrI_intro _ rfl ⟨⟨_, k + 1, rfl, rfl, rfl, rfl, rfl, rfl, rfl, by omega, by omega, by omega, rfl⟩, rfl⟩))
                    · go_wp2
                      go_ret
                      exact ⟨⟨_, rfl⟩, rfl⟩
                  · go_wp2
                    go_ret
                    exact ⟨⟨_, rfl⟩, rfl⟩
                · clear xvrA xvrC
                  obtain ⟨xgra, xgrn, xgrc, xgrb, xgro, xgrS, xgrv, xgrl, xgrA, xgrC⟩ := Hr1.out
                  by_cases hbxgr : xgrn ≤ 1048576
                  · by_cases hdxgr : s + xgrn ≤ 1048576
                    · obtain ⟨wo, rfl⟩ : ∃ wo : World, wo = wr := ⟨_, rfl⟩
                      go_wp2
                      refine wp_loop_ghost_k (FrI 595 (fun g f wx => (∃ (s : Int) (k : Nat), f 0 = .slice (some ⟨eb, eo, none⟩) n c ∧ f 1 = .string t1 ∧ f 2 = .string t2 ∧ f 8 = .int .i64 i ∧ f 9 = .int .i64 j ∧ f 7 = .int .i64 s ∧ f 11 = .int .i64 k ∧ 0 ≤ s ∧ s ≤ 1048576 ∧ k ≤ xgrn ∧ g = xgrn - k) ∧ wx = wo)) xgrn ?_ ?_
                      · exact FrI_intro _ rfl ⟨⟨_, 0, rfl, rfl, rfl, rfl, rfl, rfl, rfl, by omega, by omega, Nat.zero_le _, rfl⟩, rfl⟩
                      clear hs0 hs1
                      intro gk3 a3 wr hI J3 K3 hJ3 hK3
                      obtain ⟨f, rfl, ⟨s, k, q0, q1, q2, q8, q9, qz, qc, hs0, hs1, hk, hgk⟩, rfl⟩ := hI
                      rw [frame595, q0, q1, q2, q8, q9, qz, qc]
                      clear q0 q1 q2 q8 q9 qz qc
                      by_cases hkl : k < xgrn
                      · obtain rfl := xgrA.out (by omega)
                        obtain ⟨cs, cz⟩ := xgrC.out k hkl
                        generalize xgrS k = x at *
                        by_cases hx : x.size ≤ 1048576
                        · by_cases hy : s + x.size ≤ 1048576
                          · skip
                            go_wp2
                            exact Handed.intro (xgrn - (k + 1)) (by omega) (hJ3 _ _ _ (FrI_intro _ rfl ⟨⟨_, k + 1, rfl, rfl, rfl, rfl, rfl, rfl, rfl, by omega, by omega, by omega, rfl⟩, rfl⟩))
                          · go_wp2
                            go_ret
                            exact ⟨⟨_, rfl⟩, rfl⟩
                        · go_wp2
                          go_ret
                          exact ⟨⟨_, rfl⟩, rfl⟩
                      · clear xgrA xgrC
                        obtain ⟨xrra, xrrn, xrrc, xrrb, xrro, xrrS, xrrv, xrrl, xrrA, xrrC⟩ := Hr2.out
                        by_cases hbxrr : xrrn ≤ 1048576
                        · by_cases hdxrr : s + xrrn ≤ 1048576
                          · obtain ⟨wo, rfl⟩ : ∃ wo : World, wo = wr := ⟨_, rfl⟩
                            go_wp2
                            refine wp_loop_ghost_k (FrI 595 (fun g f wx => (∃ (s : Int) (k : Nat), f 0 = .slice (some ⟨eb, eo, none⟩) n c ∧ f 1 = .string t1 ∧ f 2 = .string t2 ∧ f 8 = .int .i64 i ∧ f 9 = .int .i64 j ∧ f 7 = .int .i64 s ∧ f 12 = .int .i64 k ∧ 0 ≤ s ∧ s ≤ 1048576 ∧ k ≤ xrrn ∧ g = xrrn - k) ∧ wx = wo)) xrrn ?_ ?_
                            · exact FrI_intro _ rfl ⟨⟨_, 0, rfl, rfl, rfl, rfl, rfl, rfl, rfl, by omega, by omega, Nat.zero_le _, rfl⟩, rfl⟩
                            clear hs0 hs1
                            intro gk3 a3 wr hI J3 K3 hJ3 hK3
                            obtain ⟨f, rfl, ⟨s, k, q0, q1, q2, q8, q9, qz, qc, hs0, hs1, hk, hgk⟩, rfl⟩ := hI
                            rw [frame595, q0, q1, q2, q8, q9, qz, qc]
                            clear q0 q1 q2 q8 q9 qz qc
                            by_cases hkl : k < xrrn
                            · obtain rfl := xrrA.out (by omega)
                              obtain ⟨cs, cz⟩ := xrrC.out k hkl
                              generalize xrrS k = x at *
                              by_cases hx : x.size ≤ 1048576
                              · by_cases hy : s + x.size ≤ 1048576
                                · skip
                                  go_wp2
                                  exact Handed.intro (xrrn - (k + 1)) (by omega) (hJ3 _ _ _ (FrI_intro _ rfl ⟨⟨_, k + 1, rfl, rfl, rfl, rfl, rfl, rfl, rfl, by omega, by omega, by omega, rfl⟩, rfl⟩))
                                · go_wp2
                                  go_ret
                                  exact ⟨⟨_, rfl⟩, rfl⟩
                              · go_wp2
                                go_ret
                                exact ⟨⟨_, rfl⟩, rfl⟩
                            · clear xrrA xrrC
                              obtain ⟨xmra, xmrn, xmrc, xmrb, xmro, xmrS, xmrv, xmrl, xmrA, xmrC⟩ := Hr3.out
                              by_cases hbxmr : xmrn ≤ 1048576
                              · by_cases hdxmr : s + xmrn ≤ 1048576
                                · obtain ⟨wo, rfl⟩ : ∃ wo : World, wo = wr := ⟨_, rfl⟩
                                  go_wp2
                                  refine wp_loop_ghost_k (FrI 595 (fun g f wx => (∃ (s : Int) (k : Nat), f 0 = .slice (some ⟨eb, eo, none⟩) n c ∧ f 1 = .string t1 ∧ f 2 = .string t2 ∧ f 8 = .int .i64 i ∧ f 9 = .int .i64 j ∧ f 7 = .int .i64 s ∧ f 13 = .int .i64 k ∧ 0 ≤ s ∧ s ≤ 1048576 ∧ k ≤ xmrn ∧ g = xmrn - k) ∧ wx = wo)) xmrn ?_ ?_
                                  · exact FrI_intro _ rfl ⟨⟨_, 0, rfl, rfl, rfl, rfl, rfl, rfl, rfl, by omega, by omega, Nat.zero_le _, rfl⟩, rfl⟩
                                  clear hs0 hs1
                                  intro gk3 a3 wr hI J3 K3 hJ3 hK3
                                  obtain ⟨f, rfl, ⟨s, k, q0, q1, q2, q8, q9, qz, qc, hs0, hs1, hk, hgk⟩, rfl⟩ := hI
                                  rw [frame595, q0, q1, q2, q8, q9, qz, qc]
                                  clear q0 q1 q2 q8 q9 qz qc
                                  by_cases hkl : k < xmrn
                                  · obtain rfl := xmrA.out (by omega)
                                    obtain ⟨cs, cz⟩ := xmrC.out k hkl
                                    generalize xmrS k = x at *
                                    by_cases hx : x.size ≤ 1048576
                                    · by_cases hy : s + x.size ≤ 1048576
                                      · skip
                                        go_wp2
                                        exact Handed.intro (xmrn - (k + 1)) (by omega) (hJ3 _ _ _ (FrI_intro _ rfl ⟨⟨_, k + 1, rfl, rfl, rfl, rfl, rfl, rfl, rfl, by omega, by omega, by omega, rfl⟩, rfl⟩))
                                      · go_wp2
                                        go_ret
                                        exact ⟨⟨_, rfl⟩, rfl⟩
                                    · go_wp2
                                      go_ret
                                      exact ⟨⟨_, rfl⟩, rfl⟩
                                  · clear xmrA xmrC
                                    obtain ⟨xyra, xyrn, xyrc, xyrb, xyro, xyrS, xyrv, xyrl, xyrA, xyrC⟩ := Hr4.out
                                    by_cases hbxyr : xyrn ≤ 1048576
                                    · by_cases hdxyr : s + xyrn ≤ 1048576
                                      · obtain ⟨wo, rfl⟩ : ∃ wo : World, wo = wr := ⟨_, rfl⟩
                                        go_wp2
                                        refine wp_loop_ghost_k (FrI 595 (fun g f wx => (∃ (s : Int) (k : Nat), f 0 = .slice (some ⟨eb, eo, none⟩) n c ∧ f 1 = .string t1 ∧ f 2 = .string t2 ∧ f 8 = .int .i64 i ∧ f 9 = .int .i64 j ∧ f 7 = .int .i64 s ∧ f 14 = .int .i64 k ∧ 0 ≤ s ∧ s ≤ 1048576 ∧ k ≤ xyrn ∧ g = xyrn - k) ∧ wx = wo)) xyrn ?_ ?_
                                        · exact FrI_intro _ rfl ⟨⟨_, 0, rfl, rfl, rfl, rfl, rfl, rfl, rfl, by omega, by omega, Nat.zero_le _, rfl⟩, rfl⟩
                                        clear hs0 hs1
                                        intro gk3 a3 wr hI J3 K3 hJ3 hK3
                                        obtain ⟨f, rfl, ⟨s, k, q0, q1, q2, q8, q9, qz, qc, hs0, hs1, hk, hgk⟩, rfl⟩ := hI
                                        rw [frame595, q0, q1, q2, q8, q9, qz, qc]
                                        clear q0 q1 q2 q8 q9 qz qc
                                        by_cases hkl : k < xyrn
                                        · obtain rfl := xyrA.out (by omega)
                                          obtain ⟨cs, cz⟩ := xyrC.out k hkl
                                          generalize xyrS k = x at *
                                          by_cases hx : x.size ≤ 1048576
                                          · by_cases hy : s + x.size ≤ 1048576
                                            · skip
                                              go_wp2
                                              exact Handed.intro (xyrn - (k + 1)) (by omega) (hJ3 _ _ _ (FrI_intro _ rfl ⟨⟨_, k + 1, rfl, rfl, rfl, rfl, rfl, rfl, rfl, by omega, by omega, by omega, rfl⟩, rfl⟩))
                                            · go_wp2
                                              go_ret
                                              exact ⟨⟨_, rfl⟩, rfl⟩
                                          · go_wp2
                                            go_ret
                                            exact ⟨⟨_, rfl⟩, rfl⟩
                                        · clear xyrA xyrC
                                          go_wp2
                                          exact Handed.intro (rn - (j + 1)) (by omega) (hJ2 _ _ _ (FrI_intro _ rfl ⟨⟨_, j + 1, rfl, rfl, rfl, rfl, rfl, rfl, by omega, by omega, by omega, rfl⟩, rfl⟩))
                                      · go_wp2
                                        go_ret
                                        exact ⟨⟨_, rfl⟩, rfl⟩
                                    · go_wp2
                                      go_ret
                                      exact ⟨⟨_, rfl⟩, rfl⟩
                                · go_wp2
                                  go_ret
                                  exact ⟨⟨_, rfl⟩, rfl⟩
                              · go_wp2
                                go_ret
                                exact ⟨⟨_, rfl⟩, rfl⟩
                          · go_wp2
                            go_ret
                            exact ⟨⟨_, rfl⟩, rfl⟩
                        · go_wp2
                          go_ret
                          exact ⟨⟨_, rfl⟩, rfl⟩
                    · go_wp2
                      go_ret
                      exact ⟨⟨_, rfl⟩, rfl⟩
                  · go_wp2
                    go_ret
                    exact ⟨⟨_, rfl⟩, rfl⟩
              · go_wp2
                go_ret
                exact ⟨⟨_, rfl⟩, rfl⟩
            · go_wp2
              go_ret
              exact ⟨⟨_, rfl⟩, rfl⟩
          · clear HRA HR
            by_cases hb3 : pn ≤ 1048576
            · by_cases hb4 : s + pn ≤ 1048576
              · obtain ⟨wo, rfl⟩ : ∃ wo : World, wo = wr := ⟨_, rfl⟩
                go_wp2
                refine wp_loop_ghost_k (FrI 595 (fun g f wx => (∃ (s : Int) (j : Nat), f 0 = .slice (some ⟨eb, eo, none⟩) n c ∧ f 1 = .string t1 ∧ f 2 = .string t2 ∧ f 8 = .int .i64 i ∧ f 7 = .int .i64 s ∧ f 15 = .int .i64 j ∧ 0 ≤ s ∧ s ≤ 1048576 ∧ j ≤ pn ∧ g = pn - j) ∧ wx = wo)) pn ?_ ?_
                · exact FrI_intro _ rfl ⟨⟨_, 0, rfl, rfl, rfl, rfl, rfl, rfl, by omega, by omega, Nat.zero_le _, rfl⟩, rfl⟩
                clear hs0 hs1
                intro gk4 a4 wr hI J4 K4 hJ4 hK4
                obtain ⟨f, rfl, ⟨s, j, q0, q1, q2, q8, qz, qc, hs0, hs1, hj, hgj⟩, rfl⟩ := hI
                rw [frame595, q0, q1, q2, q8, qz, qc]
                clear q0 q1 q2 q8 qz qc
                by_cases hjp : j < pn
                · obtain rfl := HPA.out (by omega)
                  obtain ⟨Hp0, Hp1⟩ := HP.out j hjp
                  obtain ⟨xvpa, xvpn, xvpc, xvpb, xvpo, xvpS, xvpv, xvpl, xvpA, xvpC⟩ := Hp0.out
                  by_cases hbxvp : xvpn ≤ 1048576
                  · by_cases hdxvp : s + xvpn ≤ 1048576
                    · obtain ⟨wo, rfl⟩ : ∃ wo : World, wo = wr := ⟨_, rfl⟩
                      go_wp2
                      refine wp_loop_ghost_k (FrI 595 (fun g f wx => (∃ (s : Int) (k : Nat), f 0 = .slice (some ⟨eb, eo, none⟩) n c ∧ f 1 = .string t1 ∧ f 2 = .string t2 ∧ f 8 = .int .i64 i ∧ f 15 = .int .i64 j ∧ f 7 = .int .i64 s ∧ f 16 = .int .i64 k ∧ 0 ≤ s ∧ s ≤ 1048576 ∧ k ≤ xvpn ∧ g = xvpn - k) ∧ wx = wo)) xvpn ?_ ?_
                      · exact FrI_intro _ rfl ⟨⟨_, 0, rfl, rfl, rfl, rfl, rfl, rfl, rfl, by omega, by omega, Nat.zero_le _, rfl⟩, rfl⟩
                      clear hs0 hs1
                      intro gk3 a3 wr hI J3 K3 hJ3 hK3
                      obtain ⟨f, rfl, ⟨s, k, q0, q1, q2, q8, q15, qz, qc, hs0, hs1, hk, hgk⟩, rfl⟩ := hI
                      rw [frame595, q0, q1, q2, q8, q15, qz, qc]
                      clear q0 q1 q2 q8 q15 qz qc
                      by_cases hkl : k < xvpn
                      · obtain rfl := xvpA.out (by omega)
                        obtain ⟨cs, cz⟩ := xvpC.out k hkl
                        generalize xvpS k = x at *
                        by_cases hx : x.size ≤ 1048576
                        · by_cases hy : s + x.size ≤ 1048576
                          · skip
                            go_wp2
                            exact Handed.intro (xvpn - (k + 1)) (by omega) (hJ3 _ _ _ (FrI_intro _ rfl ⟨⟨_, k + 1, rfl, rfl, rfl, rfl, rfl, rfl, rfl, by omega, by omega, by omega, rfl⟩, rfl⟩))
                          · go_wp2
                            go_ret
                            exact ⟨⟨_, rfl⟩, rfl⟩
                        · go_wp2
                          go_ret
                          exact ⟨⟨_, rfl⟩, rfl⟩
                      · clear xvpA xvpC
                        obtain ⟨xupa, xupn, xupc, xupb, xupo, xupS, xupv, xupl, xupA, xupC⟩ := Hp1.out
                        by_cases hbxup : xupn ≤ 1048576
                        · by_cases hdxup : s + xupn ≤ 1048576
                          · obtain ⟨wo, rfl⟩ : ∃ wo : World, wo = wr := ⟨_, rfl⟩
                            go_wp2
                            refine wp_loop_ghost_k (FrI 595 (fun g f wx => (∃ (s : Int) (k : Nat), f 0 = .slice (some ⟨eb, eo, none⟩) n c ∧ f 1 = .string t1 ∧ f 2 = .string t2 ∧ f 8 = .int .i64 i ∧ f 15 = .int .i64 j ∧ f 7 = .int .i64 s ∧ f 17 = .int .i64 k ∧ 0 ≤ s ∧ s ≤ 1048576 ∧ k ≤ xupn ∧ g = xupn - k) ∧ wx = wo)) xupn ?_ ?_
                            · exact FrI_intro _ rfl ⟨⟨_, 0, rfl, rfl, rfl, rfl, rfl, rfl, rfl, by omega, by omega, Nat.zero_le _, rfl⟩, rfl⟩
                            clear hs0 hs1
                            intro gk3 a3 wr hI J3 K3 hJ3 hK3
                            obtain ⟨f, rfl, ⟨s, k, q0, q1, q2, q8, q15, qz, qc, hs0, hs1, hk, hgk⟩, rfl⟩ := hI
                            rw [frame595, q0, q1, q2, q8, q15, qz, qc]
                            clear q0 q1 q2 q8 q15 qz qc
                            by_cases hkl : k < xupn
                            · obtain rfl := xupA.out (by omega)
                              obtain ⟨cs, cz⟩ := xupC.out k hkl
                              generalize xupS k = x at *
                              by_cases hx : x.size ≤ 1048576
                              · by_cases hy : s + x.size ≤ 1048576
                                · skip
                                  go_wp2
                                  exact Handed.intro (xupn - (k + 1)) (by omega) (hJ3 _ _ _ (FrI_intro _ rfl ⟨⟨_, k + 1, rfl, rfl, rfl, rfl, rfl, rfl, rfl, by omega, by omega, by omega, rfl⟩, rfl⟩))
                                · go_wp2
                                  go_ret
                                  exact ⟨⟨_, rfl⟩, rfl⟩
                              · go_wp2
                                go_ret
                                exact ⟨⟨_, rfl⟩, rfl⟩
                            · clear xupA xupC
                              go_wp2
                              exact Handed.intro (pn - (j + 1)) (by omega) (hJ4 _ _ _ (FrI_intro _ rfl ⟨⟨_, j + 1, rfl, rfl, rfl, rfl, rfl, rfl, by omega, by omega, by omega, rfl⟩, rfl⟩))
                          · go_wp2
                            go_ret
                            exact ⟨⟨_, rfl⟩, rfl⟩
                        · go_wp2
                          go_ret
                          exact ⟨⟨_, rfl⟩, rfl⟩
                    · go_wp2
                      go_ret
                      exact ⟨⟨_, rfl⟩, rfl⟩
                  · go_wp2
                    go_ret
                    exact ⟨⟨_, rfl⟩, rfl⟩
                · skip
                  go_wp2
                  exact Handed.intro (n - (i + 1)) (by omega) (hJ1 _ _ _ (FrI_intro _ rfl ⟨⟨_, i + 1, rfl, rfl, rfl, rfl, rfl, by omega, by omega, by omega, rfl⟩, rfl⟩))
              · go_wp2
                go_ret
                exact ⟨⟨_, rfl⟩, rfl⟩
            · go_wp2
              go_ret
              exact ⟨⟨_, rfl⟩, rfl⟩
        · go_wp2
          go_ret
          exact ⟨⟨_, rfl⟩, rfl⟩
      · go_wp2
        go_ret
        exact ⟨⟨_, rfl⟩, rfl⟩
    · clear HA HE
      by_cases hbt1 : t1.size ≤ 1048576
      · by_cases hdt1 : s + t1.size ≤ 1048576
        · skip
          by_cases hbt2 : t2.size ≤ 1048576
          · by_cases hdt2 : s + t1.size + t2.size ≤ 1048576
            · skip
              go_wp2
              go_ret
              exact ⟨⟨_, rfl⟩, rfl⟩
            · go_wp2
              go_ret
              exact ⟨⟨_, rfl⟩, rfl⟩
          · go_wp2
            go_ret
            exact ⟨⟨_, rfl⟩, rfl⟩
        · go_wp2
          go_ret
          exact ⟨⟨_, rfl⟩, rfl⟩
      · go_wp2
        go_ret
        exact ⟨⟨_, rfl⟩, rfl⟩
  · go_enter Try.func30, Try.ntmps30
    go_wp2
    go_ret
    exact ⟨⟨_, rfl⟩, rfl⟩
end Go.Proofs.Qxb6606073a
