import Derived.Test.Qxb6601951aT122
import Derived.Test.Qxb6601951aZs
namespace Go.Proofs.Qxb6601951a
open Go.RowKit

set_option maxHeartbeats 40000000 in
set_option maxRecDepth 1000000 in
theorem tail113 {w0 w : World} {A0 A2 A4 A6 : Option Addr} {n0 n2 N n4 n6 C kb qb ib zb : Nat} {Wk : Nat → Int} {Vt : Nat → Bool} {Vl : Nat → Int} {blk lo hi vals mark : Nat → Nat} {idx : Nat → Int} {ss : Nat → Nat} {kp : Nat} {s ub : Nat}
    (hE : Env3 w0 w A0 A2 A4 A6 n0 n2 N n4 n6 C kb qb ib zb Wk Vt Vl blk lo hi vals mark idx ss kp) (hsn : s = nw kp n6) (hu : Row 4 Value.bool w ub (N + s) (N + s) (quOf Vt N C blk n0 ss s)) (hub : w0.heap.size ≤ ub ∧ ∀ x ∈ kb :: qb :: ib :: zb :: blkOf A0 ++ blkOf A2 ++ blkOf A4 ++ blkOf A6, x ≠ ub)
    {u7 u8 u9 u10 u11 u12 u13 u14 u16 u17 u18 u19 u20 u23 u24 u25 u26 u27 u28 u29 u30 u31 u32 u33 u34 u35 u36 u41 u43 u45 u46 u47 u48 u49 u50 u51 u52 u53 u54 u55 u56 u57 u58 u59 u60 u61 u62 u63 u64 u65 u66 u67 u68 u69 u70 u71 u72 u73 u74 u75 u76 u77 u78 u79 u80 u81 u82 u83 u84 u85 u86 u87 u88 u89 u90 u91 u92 u93 u94 u95 u96 u97 u98 u99 u100 u101 u102 u103 u104 u105 u106 u107 u108 u109 u110 u111 u112 u113 u114 u115 u116 u117 u118 u119 u120 u121 u122 u123 u124 u125 u126 u127 u128 u129 u130 u131 u132 u133 u134 u135 u136 u137 u138 u139 u140 u141 u142 u143 u144 u145 u146 u147 u148 u149 u150 u151 u152 u153 u154 u155 u156 u157 u158 u159 u160 u161 u162 u163 u164 u165 u166 u167 u168 u169 u170 u171 u172 u173 u174 u175 u176 u177 u178 u179 u180 u181 u182 u183 u184 u185 u186 u187 u188 u189 u190 u191 u192 u193 u194 u195 u196 u197 u198 u199 u200 u201 u202 u203 u204 u205 u206 u207 u208 u209 u210 u211 u212 u213 u214 u215 u216 u217 u218 u219 u220 u221 u222 u223 u224 u225 u226 u227 u228 u229 u230 u231 u232 u233 u234 u235 u236 u237 u238 u239 u240 u241 u242 u243 u244 u245 u246 u247 u248 u249 u250 u251 u252 u253 u254 u255 u256 u257 u258 u259 u260 u261 u262 u263 u264 u265 u266 u267 u268 u269 u270 u271 u272 u273 u274 u275 u276 u277 u278 u279 u280 u281 u282 u283 u284 u285 u286 u287 u288 u289 u290 u291 u292 u293 u294 u295 u296 u297 u298 u299 u300 u301 u302 u303 u304 u305 u306 u307 u308 u309 u310 u311 u312 u313 u314 u315 u316 u317 u318 u319 u320 u321 u322 u323 u324 u325 u326 u327 u328 u329 u330 u331 u332 u333 u334 u335 u336 u337 u338 u339 u340 u341 u342 u343 u344 u345 u346 u347 u348 u349 u350 u351 u352 u353 u354 u355 u356 u357 u358 u359 u360 u361 u362 u363 u364 u365 u366 u367 u368 u369 u370 u371 u372 u373 u374 u375 u376 u377 u378 u379 u380 u381 u382 u383 u384 u385 u386 u387 u388 u389 u390 u391 u392 u393 u394 u395 u396 u397 u398 u399 u400 u401 u402 u403 u404 u405 u406 u407 u408 u409 u410 u411 u412 u413 u414 u415 u416 u417 u418 u419 u420 u421 u422 u423 u424 u425 u426 u427 u428 u429 u430 u431 u432 u433 u434 u435 u436 u437 u438 u439 u440 u441 u442 u443 u444 u445 u446 u447 u448 u449 u450 u451 u452 u453 u454 u455 u456 u457 u458 u459 u460 u461 u462 u463 u464 u465 u466 u467 u468 u469 u470 u471 u472 u473 u474 u475 u476 u477 u478 u479 u480 u481 u482 u483 u484 u485 u486 u487 u488 u489 u490 u491 u492 u493 u494 u495 u496 u497 u498 u499 u500 u501 u502 u503 u504 u505 u506 u507 u508 u509 u510 u511 u512 u513 u514 u515 u516 u517 u518 u519 u520 u521 u522 u523 u524 u525 u526 u527 u528 u529 u530 u531 u532 u533 u534 u535 u536 u537 u538 u539 u540 u541 u542 u543 u544 u545 u546 u547 u548 u549 u550 u551 u552 u553 u554 u555 u556 u557 u558 u559 u560 u561 u562 u563 u564 u565 u566 u567 u568 u569 u570 u571 u572 u573 u574 u575 u576 u577 u578 u579 u580 u581 u582 u583 u584 u585 u586 u587 u588 u589 u590 u591 u592 u593 u594 u595 u596 u597 u598 u599 u600 u601 u602 u603 u604 u605 u606 u607 u608 u609 u610 u611 u612 u613 u614 u615 u616 u617 u618 u619 u620 u621 u622 u623 u624 u625 u626 u627 u628 u629 u630 u631 u632 u633 u634 u635 u636 u637 u638 u639 u640 u641 u642 u643 u644 u645 u646 u647 u648 u649 u650 u651 u652 u653 u654 u655 u656 u657 u658 u659 u660 u661 u662 u663 u664 u665 u666 u667 u668 u669 u670 u671 u672 u673 u674 u675 u676 u677 u678 u679 u680 u681 u682 u683 u684 u685 u686 u687 u688 u689 u690 u691 u692 u693 u694 u695 u696 u697 u698 u699 u700 u701 u702 u703 u704 u705 u706 u707 u708 u709 u710 u711 u712 u713 u714 u715 u716 u717 u718 u719 u720 u721 u722 u723 u724 u725 u726 u727 u728 u729 u730 u731 u732 u733 u734 u735 u736 u737 u738 u739 u740 u741 u742 u743 u744 u745 u746 u747 u748 u749 u750 u751 u752 u753 u754 u755 u756 u757 u758 u759 u760 u761 u762 u763 u764 u765 u766 u767 u768 u769 u770 u771 u772 u773 : Value} (sc rc : Code) (hs : afterRegion 113 (Try.f5.body.getD .skip) = some (sc, rc)) :
    Code.wp Try.prog sc (Exit.then (Code.wp Try.prog rc (Post5 w0)) (Post5 w0)) ⟨#[.slice A0 n0 n0, .int .i64 (N : Int), .slice A2 n2 n2, .slice (some ⟨qb, 0, none⟩) N N, .slice A4 n4 n4, .int .i64 (C : Int), .slice A6 n6 n6, u7, u8, u9, u10, u11, u12, u13, u14, .int .i64 (n0 : Int), u16, u17, u18, u19, u20, .int .i64 (n6 : Int), .slice (some ⟨kb, 0, none⟩) n0 n0, u23, u24, u25, u26, u27, u28, u29, u30, u31, u32, u33, u34, u35, u36, .slice (some ⟨ib, 0, none⟩) n6 n6, .slice (some ⟨zb, 0, none⟩) n6 n6, .int .i64 (s : Int), .int .i64 (sumTo ss s : Nat), u41, .int .i64 ((N + s : Nat) : Int), u43, .slice (some ⟨ub, 0, none⟩) (N + s) (N + s), u45, u46, u47, u48, u49, u50, u51, u52, u53, u54, u55, u56, u57, u58, u59, u60, u61, u62, u63, u64, u65, u66, u67, u68, u69, u70, u71, u72, u73, u74, u75, u76, u77, u78, u79, u80, u81, u82, u83, u84, u85, u86, u87, u88, u89, u90, u91, u92, u93, u94, u95, u96, u97, u98, u99, u100, u101, u102, u103, u104, u105, u106, u107, u108, u109, u110, u111, u112, u113, u114, u115, u116, u117, u118, u119, u120, u121, u122, u123, u124, u125, u126, u127, u128, u129, u130, u131, u132, u133, u134, u135, u136, u137, u138, u139, u140, u141, u142, u143, u144, u145, u146, u147, u148, u149, u150, u151, u152, u153, u154, u155, u156, u157, u158, u159, u160, u161, u162, u163, u164, u165, u166, u167, u168, u169, u170, u171, u172, u173, u174, u175, u176, u177, u178, u179, u180, u181, u182, u183, u184, u185, u186, u187, u188, u189, u190, u191, u192, u193, u194, u195, u196, u197, u198, u199, u200, u201, u202, u203, u204, u205, u206, u207, u208, u209, u210, u211, u212, u213, u214, u215, u216, u217, u218, u219, u220, u221, u222, u223, u224, u225, u226, u227, u228, u229, u230, u231, u232, u233, u234, u235, u236, u237, u238, u239, u240, u241, u242, u243, u244, u245, u246, u247, u248, u249, u250, u251, u252, u253, u254, u255, u256, u257, u258, u259, u260, u261, u262, u263, u264, u265, u266, u267, u268, u269, u270, u271, u272, u273, u274, u275, u276, u277, u278, u279, u280, u281, u282, u283, u284, u285, u286, u287, u288, u289, u290, u291, u292, u293, u294, u295, u296, u297, u298, u299, u300, u301, u302, u303, u304, u305, u306, u307, u308, u309, u310, u311, u312, u313, u314, u315, u316, u317, u318, u319, u320, u321, u322, u323, u324, u325, u326, u327, u328, u329, u330, u331, u332, u333, u334, u335, u336, u337, u338, u339, u340, u341, u342, u343, u344, u345, u346, u347, u348, u349, u350, u351, u352, u353, u354, u355, u356, u357, u358, u359, u360, u361, u362, u363, u364, u365, u366, u367, u368, u369, u370, u371, u372, u373, u374, u375, u376, u377, u378, u379, u380, u381, u382, u383, u384, u385, u386, u387, u388, u389, u390, u391, u392, u393, u394, u395, u396, u397, u398, u399, u400, u401, u402, u403, u404, u405, u406, u407, u408, u409, u410, u411, u412, u413, u414, u415, u416, u417, u418, u419, u420, u421, u422, u423, u424, u425, u426, u427, u428, u429, u430, u431, u432, u433, u434, u435, u436, u437, u438, u439, u440, u441, u442, u443, u444, u445, u446, u447, u448, u449, u450, u451, u452, u453, u454, u455, u456, u457, u458, u459, u460, u461, u462, u463, u464, u465, u466, u467, u468, u469, u470, u471, u472, u473, u474, u475, u476, u477, u478, u479, u480, u481, u482, u483, u484, u485, u486, u487, u488, u489, u490, u491, u492, u493, u494, u495, u496, u497, u498, u499, u500, u501, u502, u503, u504, u505, u506, u507, u508, u509, u510, u511, u512, u513, u514, u515, u516, u517, u518, u519, u520, u521, u522, u523, u524, u525, u526, u527, u528, u529, u530, u531, u532, u533, u534, u535, u536, u537, u538, u539, u540, u541, u542, u543, u544, u545, u546, u547, u548, u549, u550, u551, u552, u553, u554, u555, u556, u557, u558, u559, u560, u561, u562, u563, u564, u565, u566, u567, u568, u569, u570, u571, u572, u573, u574, u575, u576, u577, u578, u579, u580, u581, u582, u583, u584, u585, u586, u587, u588, u589, u590, u591, u592, u593, u594, u595, u596, u597, u598, u599, u600, u601, u602, u603, u604, u605, u606, u607, u608, u609, u610, u611, u612, u613, u614, u615, u616, u617, u618, u619, u620, u621, u622, u623, u624, u625, u626, u627, u628, u629, u630, u631, u632, u633, u634, u635, u636, u637, u638, u639, u640, u641, u642, u643, u644, u645, u646, u647, u648, u649, u650, u651, u652, u653, u654, u655, u656, u657, u658, u659, u660, u661, u662, u663, u664, u665, u666, u667, u668, u669, u670, u671, u672, u673, u674, u675, u676, u677, u678, u679, u680, u681, u682, u683, u684, u685, u686, u687, u688, u689, u690, u691, u692, u693, u694, u695, u696, u697, u698, u699, u700, u701, u702, u703, u704, u705, u706, u707, u708, u709, u710, u711, u712, u713, u714, u715, u716, u717, u718, u719, u720, u721, u722, u723, u724, u725, u726, u727, u728, u729, u730, u731, u732, u733, u734, u735, u736, u737, u738, u739, u740, u741, u742, u743, u744, u745, u746, u747, u748, u749, u750, u751, u752, u753, u754, u755, u756, u757, u758, u759, u760, u761, u762, u763, u764, u765, u766, u767, u768, u769, u770, u771, u772, u773], []⟩ w := by
  unfold Post5
  conv at hs => lhs; whnf
  injection hs with hs
  injection hs with h1 h2
  subst h1 h2
  refine wp_any (fun KK hKK => ?_)
  conv => arg 4; dsimp only
  have H := hid hE
  have HU := hid (And.intro hsn (And.intro hu hub))
  have g0 := hE.e2.g0
  have g2 := hE.e2.g2
  have g3 := hE.e2.g3
  have g4 := hE.e2.g4
  have g6 := hE.e2.g6
  have hC := hE.e2.hC
  have hnws := nw_self kp n6
  rw [← hsn] at hnws
  clear hE hsn hu hub
  have zn0 : A0 = none → n0 = 0 := fun h => by
    rcases H.out.e2.s0 with ⟨_, h2, _⟩ | ⟨b, h2, _⟩
    · exact h2
    · rw [h] at h2; cases h2
  have zn2 : A2 = none → n2 = 0 := fun h => by
    rcases H.out.e2.s2 with ⟨_, h2, _⟩ | ⟨b, h2, _⟩
    · exact h2
    · rw [h] at h2; cases h2
  have Z0 := hid zn0
  have Z2 := hid zn2
  clear zn0 zn2
  go_wp2_with fail
  refine (cloneNats_any A0 n0 n0 blk w H.out.e2.s0.rd (by omega) Z0.out).mono ?_
  rintro e w2 ⟨B0, rfl, s0, l0, k0⟩
  have S0 := hid (And.intro s0 (And.intro l0 k0))
  clear s0 l0 k0
  go_wp2_with fail
  refine (cloneInts_any A2 n2 n2 Wk w2 (H.out.e2.s2.rd.chg0 S0.out.2.2) (by omega) Z2.out).mono ?_
  rintro e w3 ⟨B2, rfl, s0, l0, k0⟩
  have S2 := hid (And.intro s0 (And.intro l0 (And.intro k0 (S0.out.2.2.trans k0))))
  clear s0 l0 k0
  go_wp2_with fail
  refine (cloneBools_any (some ⟨qb, 0, none⟩) N N Vt w3 ((H.out.e2.s3.sr.rd).chg0 S2.out.2.2.2) (by omega) (fun h => by cases h)).mono ?_
  rintro e w4 ⟨B3, rfl, s0, l0, k0⟩
  obtain ⟨b3, rfl, hqr⟩ := s0.at hC
  have S3 := hid (And.intro hqr (And.intro l0 (And.intro k0 (S2.out.2.2.2.trans k0))))
  clear s0 l0 k0 hqr
  go_wp2_with fail
  have hE4 := H.out.chg0 S3.out.2.2.2
  refine (newRef_any w4 A0 n0 n0 N blk A2 A4 n2 n2 qb n4 n4 Wk Vt hE4.e2.s0 hE4.e2.hB (by omega) (by omega) (by omega) hE4.e2.s2 hE4.e2.s3 (fun h => (hE4.e2.d0 _ h).2.1 rfl) (fun x hx => ⟨(hE4.e2.d2 x hx).1, fun h => (hE4.e2.d0 x h).1 hx⟩) (by omega)).mono ?_
  rintro e w5 ⟨rb, pb, mb, ab, sb, eb, P0, rfl, hR, hok, hbl, hhits, hlo, hc5⟩
  have S5 := hid (And.intro hR (And.intro hok (And.intro hbl (And.intro hhits (And.intro hlo (And.intro hc5 (S3.out.2.2.2.trans hc5)))))))
  clear hR hok hbl hhits hlo hc5 hE4
  go_wp2_with fail
  refine (fields_any w5 rb pb mb ab sb eb A0 n0 N N n0 N P0 A2 n2 n2 qb N N Wk Vt nilS nilS nilS _ nilS S5.out.1).mono ?_
  rintro e w6 ⟨rfl, kd, rfl⟩
  have hR6 := S5.out.1.chg0 (drewN_chg w5 kd)
  obtain ⟨w6, hw6⟩ : ∃ w6, w5.drewN kd = w6 := ⟨_, rfl⟩
  rw [hw6] at hR6 ⊢
  have S6 : Hid (RSt w6 rb pb mb ab sb eb A0 n0 N N n0 N P0 A2 n2 n2 qb N N Wk Vt nilS nilS nilS (.slice A4 n4 n4) nilS ∧ Chg [] w w6 ∧ Chg [] w5 w6) := by
    have c := drewN_chg w5 kd
    rw [hw6] at c
    exact ⟨hR6, S5.out.2.2.2.2.2.2.trans c, c⟩
  clear hw6 hR6
  go_wp2_with fail
  refine (cloneNats_any (some ⟨mb, 0, none⟩) n0 n0 P0.mem w6 S6.out.1.part.mem.sr.rd (by omega) (fun h => by cases h)).mono ?_
  rintro e w7 ⟨M0, rfl, s0, l0, k0⟩
  have S7 := hid (And.intro s0 (And.intro l0 k0))
  clear s0 l0 k0
  go_wp2_with fail
  refine (cloneNats_any (some ⟨sb, 0, none⟩) N N P0.st w7 ((S6.out.1.part.st.sr.rd).chg0 S7.out.2.2) (by omega) (fun h => by cases h)).mono ?_
  rintro e w8 ⟨T0, rfl, s0, l0, k0⟩
  obtain ⟨t0, rfl, htr⟩ := s0.at hC
  have S8 := hid (And.intro htr (And.intro l0 (And.intro k0 (S7.out.2.2.trans k0))))
  clear s0 l0 k0 htr
  go_wp2_with fail
  refine (cloneNats_any (some ⟨eb, 0, none⟩) N N P0.en w8 ((S6.out.1.part.en.sr.rd).chg0 S8.out.2.2.2) (by omega) (fun h => by cases h)).mono ?_
  rintro e w9 ⟨F0, rfl, s0, l0, k0⟩
  obtain ⟨f0, rfl, htr⟩ := s0.at hC
  have S9 := hid (And.intro htr (And.intro l0 (And.intro k0 (S8.out.2.2.2.trans k0))))
  clear s0 l0 k0 htr
  have hE9 := hid (H.out.chg0 (S6.out.2.1.trans S9.out.2.2.2))
  have hR9 := hid (S6.out.1.chg0 S9.out.2.2.2)
  -- the run
  have K18 : Hid (Calls Try.prog 18 #[.pointer (some ⟨rb, 0, none⟩), .int .i64 C, .slice A6 n6 n6] w9 fun e w' => SbP w9 rb pb mb ab sb eb A0 n0 n0 N P0 A2 n2 qb Wk Vt nilS nilS nilS (.slice A4 n4 n4) nilS C n6 lo hi vals kp ss (quOf Vt N C blk n0 ss s) e w') := by
    have hok := S5.out.2.1
    have hbl := S5.out.2.2.1
    have hI : P0.en C - P0.st C = hits blk C n0 := S5.out.2.2.2.1 C hC
    have hlo5 := S5.out.2.2.2.2.1
    have h := hE9.out
    refine zzSplitBlock w9 rb pb mb ab sb eb A0 n0 N N n0 N P0 A2 n2 n2 qb Wk Vt nilS nilS nilS nilS A4 A6 n4 n4 n6 C n6 lo hi vals mark Vl kp ss _ hR9.out hok hC (by rw [hbl]; exact h.e2.pc) h.e2.hn h.e2.s6 h.e2.s4 h.e2.vl (fun x hx hm => ?_) (by rw [h.hkp, hI]; rfl) h.hss (by rw [quOf, HU.out.1, hI]) (by omega) (by omega) (by omega) (by omega) (by omega) (by omega) (by omega)
    have hx2 : x < w4.heap.size := by
      have hx3 : x ∈ kb :: qb :: blkOf A0 ++ blkOf A2 ++ blkOf A4 ++ blkOf A6 := by
        simp only [List.cons_append, List.mem_cons, List.mem_append] at hx ⊢
        rcases hx with hx | hx
        · exact Or.inr (Or.inr (Or.inl (Or.inr hx)))
        · exact Or.inr (Or.inr (Or.inr hx))
      have h1 := (H.out.e2.lo0 x hx3).2
      have h2 := S3.out.2.2.2.size
      omega
    have hd := h.e2.d3
    simp only [List.mem_append] at hx hm
    rcases hm with (hm | hm) | hm
    · simp only [List.mem_cons, List.not_mem_nil, or_false] at hm
      rcases hm with hm | hm | hm | hm | hm | hm | hm
      · have := hlo5 x (by simp [hm]); omega
      · subst hm
        rcases hx with hx | hx
        · exact hd.1 hx
        · exact hd.2 hx
      · have := hlo5 x (by simp [hm]); omega
      · have := hlo5 x (by simp [hm]); omega
      · have := hlo5 x (by simp [hm]); omega
      · have := hlo5 x (by simp [hm]); omega
      · have := hlo5 x (by simp [hm]); omega
    · have := h.e2.d2 x hm
      rcases hx with hx | hx
      · exact this.2.1 hx
      · exact this.2.2 hx
    · have := h.e2.d0 x hm
      rcases hx with hx | hx
      · exact this.2.2.1 hx
      · exact this.2.2.2 hx
  go_wp2_with fail
  refine K18.out.mono ?_
  rintro e w10 ⟨rfl, sb', eb', cs', ce', P, wa', wc', qb', qc', W', V', hRR, hran, hqu, hch⟩
  rw [← HU.out.1] at hRR hqu
  have S10 := hid (And.intro hRR (And.intro hran (And.intro hqu hch)))
  clear hRR hran hqu hch K18
  have hE5 : Env5 w0 w10 A0 B0 B2 M0 wa' n0 n2 N n6 C kb qb' ib zb ub b3 t0 f0 mb ab sb' eb' s cs' ce' (n2 + cnt (quOf Vt N C blk n0 ss s) (N + s)) wc' qc' Wk W' Vt V' blk lo hi vals mark idx ss kp P0 P := by
    obtain ⟨hRR, hran, hqu, hch⟩ := S10.out
    have hbl := S5.out.2.2.1
    have hlo5 := S5.out.2.2.2.2.1
    have z3 := S3.out.2.2.2.size
    have z2 := S2.out.2.2.1.size
    have z0 := S0.out.2.2.size
    have z23 := S3.out.2.2.1.size
    have z5 := S5.out.2.2.2.2.2.1.size
    have z6 := S6.out.2.2.size
    have z7 := S7.out.2.2.size
    have z8 := S8.out.2.2.1.size
    have y1 := S6.out.1.str.lt
    have y2 := S6.out.1.part.str.lt
    have y3 := S6.out.1.part.mem.lt
    have y4 := S6.out.1.part.pos.lt
    have y5 := S6.out.1.part.st.lt
    have y6 := S6.out.1.part.en.lt
    have q0 := hlo5 rb (by simp)
    have q1 := hlo5 pb (by simp)
    have q2 := hlo5 mb (by simp)
    have q3 := hlo5 ab (by simp)
    have q4 := hlo5 sb (by simp)
    have q5 := hlo5 eb (by simp)
    have q6 := H.out.e2.lo0 qb (by simp)
    have qA2 : ∀ x ∈ blkOf A2, w0.heap.size ≤ x ∧ x < w.heap.size := fun x hx => H.out.e2.lo0 x (by simp [hx])
    have qA0 : ∀ x ∈ blkOf A0, w0.heap.size ≤ x ∧ x < w.heap.size := fun x hx => H.out.e2.lo0 x (by simp [hx])
    have hw0 := H.out.e2.c.size
    have inS : ∀ x, x ∈ [rb, qb, pb, mb, ab, sb, eb] ++ blkOf A2 ++ blkOf A0 → x = qb ∨ x ∈ blkOf A2 ∨ x ∈ blkOf A0 ∨ (w4.heap.size ≤ x ∧ x < w6.heap.size) := fun x hm => by
      simp only [List.mem_append] at hm
      rcases hm with (hm | hm) | hm
      · simp only [List.mem_cons, List.not_mem_nil, or_false] at hm
        by_cases e : x = qb
        · exact Or.inl e
        · right; right; right; omega
      · exact Or.inr (Or.inl hm)
      · exact Or.inr (Or.inr (Or.inl hm))
    have old : ∀ x, x < w.heap.size → x ≠ qb → (∀ y ∈ blkOf A2, y ≠ x) → (∀ y ∈ blkOf A0, y ≠ x) → x ∉ [rb, qb, pb, mb, ab, sb, eb] ++ blkOf A2 ++ blkOf A0 := fun x h1 h2 h3 h4 hm => by
      rcases inS x hm with h | h | h | h
      · exact h2 h
      · exact h3 x h rfl
      · exact h4 x h rfl
      · omega
    have gen : ∀ x, (w.heap.size ≤ x ∧ x < w4.heap.size) ∨ w6.heap.size ≤ x → x ∉ [rb, qb, pb, mb, ab, sb, eb] ++ blkOf A2 ++ blkOf A0 := fun x h1 hm => by
      rcases inS x hm with h | h | h | h
      · omega
      · have := qA2 x h; omega
      · have := qA0 x h; omega
      · omega
    have dk := H.out.e2.dk
    have di := H.out.di
    have du := HU.out.2.2.2
    have c9 : Chg [] w w9 := S6.out.2.1.trans S9.out.2.2.2
    have c49 : Chg [] w4 w9 := S5.out.2.2.2.2.2.1.trans (S6.out.2.2.trans S9.out.2.2.2)
    have c39 : Chg [] w3 w9 := S3.out.2.2.1.trans c49
    have c29 : Chg [] w2 w9 := S2.out.2.2.1.trans c39
    have c79 : Chg [] w7 w9 := S8.out.2.2.1.trans S9.out.2.2.1
    have lkb := (H.out.e2.lo0 kb (by simp)).2
    refine ⟨g0, g2, g3, g6, hC, HU.out.1, (H.out.e2.c.trans c9).then hch (fun i hi => Or.inr ?_), (H.out.e2.mrk.chg c9 (by simp)).chg hch (old kb lkb ?_ ?_ ?_), (H.out.ri.chg c9 (by simp)).chg hch (old ib H.out.ri.lt ?_ ?_ ?_), (H.out.rz.chg c9 (by simp)).chg hch (old zb H.out.rz.lt ?_ ?_ ?_), (HU.out.2.1.chg c9 (by simp)).chg hch (old ub HU.out.2.1.lt ?_ ?_ ?_),
      (S0.out.1.rd.chg0 c29).chg hch (fun x hx => gen x (Or.inl ⟨S0.out.2.1 x hx, ?_⟩)), (S2.out.1.rd.chg0 c39).chg hch (fun x hx => gen x (Or.inl ⟨?_, ?_⟩)), (S3.out.1.chg c49 (by simp)).chg hch (gen b3 (Or.inl ⟨?_, ?_⟩)), (S7.out.1.rd.chg0 c79).chg hch (fun x hx => gen x (Or.inr (S7.out.2.1 x hx))), (S8.out.1.chg S9.out.2.2.1 (by simp)).chg hch (gen t0 (Or.inr ?_)), S9.out.1.chg hch (gen f0 (Or.inr ?_)),
      hRR.part.mem, hRR.part.pos, hRR.part.blk, hRR.part.st, hRR.part.en, hRR.work.rd, hRR.wait, H.out.hidx, by rw [hbl]; exact H.out.e2.pc, hbl, S5.out.2.1, hran, rfl, hqu⟩
    · rcases inS i hi with h | h | h | h
      · omega
      · exact (qA2 i h).1
      · exact (qA0 i h).1
      · omega
    · exact dk qb (by simp)
    · exact fun y hy e => dk y (by simp [hy]) e.symm
    · exact fun y hy e => dk y (by simp [hy]) e.symm
    · exact fun e => (di qb (by simp)).1 e.symm
    · exact fun y hy e => (di y (by simp [hy])).1 e
    · exact fun y hy e => (di y (by simp [hy])).1 e
    · exact fun e => (di qb (by simp)).2 e.symm
    · exact fun y hy e => (di y (by simp [hy])).2 e
    · exact fun y hy e => (di y (by simp [hy])).2 e
    · exact fun e => du qb (by simp) e.symm
    · exact fun y hy e => du y (by simp [hy]) e
    · exact fun y hy e => du y (by simp [hy]) e
    · have := S0.out.1.lt x hx; omega
    · have := S2.out.2.1 x hx; omega
    · have := S2.out.1.lt x hx; omega
    · have := S3.out.2.1 b3 (by simp [blkOf]); omega
    · have := S3.out.1.lt; omega
    · have := S8.out.2.1 t0 (by simp [blkOf]); omega
    · have := S9.out.2.1 f0 (by simp [blkOf]); omega
  have hRx := S10.out.1
  go_upto_region 122 with fail
  refine wp_mono (tail122 hE5 hRx _ _ rfl) ?_
  intro e a w' h
  cases e
  case normal => exact ‹∀ (a : Act) (w : World), Code.wp _ _ _ a w → _› a w' h
  all_goals exact h
end Go.Proofs.Qxb6601951a
