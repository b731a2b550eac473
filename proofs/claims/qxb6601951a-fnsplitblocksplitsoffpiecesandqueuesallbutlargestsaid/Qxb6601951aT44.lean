import Derived.Test.Qxb6601951aT64
namespace Go.Proofs.Qxb6601951a
open Go.RowKit

set_option maxHeartbeats 40000000 in
set_option maxRecDepth 1000000 in
theorem tail44 {w0 w : World} {a0 a2 a3 a4 a6 : Option Addr} {n0 n2 n3 n4 n6 c0 c2 c3 c4 c6 C kb : Nat} {B Wk : Nat → Int} {Vt : Nat → Bool} {Vl lo hi : Nat → Int} {blk lo' hi' vals mark : Nat → Nat}
    (hE : Env1 w0 w a0 a2 a3 a4 a6 n0 n2 n3 n4 n6 C kb B Wk Vt Vl lo hi blk lo' hi' vals mark)
    {u7 u8 u9 u10 u11 u12 u13 u14 u16 u17 u18 u19 u20 u23 u24 u25 u26 u27 u28 u29 u30 u31 u32 u33 u34 u35 u36 u37 u38 u39 u40 u41 u42 u43 u44 u45 u46 u47 u48 u49 u50 u51 u52 u53 u54 u55 u56 u57 u58 u59 u60 u61 u62 u63 u64 u65 u66 u67 u68 u69 u70 u71 u72 u73 u74 u75 u76 u77 u78 u79 u80 u81 u82 u83 u84 u85 u86 u87 u88 u89 u90 u91 u92 u93 u94 u95 u96 u97 u98 u99 u100 u101 u102 u103 u104 u105 u106 u107 u108 u109 u110 u111 u112 u113 u114 u115 u116 u117 u118 u119 u120 u121 u122 u123 u124 u125 u126 u127 u128 u129 u130 u131 u132 u133 u134 u135 u136 u137 u138 u139 u140 u141 u142 u143 u144 u145 u146 u147 u148 u149 u150 u151 u152 u153 u154 u155 u156 u157 u158 u159 u160 u161 u162 u163 u164 u165 u166 u167 u168 u169 u170 u171 u172 u173 u174 u175 u176 u177 u178 u179 u180 u181 u182 u183 u184 u185 u186 u187 u188 u189 u190 u191 u192 u193 u194 u195 u196 u197 u198 u199 u200 u201 u202 u203 u204 u205 u206 u207 u208 u209 u210 u211 u212 u213 u214 u215 u216 u217 u218 u219 u220 u221 u222 u223 u224 u225 u226 u227 u228 u229 u230 u231 u232 u233 u234 u235 u236 u237 u238 u239 u240 u241 u242 u243 u244 u245 u246 u247 u248 u249 u250 u251 u252 u253 u254 u255 u256 u257 u258 u259 u260 u261 u262 u263 u264 u265 u266 u267 u268 u269 u270 u271 u272 u273 u274 u275 u276 u277 u278 u279 u280 u281 u282 u283 u284 u285 u286 u287 u288 u289 u290 u291 u292 u293 u294 u295 u296 u297 u298 u299 u300 u301 u302 u303 u304 u305 u306 u307 u308 u309 u310 u311 u312 u313 u314 u315 u316 u317 u318 u319 u320 u321 u322 u323 u324 u325 u326 u327 u328 u329 u330 u331 u332 u333 u334 u335 u336 u337 u338 u339 u340 u341 u342 u343 u344 u345 u346 u347 u348 u349 u350 u351 u352 u353 u354 u355 u356 u357 u358 u359 u360 u361 u362 u363 u364 u365 u366 u367 u368 u369 u370 u371 u372 u373 u374 u375 u376 u377 u378 u379 u380 u381 u382 u383 u384 u385 u386 u387 u388 u389 u390 u391 u392 u393 u394 u395 u396 u397 u398 u399 u400 u401 u402 u403 u404 u405 u406 u407 u408 u409 u410 u411 u412 u413 u414 u415 u416 u417 u418 u419 u420 u421 u422 u423 u424 u425 u426 u427 u428 u429 u430 u431 u432 u433 u434 u435 u436 u437 u438 u439 u440 u441 u442 u443 u444 u445 u446 u447 u448 u449 u450 u451 u452 u453 u454 u455 u456 u457 u458 u459 u460 u461 u462 u463 u464 u465 u466 u467 u468 u469 u470 u471 u472 u473 u474 u475 u476 u477 u478 u479 u480 u481 u482 u483 u484 u485 u486 u487 u488 u489 u490 u491 u492 u493 u494 u495 u496 u497 u498 u499 u500 u501 u502 u503 u504 u505 u506 u507 u508 u509 u510 u511 u512 u513 u514 u515 u516 u517 u518 u519 u520 u521 u522 u523 u524 u525 u526 u527 u528 u529 u530 u531 u532 u533 u534 u535 u536 u537 u538 u539 u540 u541 u542 u543 u544 u545 u546 u547 u548 u549 u550 u551 u552 u553 u554 u555 u556 u557 u558 u559 u560 u561 u562 u563 u564 u565 u566 u567 u568 u569 u570 u571 u572 u573 u574 u575 u576 u577 u578 u579 u580 u581 u582 u583 u584 u585 u586 u587 u588 u589 u590 u591 u592 u593 u594 u595 u596 u597 u598 u599 u600 u601 u602 u603 u604 u605 u606 u607 u608 u609 u610 u611 u612 u613 u614 u615 u616 u617 u618 u619 u620 u621 u622 u623 u624 u625 u626 u627 u628 u629 u630 u631 u632 u633 u634 u635 u636 u637 u638 u639 u640 u641 u642 u643 u644 u645 u646 u647 u648 u649 u650 u651 u652 u653 u654 u655 u656 u657 u658 u659 u660 u661 u662 u663 u664 u665 u666 u667 u668 u669 u670 u671 u672 u673 u674 u675 u676 u677 u678 u679 u680 u681 u682 u683 u684 u685 u686 u687 u688 u689 u690 u691 u692 u693 u694 u695 u696 u697 u698 u699 u700 u701 u702 u703 u704 u705 u706 u707 u708 u709 u710 u711 u712 u713 u714 u715 u716 u717 u718 u719 u720 u721 u722 u723 u724 u725 u726 u727 u728 u729 u730 u731 u732 u733 u734 u735 u736 u737 u738 u739 u740 u741 u742 u743 u744 u745 u746 u747 u748 u749 u750 u751 u752 u753 u754 u755 u756 u757 u758 u759 u760 u761 u762 u763 u764 u765 u766 u767 u768 u769 u770 u771 u772 u773 : Value} (sc rc : Code) (hs : afterRegion 44 (Try.f5.body.getD .skip) = some (sc, rc)) :
    Code.wp Try.prog sc (Exit.then (Code.wp Try.prog rc (Post5 w0)) (Post5 w0)) ⟨#[.slice a0 n0 c0, .int .i64 (n3 : Int), .slice a2 n2 c2, .slice a3 n3 c3, .slice a4 n4 c4, .int .i64 (C : Int), .slice a6 n6 c6, u7, u8, u9, u10, u11, u12, u13, u14, .int .i64 (n0 : Int), u16, u17, u18, u19, u20, .int .i64 (n6 : Int), .slice (some ⟨kb, 0, none⟩) n0 n0, u23, u24, u25, u26, u27, u28, u29, u30, u31, u32, u33, u34, u35, u36, u37, u38, u39, u40, u41, u42, u43, u44, u45, u46, u47, u48, u49, u50, u51, u52, u53, u54, u55, u56, u57, u58, u59, u60, u61, u62, u63, u64, u65, u66, u67, u68, u69, u70, u71, u72, u73, u74, u75, u76, u77, u78, u79, u80, u81, u82, u83, u84, u85, u86, u87, u88, u89, u90, u91, u92, u93, u94, u95, u96, u97, u98, u99, u100, u101, u102, u103, u104, u105, u106, u107, u108, u109, u110, u111, u112, u113, u114, u115, u116, u117, u118, u119, u120, u121, u122, u123, u124, u125, u126, u127, u128, u129, u130, u131, u132, u133, u134, u135, u136, u137, u138, u139, u140, u141, u142, u143, u144, u145, u146, u147, u148, u149, u150, u151, u152, u153, u154, u155, u156, u157, u158, u159, u160, u161, u162, u163, u164, u165, u166, u167, u168, u169, u170, u171, u172, u173, u174, u175, u176, u177, u178, u179, u180, u181, u182, u183, u184, u185, u186, u187, u188, u189, u190, u191, u192, u193, u194, u195, u196, u197, u198, u199, u200, u201, u202, u203, u204, u205, u206, u207, u208, u209, u210, u211, u212, u213, u214, u215, u216, u217, u218, u219, u220, u221, u222, u223, u224, u225, u226, u227, u228, u229, u230, u231, u232, u233, u234, u235, u236, u237, u238, u239, u240, u241, u242, u243, u244, u245, u246, u247, u248, u249, u250, u251, u252, u253, u254, u255, u256, u257, u258, u259, u260, u261, u262, u263, u264, u265, u266, u267, u268, u269, u270, u271, u272, u273, u274, u275, u276, u277, u278, u279, u280, u281, u282, u283, u284, u285, u286, u287, u288, u289, u290, u291, u292, u293, u294, u295, u296, u297, u298, u299, u300, u301, u302, u303, u304, u305, u306, u307, u308, u309, u310, u311, u312, u313, u314, u315, u316, u317, u318, u319, u320, u321, u322, u323, u324, u325, u326, u327, u328, u329, u330, u331, u332, u333, u334, u335, u336, u337, u338, u339, u340, u341, u342, u343, u344, u345, u346, u347, u348, u349, u350, u351, u352, u353, u354, u355, u356, u357, u358, u359, u360, u361, u362, u363, u364, u365, u366, u367, u368, u369, u370, u371, u372, u373, u374, u375, u376, u377, u378, u379, u380, u381, u382, u383, u384, u385, u386, u387, u388, u389, u390, u391, u392, u393, u394, u395, u396, u397, u398, u399, u400, u401, u402, u403, u404, u405, u406, u407, u408, u409, u410, u411, u412, u413, u414, u415, u416, u417, u418, u419, u420, u421, u422, u423, u424, u425, u426, u427, u428, u429, u430, u431, u432, u433, u434, u435, u436, u437, u438, u439, u440, u441, u442, u443, u444, u445, u446, u447, u448, u449, u450, u451, u452, u453, u454, u455, u456, u457, u458, u459, u460, u461, u462, u463, u464, u465, u466, u467, u468, u469, u470, u471, u472, u473, u474, u475, u476, u477, u478, u479, u480, u481, u482, u483, u484, u485, u486, u487, u488, u489, u490, u491, u492, u493, u494, u495, u496, u497, u498, u499, u500, u501, u502, u503, u504, u505, u506, u507, u508, u509, u510, u511, u512, u513, u514, u515, u516, u517, u518, u519, u520, u521, u522, u523, u524, u525, u526, u527, u528, u529, u530, u531, u532, u533, u534, u535, u536, u537, u538, u539, u540, u541, u542, u543, u544, u545, u546, u547, u548, u549, u550, u551, u552, u553, u554, u555, u556, u557, u558, u559, u560, u561, u562, u563, u564, u565, u566, u567, u568, u569, u570, u571, u572, u573, u574, u575, u576, u577, u578, u579, u580, u581, u582, u583, u584, u585, u586, u587, u588, u589, u590, u591, u592, u593, u594, u595, u596, u597, u598, u599, u600, u601, u602, u603, u604, u605, u606, u607, u608, u609, u610, u611, u612, u613, u614, u615, u616, u617, u618, u619, u620, u621, u622, u623, u624, u625, u626, u627, u628, u629, u630, u631, u632, u633, u634, u635, u636, u637, u638, u639, u640, u641, u642, u643, u644, u645, u646, u647, u648, u649, u650, u651, u652, u653, u654, u655, u656, u657, u658, u659, u660, u661, u662, u663, u664, u665, u666, u667, u668, u669, u670, u671, u672, u673, u674, u675, u676, u677, u678, u679, u680, u681, u682, u683, u684, u685, u686, u687, u688, u689, u690, u691, u692, u693, u694, u695, u696, u697, u698, u699, u700, u701, u702, u703, u704, u705, u706, u707, u708, u709, u710, u711, u712, u713, u714, u715, u716, u717, u718, u719, u720, u721, u722, u723, u724, u725, u726, u727, u728, u729, u730, u731, u732, u733, u734, u735, u736, u737, u738, u739, u740, u741, u742, u743, u744, u745, u746, u747, u748, u749, u750, u751, u752, u753, u754, u755, u756, u757, u758, u759, u760, u761, u762, u763, u764, u765, u766, u767, u768, u769, u770, u771, u772, u773], []⟩ w := by
  unfold Post5
  conv at hs => lhs; whnf
  injection hs with hs
  injection hs with h1 h2
  subst h1 h2
  refine wp_any (fun KK hKK => ?_)
  conv => arg 4; dsimp only
  have H := hid hE
  have g0 := hE.g0
  have g2 := hE.g2
  have g3 := hE.g3
  have g4 := hE.g4
  have g6 := hE.g6
  have hC := hE.hC
  clear hE
  go_wp2_with fail
  refine (cloneNats_any a0 n0 c0 blk w ((H.out.r0.chg0 H.out.c).toNat (fun k hk => (H.out.hB k hk).1)) (by omega) H.out.z0).mono ?_
  rintro e w2 ⟨A0, rfl, s0, l0, k0⟩
  have S0 := hid (And.intro s0 (And.intro l0 k0))
  clear s0 l0 k0
  go_wp2_with fail
  refine (cloneInts_any a2 n2 c2 Wk w2 (H.out.r2.chg0 (H.out.c.trans S0.out.2.2)) (by omega) H.out.z2).mono ?_
  rintro e w3 ⟨A2, rfl, s0, l0, k0⟩
  have S2 := hid (And.intro s0 (And.intro l0 (And.intro k0 (S0.out.2.2.trans k0))))
  clear s0 l0 k0
  go_wp2_with fail
  refine (cloneBools_any a3 n3 c3 Vt w3 (H.out.r3.chg0 (H.out.c.trans S2.out.2.2.2)) (by omega) H.out.z3).mono ?_
  rintro e w4 ⟨A3, rfl, s0, l0, k0⟩
  obtain ⟨qb, rfl, hqr⟩ := s0.at hC
  have S3 := hid (And.intro hqr (And.intro l0 (And.intro k0 (S2.out.2.2.2.trans k0))))
  clear s0 l0 k0 hqr
  go_wp2_with fail
  refine (cloneInts_any a4 n4 c4 Vl w4 (H.out.r4.chg0 (H.out.c.trans S3.out.2.2.2)) (by omega) H.out.z4).mono ?_
  rintro e w5 ⟨A4, rfl, s0, l0, k0⟩
  have S4 := hid (And.intro s0 (And.intro l0 (And.intro k0 (S3.out.2.2.2.trans k0))))
  clear s0 l0 k0
  go_wp2_with fail
  refine (clonePairs_any a6 n6 c6 lo hi w5 (H.out.r6.chg0 (H.out.c.trans S4.out.2.2.2)) (by omega) H.out.z6).mono ?_
  rintro e w6 ⟨A6, rfl, s0, l0, k0⟩
  have hE : Hid (Env2 w0 w6 A0 A2 A4 A6 n0 n2 n3 n4 n6 C kb qb Wk Vt Vl blk lo' hi' vals mark) := by
    have h := H.out
    obtain ⟨p1, p2, p3⟩ := S0.out
    obtain ⟨q1, q2, q3, q4⟩ := S2.out
    obtain ⟨r1, r2, r3, r4⟩ := S3.out
    obtain ⟨t1, t2, t3, t4⟩ := S4.out
    have e0 := p1.lt
    have e2 := q1.lt
    have e3 := r1.lt
    have e4 := t1.lt
    have em := h.mrk.lt
    have r2' : w3.heap.size ≤ qb := r2 qb (by simp [blkOf])
    have z1 := p3.size
    have z2 := q3.size
    have z3 := r3.size
    have z4 := t3.size
    have z5 := k0.size
    have hc0 := h.c.size
    have hkb := h.kb0
    have i0 : ∀ x ∈ blkOf A0, w.heap.size ≤ x ∧ x < w2.heap.size := fun x hx => ⟨p2 x hx, e0 x hx⟩
    have i2 : ∀ x ∈ blkOf A2, w2.heap.size ≤ x ∧ x < w3.heap.size := fun x hx => ⟨q2 x hx, e2 x hx⟩
    have i4 : ∀ x ∈ blkOf A4, w4.heap.size ≤ x ∧ x < w5.heap.size := fun x hx => ⟨t2 x hx, e4 x hx⟩
    have c2 : Chg [] w2 w6 := q3.trans (r3.trans (t3.trans k0))
    have c3 : Chg [] w3 w6 := r3.trans (t3.trans k0)
    have c4 : Chg [] w4 w6 := t3.trans k0
    refine ⟨p1.chg c2 (by simp), q1.chg c3 (by simp), r1.chg c4 (by simp), t1.chg k0 (by simp), fun k hk => ?_, h.mrk.chg (p3.trans c2) (by simp), g0, g2, g3, g4, g6, hC, fun j hj => (h.hB j hj).2, h.pc, fun k hk => (h.lh k hk).2.2, h.vl, h.c.trans (p3.trans c2), fun x hx => ?_, fun x hx => ⟨fun hy => ?_, ?_, fun hy => ?_, fun hy => ?_⟩, fun x hx => ⟨?_, fun hy => ?_, fun hy => ?_⟩, ⟨fun hy => ?_, fun hy => ?_⟩, fun x hx => ?_⟩
    · obtain ⟨b, off, f1, f2, f3⟩ := s0 k hk
      have := h.lh k hk
      exact ⟨b, off, f1, by rw [f2, this.1], by rw [f3, this.2.1]⟩
    · simp only [List.mem_append, List.mem_singleton] at hx
      rcases hx with (((hx | hx) | hx) | hx) | hx
      · have := i0 x hx; omega
      · have := i2 x hx; omega
      · have := i4 x hx; omega
      · have := l0 x hx; omega
      · omega
    · have := i0 x hx; have := i2 x hy; omega
    · have := i0 x hx; omega
    · have := i0 x hx; have := i4 x hy; omega
    · have := i0 x hx; have := l0 x hy; omega
    · have := i2 x hx; omega
    · have := i2 x hx; have := i4 x hy; omega
    · have := i2 x hx; have := l0 x hy; omega
    · have := i4 _ hy; omega
    · have := l0 _ hy; omega
    · simp only [List.cons_append, List.mem_cons, List.mem_append] at hx
      rcases hx with hx | hx | ((hx | hx) | hx) | hx
      · omega
      · omega
      · have := i0 x hx; omega
      · have := i2 x hx; omega
      · have := i4 x hx; omega
      · have := l0 x hx; omega
  clear S0 S2 S3 S4 H s0 l0 k0
  go_wp2_with fail
  go_loopg [28, 29] n0 (fun g v i wr => ∃ k : Nat, k + g = n0 ∧ i = .int .i64 k ∧ v = .int .i64 (hits blk C k : Nat) ∧ w6 = wr)
  case atStart => exact ⟨0, by omega, rfl, rfl, rfl⟩
  case round =>
  obtain ⟨k, hkg, rfl, rfl, rfl⟩ := hrel
  by_cases hlt : k < n0
  · obtain ⟨b0, rfl, hrow⟩ := hE.out.s0.at hlt
    have r0 : w6.cell? ⟨b0, k, none⟩ = some (.int .i64 (blk k)) := hrow.read hlt
    have t0 : (k : Int) < (n0 : Int) := by omega
    have hle : hits blk C k ≤ k := cnt_le_self _ _
    have hsu := hits_succ blk C k
    obtain ⟨h, hh⟩ : ∃ h, h = hits blk C k := ⟨_, rfl⟩
    obtain ⟨y, hy⟩ : ∃ y, y = blk k := ⟨_, rfl⟩
    rw [← hh] at hle hsu ⊢
    rw [← hy] at r0 hsu
    have HS := hid hsu
    have t1 : IntKind.i64.wrap ((h : Int) + 1) = (h : Int) + 1 := by rw [IntKind.wrap_i64]; omega
    clear hrow hsu hh hy
    by_cases u : C = y
    · have HS2 := hid u
      have r1 : w6.cell? ⟨b0, k, none⟩ = some (.int .i64 (C : Int)) := by rw [r0, u]
      clear r0 u
      go_wp2_with fail
      go_roundg (n0 - (k + 1))
      case measure => omega
      case rel => exact ⟨k + 1, by omega, by simp, by rw [HS.out, if_pos HS2.out]; simp, rfl⟩
    · have t2 : ((y : Int) == (C : Int)) = false := by simp; omega
      have t3 : ¬ (y : Int) = (C : Int) := by omega
      go_wp2_with fail
      go_roundg (n0 - (k + 1))
      case measure => omega
      case rel => exact ⟨k + 1, by omega, by simp, by rw [HS.out, if_neg u]; rfl, rfl⟩
  obtain rfl : n0 = k := by omega
  have t0 : ¬ (n0 : Int) < (n0 : Int) := by omega
  clear hkg hlt
  go_wp2_with fail
  clear t0
  go_loopg [30, 31, 32, 33] n6 (fun g ip mx i sz wr => ∃ k d : Nat, k + g = n6 ∧ i = .int .i64 k ∧ ip = .int .i64 (sumTo (len2 lo' hi') k : Nat) ∧ mx = .int .i64 (mxTo (len2 lo' hi') k : Nat) ∧ wr = w6.drewN d)
  case atStart => exact ⟨0, 0, by omega, rfl, rfl, rfl, rfl⟩
  case round =>
  obtain ⟨k, d, hkg, rfl, rfl, rfl, rfl⟩ := hrel
  have hln : ∀ k, k < n6 → len2 lo' hi' k ≤ 131072 := fun k hk => by have := hE.out.hn k hk; unfold len2; omega
  have hsum : sumTo (len2 lo' hi') k ≤ k * 131072 := sum_small _ _ k (fun i hi => hln i (by omega))
  by_cases hlt : k < n6
  · obtain ⟨b, off, rfl, p0, p1⟩ := hE.out.s6 k hlt
    have t0 : (k : Int) < (n6 : Int) := by omega
    have hle := hE.out.pc.le k hlt
    have hhi := hE.out.hn k hlt
    have hs1 : sumTo (len2 lo' hi') (k + 1) = sumTo (len2 lo' hi') k + (hi' k - lo' k) := rfl
    have hm1 : mxTo (len2 lo' hi') (k + 1) = if mxTo (len2 lo' hi') k < hi' k - lo' k then hi' k - lo' k else mxTo (len2 lo' hi') k := rfl
    have hk2 := Nat.mul_le_mul_right 131072 (show k ≤ 65536 by omega)
    obtain ⟨S, hS⟩ : ∃ S, S = sumTo (len2 lo' hi') k := ⟨_, rfl⟩
    obtain ⟨M, hM⟩ : ∃ M, M = mxTo (len2 lo' hi') k := ⟨_, rfl⟩
    obtain ⟨A, hA⟩ : ∃ A, A = lo' k := ⟨_, rfl⟩
    obtain ⟨D, hD⟩ : ∃ D, D = hi' k := ⟨_, rfl⟩
    have p0' : w6.cell? ⟨b, off + k * 2, none⟩ = some (.int .i64 (A : Int)) := by rw [hA]; exact p0
    have p1' : w6.cell? ⟨b, off + k * 2 + 1, none⟩ = some (.int .i64 (D : Int)) := by rw [hD]; exact p1
    rw [← hS] at hsum hs1 ⊢
    rw [← hM] at hm1 ⊢
    rw [← hA] at hle hs1 hm1
    rw [← hD] at hle hhi hs1 hm1
    have HS := hid (And.intro hs1 hm1)
    clear p0 p1 hs1 hm1 hS hM hA hD
    have t1 : IntKind.i64.wrap ((D : Int) - (A : Int)) = ((D - A : Nat) : Int) := by rw [IntKind.wrap_i64]; omega
    have t2 : IntKind.i64.wrap ((S : Int) + ((D - A : Nat) : Int)) = ((S + (D - A) : Nat) : Int) := by rw [IntKind.wrap_i64]; omega
    by_cases u : M < D - A
    · have t3 : (M : Int) < ((D - A : Nat) : Int) := by omega
      go_wp2_with fail
      go_quiet (fail)
      go_wp2_with fail
      go_roundg (n6 - (k + 1))
      case measure => omega
      case rel => exact ⟨k + 1, _, by omega, by simp, by rw [HS.out.1]; simp, by rw [HS.out.2, if_pos u], rfl⟩
    · have t3 : ¬ (M : Int) < ((D - A : Nat) : Int) := by omega
      go_wp2_with fail
      go_quiet (fail)
      go_wp2_with fail
      go_roundg (n6 - (k + 1))
      case measure => omega
      case rel => exact ⟨k + 1, _, by omega, by simp, by rw [HS.out.1]; simp, by rw [HS.out.2, if_neg u], rfl⟩
  obtain rfl : n6 = k := by omega
  have t0 : ¬ (n6 : Int) < (n6 : Int) := by omega
  have hE2 := hE.out.chg0 (drewN_chg w6 d)
  go_upto_region 64 with fail
  refine wp_mono (tail64 hE2 _ _ rfl) ?_
  intro e a w' h
  cases e
  case normal => exact ‹∀ (a : Act) (w : World), Code.wp _ _ _ a w → _› a w' h
  all_goals exact h
end Go.Proofs.Qxb6601951a
