import Derived.Test.Qxb6601951aT164
namespace Go.Proofs.Qxb6601951a
open Go.RowKit

set_option maxHeartbeats 40000000 in
set_option maxRecDepth 1000000 in
theorem tail141 {w0 w : World} {A0 B0 B2 M0 wa : Option Addr} {n0 n2 N n6 C kb qb ib zb ub b3 t0 f0 mb ab sb eb s cs ce wn wc qc : Nat} {Wk W : Nat → Int} {Vt V : Nat → Bool} {blk lo hi vals mark : Nat → Nat} {idx : Nat → Int} {ss : Nat → Nat} {kp : Nat} {P0 P : Pt}
    (hE : Env5 w0 w A0 B0 B2 M0 wa n0 n2 N n6 C kb qb ib zb ub b3 t0 f0 mb ab sb eb s cs ce wn wc qc Wk W Vt V blk lo hi vals mark idx ss kp P0 P)
    {u0 u2 u3 u4 u6 u7 u8 u9 u10 u11 u12 u13 u14 u16 u17 u18 u19 u20 u21 u23 u24 u25 u26 u27 u28 u29 u30 u31 u32 u33 u34 u35 u36 u41 u43 u45 u46 u47 u48 u49 u50 u54 u56 u57 u60 u61 u69 u70 u71 u72 u73 u74 u75 u76 u77 u78 u79 u80 u81 u82 u83 u84 u85 u86 u87 u88 u89 u90 u91 u92 u93 u94 u95 u96 u97 u98 u99 u100 u101 u102 u103 u104 u105 u106 u107 u108 u109 u110 u111 u112 u113 u114 u115 u116 u117 u118 u119 u120 u121 u122 u123 u124 u125 u126 u127 u128 u129 u130 u131 u132 u133 u134 u135 u136 u137 u138 u139 u140 u141 u142 u143 u144 u145 u146 u147 u148 u149 u150 u151 u152 u153 u154 u155 u156 u157 u158 u159 u160 u161 u162 u163 u164 u165 u166 u167 u168 u169 u170 u171 u172 u173 u174 u175 u176 u177 u178 u179 u180 u181 u182 u183 u184 u185 u186 u187 u188 u189 u190 u191 u192 u193 u194 u195 u196 u197 u198 u199 u200 u201 u202 u203 u204 u205 u206 u207 u208 u209 u210 u211 u212 u213 u214 u215 u216 u217 u218 u219 u220 u221 u222 u223 u224 u225 u226 u227 u228 u229 u230 u231 u232 u233 u234 u235 u236 u237 u238 u239 u240 u241 u242 u243 u244 u245 u246 u247 u248 u249 u250 u251 u252 u253 u254 u255 u256 u257 u258 u259 u260 u261 u262 u263 u264 u265 u266 u267 u268 u269 u270 u271 u272 u273 u274 u275 u276 u277 u278 u279 u280 u281 u282 u283 u284 u285 u286 u287 u288 u289 u290 u291 u292 u293 u294 u295 u296 u297 u298 u299 u300 u301 u302 u303 u304 u305 u306 u307 u308 u309 u310 u311 u312 u313 u314 u315 u316 u317 u318 u319 u320 u321 u322 u323 u324 u325 u326 u327 u328 u329 u330 u331 u332 u333 u334 u335 u336 u337 u338 u339 u340 u341 u342 u343 u344 u345 u346 u347 u348 u349 u350 u351 u352 u353 u354 u355 u356 u357 u358 u359 u360 u361 u362 u363 u364 u365 u366 u367 u368 u369 u370 u371 u372 u373 u374 u375 u376 u377 u378 u379 u380 u381 u382 u383 u384 u385 u386 u387 u388 u389 u390 u391 u392 u393 u394 u395 u396 u397 u398 u399 u400 u401 u402 u403 u404 u405 u406 u407 u408 u409 u410 u411 u412 u413 u414 u415 u416 u417 u418 u419 u420 u421 u422 u423 u424 u425 u426 u427 u428 u429 u430 u431 u432 u433 u434 u435 u436 u437 u438 u439 u440 u441 u442 u443 u444 u445 u446 u447 u448 u449 u450 u451 u452 u453 u454 u455 u456 u457 u458 u459 u460 u461 u462 u463 u464 u465 u466 u467 u468 u469 u470 u471 u472 u473 u474 u475 u476 u477 u478 u479 u480 u481 u482 u483 u484 u485 u486 u487 u488 u489 u490 u491 u492 u493 u494 u495 u496 u497 u498 u499 u500 u501 u502 u503 u504 u505 u506 u507 u508 u509 u510 u511 u512 u513 u514 u515 u516 u517 u518 u519 u520 u521 u522 u523 u524 u525 u526 u527 u528 u529 u530 u531 u532 u533 u534 u535 u536 u537 u538 u539 u540 u541 u542 u543 u544 u545 u546 u547 u548 u549 u550 u551 u552 u553 u554 u555 u556 u557 u558 u559 u560 u561 u562 u563 u564 u565 u566 u567 u568 u569 u570 u571 u572 u573 u574 u575 u576 u577 u578 u579 u580 u581 u582 u583 u584 u585 u586 u587 u588 u589 u590 u591 u592 u593 u594 u595 u596 u597 u598 u599 u600 u601 u602 u603 u604 u605 u606 u607 u608 u609 u610 u611 u612 u613 u614 u615 u616 u617 u618 u619 u620 u621 u622 u623 u624 u625 u626 u627 u628 u629 u630 u631 u632 u633 u634 u635 u636 u637 u638 u639 u640 u641 u642 u643 u644 u645 u646 u647 u648 u649 u650 u651 u652 u653 u654 u655 u656 u657 u658 u659 u660 u661 u662 u663 u664 u665 u666 u667 u668 u669 u670 u671 u672 u673 u674 u675 u676 u677 u678 u679 u680 u681 u682 u683 u684 u685 u686 u687 u688 u689 u690 u691 u692 u693 u694 u695 u696 u697 u698 u699 u700 u701 u702 u703 u704 u705 u706 u707 u708 u709 u710 u711 u712 u713 u714 u715 u716 u717 u718 u719 u720 u721 u722 u723 u724 u725 u726 u727 u728 u729 u730 u731 u732 u733 u734 u735 u736 u737 u738 u739 u740 u741 u742 u743 u744 u745 u746 u747 u748 u749 u750 u751 u752 u753 u754 u755 u756 u757 u758 u759 u760 u761 u762 u763 u764 u765 u766 u767 u768 u769 u770 u771 u772 u773 : Value} (sc rc : Code) (hs : afterRegion 141 (Try.f5.body.getD .skip) = some (sc, rc)) :
    Code.wp Try.prog sc (Exit.then (Code.wp Try.prog rc (Post5 w0)) (Post5 w0)) ⟨#[u0, .int .i64 (N : Int), u2, u3, u4, .int .i64 (C : Int), u6, u7, u8, u9, u10, u11, u12, u13, u14, .int .i64 (n0 : Int), u16, u17, u18, u19, u20, u21, .slice (some ⟨kb, 0, none⟩) n0 n0, u23, u24, u25, u26, u27, u28, u29, u30, u31, u32, u33, u34, u35, u36, .slice (some ⟨ib, 0, none⟩) n6 n6, .slice (some ⟨zb, 0, none⟩) n6 n6, .int .i64 (s : Int), .int .i64 (sumTo ss s : Nat), u41, .int .i64 ((N + s : Nat) : Int), u43, .slice (some ⟨ub, 0, none⟩) (N + s) (N + s), u45, u46, u47, u48, u49, u50, .slice B0 n0 n0, .slice B2 n2 n2, .slice (some ⟨b3, 0, none⟩) N N, u54, .slice M0 n0 n0, u56, u57, .slice (some ⟨t0, 0, none⟩) N N, .slice (some ⟨f0, 0, none⟩) N N, u60, u61, .slice (some ⟨mb, 0, none⟩) n0 n0, .slice (some ⟨ab, 0, none⟩) n0 n0, .slice A0 n0 n0, .slice (some ⟨sb, 0, none⟩) (N + s) cs, .slice (some ⟨eb, 0, none⟩) (N + s) ce, .slice wa wn wc, .slice (some ⟨qb, 0, none⟩) (N + s) qc, u69, u70, u71, u72, u73, u74, u75, u76, u77, u78, u79, u80, u81, u82, u83, u84, u85, u86, u87, u88, u89, u90, u91, u92, u93, u94, u95, u96, u97, u98, u99, u100, u101, u102, u103, u104, u105, u106, u107, u108, u109, u110, u111, u112, u113, u114, u115, u116, u117, u118, u119, u120, u121, u122, u123, u124, u125, u126, u127, u128, u129, u130, u131, u132, u133, u134, u135, u136, u137, u138, u139, u140, u141, u142, u143, u144, u145, u146, u147, u148, u149, u150, u151, u152, u153, u154, u155, u156, u157, u158, u159, u160, u161, u162, u163, u164, u165, u166, u167, u168, u169, u170, u171, u172, u173, u174, u175, u176, u177, u178, u179, u180, u181, u182, u183, u184, u185, u186, u187, u188, u189, u190, u191, u192, u193, u194, u195, u196, u197, u198, u199, u200, u201, u202, u203, u204, u205, u206, u207, u208, u209, u210, u211, u212, u213, u214, u215, u216, u217, u218, u219, u220, u221, u222, u223, u224, u225, u226, u227, u228, u229, u230, u231, u232, u233, u234, u235, u236, u237, u238, u239, u240, u241, u242, u243, u244, u245, u246, u247, u248, u249, u250, u251, u252, u253, u254, u255, u256, u257, u258, u259, u260, u261, u262, u263, u264, u265, u266, u267, u268, u269, u270, u271, u272, u273, u274, u275, u276, u277, u278, u279, u280, u281, u282, u283, u284, u285, u286, u287, u288, u289, u290, u291, u292, u293, u294, u295, u296, u297, u298, u299, u300, u301, u302, u303, u304, u305, u306, u307, u308, u309, u310, u311, u312, u313, u314, u315, u316, u317, u318, u319, u320, u321, u322, u323, u324, u325, u326, u327, u328, u329, u330, u331, u332, u333, u334, u335, u336, u337, u338, u339, u340, u341, u342, u343, u344, u345, u346, u347, u348, u349, u350, u351, u352, u353, u354, u355, u356, u357, u358, u359, u360, u361, u362, u363, u364, u365, u366, u367, u368, u369, u370, u371, u372, u373, u374, u375, u376, u377, u378, u379, u380, u381, u382, u383, u384, u385, u386, u387, u388, u389, u390, u391, u392, u393, u394, u395, u396, u397, u398, u399, u400, u401, u402, u403, u404, u405, u406, u407, u408, u409, u410, u411, u412, u413, u414, u415, u416, u417, u418, u419, u420, u421, u422, u423, u424, u425, u426, u427, u428, u429, u430, u431, u432, u433, u434, u435, u436, u437, u438, u439, u440, u441, u442, u443, u444, u445, u446, u447, u448, u449, u450, u451, u452, u453, u454, u455, u456, u457, u458, u459, u460, u461, u462, u463, u464, u465, u466, u467, u468, u469, u470, u471, u472, u473, u474, u475, u476, u477, u478, u479, u480, u481, u482, u483, u484, u485, u486, u487, u488, u489, u490, u491, u492, u493, u494, u495, u496, u497, u498, u499, u500, u501, u502, u503, u504, u505, u506, u507, u508, u509, u510, u511, u512, u513, u514, u515, u516, u517, u518, u519, u520, u521, u522, u523, u524, u525, u526, u527, u528, u529, u530, u531, u532, u533, u534, u535, u536, u537, u538, u539, u540, u541, u542, u543, u544, u545, u546, u547, u548, u549, u550, u551, u552, u553, u554, u555, u556, u557, u558, u559, u560, u561, u562, u563, u564, u565, u566, u567, u568, u569, u570, u571, u572, u573, u574, u575, u576, u577, u578, u579, u580, u581, u582, u583, u584, u585, u586, u587, u588, u589, u590, u591, u592, u593, u594, u595, u596, u597, u598, u599, u600, u601, u602, u603, u604, u605, u606, u607, u608, u609, u610, u611, u612, u613, u614, u615, u616, u617, u618, u619, u620, u621, u622, u623, u624, u625, u626, u627, u628, u629, u630, u631, u632, u633, u634, u635, u636, u637, u638, u639, u640, u641, u642, u643, u644, u645, u646, u647, u648, u649, u650, u651, u652, u653, u654, u655, u656, u657, u658, u659, u660, u661, u662, u663, u664, u665, u666, u667, u668, u669, u670, u671, u672, u673, u674, u675, u676, u677, u678, u679, u680, u681, u682, u683, u684, u685, u686, u687, u688, u689, u690, u691, u692, u693, u694, u695, u696, u697, u698, u699, u700, u701, u702, u703, u704, u705, u706, u707, u708, u709, u710, u711, u712, u713, u714, u715, u716, u717, u718, u719, u720, u721, u722, u723, u724, u725, u726, u727, u728, u729, u730, u731, u732, u733, u734, u735, u736, u737, u738, u739, u740, u741, u742, u743, u744, u745, u746, u747, u748, u749, u750, u751, u752, u753, u754, u755, u756, u757, u758, u759, u760, u761, u762, u763, u764, u765, u766, u767, u768, u769, u770, u771, u772, u773], []⟩ w := by
  unfold Post5
  conv at hs => lhs; whnf
  injection hs with hs
  injection hs with h1 h2
  subst h1 h2
  refine wp_any (fun KK hKK => ?_)
  conv => arg 4; dsimp only
  have H := hid hE
  have g0 := hE.g0
  have g2 := hE.g2
  have g3 := hE.g3
  have g6 := hE.g6
  have hC := hE.hC
  have hnws := nw_self kp n6
  have hs := hE.hs
  rw [← hs] at hnws
  clear hE hs
  obtain ⟨T, hT⟩ : ∃ T, T = sumTo ss s := ⟨_, rfl⟩
  rw [← hT]
  have HT := hid hT
  clear hT
  have hroom := H.out.ran.room
  rw [← H.out.hs] at hroom
  have hse := H.out.ok0.se C hC
  have re : w.cell? ⟨f0, C, none⟩ = some (.int .i64 (P0.en C)) := H.out.re.read hC
  obtain ⟨E, hE'⟩ : ∃ E, E = P0.en C := ⟨_, rfl⟩
  rw [← hE'] at re hroom hse
  have HE := hid hE'
  clear hE'
  have tC : (C : Int) < (N : Int) := by omega
  go_wp2_with fail
  clear re
  go_loopg [73, 74] s (fun g v i wr => ∃ j d : Nat, j + g = s ∧ i = .int .i64 j ∧ v = .int .i64 ((E - sumTo ss j : Nat) : Int) ∧ wr = w.drewN d)
  case atStart => exact ⟨0, 0, by omega, rfl, rfl, rfl⟩
  case round =>
  obtain ⟨j, d, hjg, rfl, rfl, rfl⟩ := hrel
  by_cases hlt : j < s
  · have t0' : (j : Int) < (s : Int) := by omega
    have r0 : w.cell? ⟨eb, N + j, none⟩ = some (.int .i64 (P.en (N + j))) := H.out.en.read (by omega)
    have r1 : w.cell? ⟨sb, N + j, none⟩ = some (.int .i64 (P.st (N + j))) := H.out.st.read (by omega)
    have r2 : w.cell? ⟨zb, j, none⟩ = some (.int .i64 (ss j)) := H.out.rz.read (by omega)
    obtain ⟨h1, h2⟩ := H.out.ran.new j (by rw [← H.out.hs]; exact hlt)
    have h3 : sumTo ss (j + 1) = sumTo ss j + ss j := rfl
    have h4 := sumTo_le (f := ss) (show j + 1 ≤ s by omega)
    rw [h1, ← HE.out] at r0
    rw [h2, ← HE.out] at r1
    rw [h3] at h4 r1
    obtain ⟨X, hX⟩ : ∃ X, X = sumTo ss j := ⟨_, rfl⟩
    obtain ⟨z, hz⟩ : ∃ z, z = ss j := ⟨_, rfl⟩
    rw [← hX] at r0 r1 h3 h4 ⊢
    rw [← hz] at r1 r2 h3 h4
    obtain ⟨U, hU⟩ : ∃ U, U = E - X := ⟨_, rfl⟩
    rw [← hU] at r0 ⊢
    have hzU : z ≤ U := by omega
    have e3 : E - (X + z) = U - z := by omega
    rw [e3] at r1
    have HS : Hid (E - sumTo ss (j + 1) = U - z) := by rw [h3]; exact e3
    have hU1 : U ≤ 131072 := by omega
    clear hX hz hU h1 h2 h3 h4 e3
    have t1 : IntKind.i64.wrap ((N : Int) + (j : Int)) = ((N + j : Nat) : Int) := by rw [IntKind.wrap_i64]; omega
    have t2 : IntKind.i64.wrap ((U : Int) - (z : Int)) = ((U - z : Nat) : Int) := by rw [IntKind.wrap_i64]; omega
    have t3 : ((N + j : Nat) : Int) < ((N + s : Nat) : Int) := by omega
    have t3' : (N : Int) + (j : Int) < (N : Int) + (s : Int) := by omega
    have t4 : (j : Int) < (n6 : Int) := by omega
    have e9 : ((N : Int) + (j : Int)).toNat = N + j := by omega
    go_wp2_with fail
    go_quiet (fail)
    go_wp2_with fail
    go_roundg (s - (j + 1))
    case measure => omega
    case rel => exact ⟨j + 1, _, by omega, by simp, by rw [HS.out], rfl⟩
  obtain rfl : s = j := by omega
  have t0' : ¬ (s : Int) < (s : Int) := by omega
  clear hjg hlt
  go_wp2_with fail
  clear t0'
  have r5 : w.cell? ⟨t0, C, none⟩ = some (.int .i64 (P0.st C)) := H.out.rs.read hC
  have r6 : w.cell? ⟨f0, C, none⟩ = some (.int .i64 E) := by rw [HE.out]; exact H.out.re.read hC
  obtain ⟨a, ha⟩ : ∃ a, a = P0.st C := ⟨_, rfl⟩
  rw [← ha] at r5 hroom hse
  have HA := hid ha
  clear ha
  go_loopg [75, 76] n0 (fun g i v wr => ∃ k d : Nat, k + g = n0 ∧ i = .int .i64 k ∧ wr = w.drewN d)
  case atStart => exact ⟨0, d, by omega, rfl, rfl⟩
  case round =>
  obtain ⟨k, d, hkg, rfl, rfl⟩ := hrel
  by_cases hlt : k < n0
  · have t0' : (k : Int) < (n0 : Int) := by omega
    have r0 : w.cell? ⟨mb, k, none⟩ = some (.int .i64 (P.mem k)) := H.out.mem.read hlt
    obtain ⟨b, off, e1, r1'⟩ := H.out.m0 k hlt
    subst e1
    have r1 : w.cell? ⟨b, off + k, none⟩ = some (.int .i64 (P0.mem k)) := r1'
    have hm := H.out.ran.mem k hlt
    have hsa := H.out.ran.same
    rw [← H.out.hs] at hsa
    rw [← HA.out, ← HE.out] at hm
    obtain ⟨y, hy⟩ : ∃ y, y = P0.mem k := ⟨_, rfl⟩
    obtain ⟨z, hz⟩ : ∃ z, z = P.mem k := ⟨_, rfl⟩
    rw [← hy] at r1
    rw [← hz] at r0
    have hyz : (s = 0 ∨ ¬ (a ≤ k ∧ k < E)) → z = y := fun h => by
      rw [hy, hz]
      rcases h with h | h
      · exact hsa h k hlt
      · exact hm h
    have HYZ := hid hyz
    clear r1' hm hsa hy hz hyz
    by_cases u1 : a ≤ k
    · have t1 : decide ((a : Int) ≤ (k : Int)) = true := by simp; omega
      have t1n : (a : Int) ≤ (k : Int) := by omega
      by_cases u2 : k < E
      · have t2 : decide ((k : Int) < (E : Int)) = true := by simp; omega
        have t2n : (k : Int) < (E : Int) := by omega
        by_cases u3 : s = 0
        · have t5 : ((s : Int) == 0) = true := by simp; omega
          have t5n : decide (s = 0) = true := by simp; omega
          have HU3 := hid u3
          clear u3
          have hzy := HYZ.out (Or.inl HU3.out)
          subst hzy
          go_wp2_with fail
          go_quiet (fail)
          go_wp2_with fail
          go_roundg (n0 - (k + 1))
          case measure => omega
          case rel => exact ⟨k + 1, _, by omega, by simp, rfl⟩
        · have t5 : ((s : Int) == 0) = false := by simp; omega
          have t5n : decide (s = 0) = false := by simp; omega
          have t5m : ¬ (s : Int) = 0 := by omega
          go_wp2_with fail
          go_quiet (fail)
          go_wp2_with fail
          go_roundg (n0 - (k + 1))
          case measure => omega
          case rel => exact ⟨k + 1, _, by omega, by simp, rfl⟩
      · have t2 : decide ((k : Int) < (E : Int)) = false := by simp; omega
        have t2n : decide (k < E) = false := by simp; omega
        have t2m : ¬ (k : Int) < (E : Int) := by omega
        by_cases u3 : s = 0
        · have t5 : ((s : Int) == 0) = true := by simp; omega
          have t5n : decide (s = 0) = true := by simp; omega
          have HU3 := hid u3
          clear u3
          have hzy := HYZ.out (Or.inl HU3.out)
          subst hzy
          go_wp2_with fail
          go_quiet (fail)
          go_wp2_with fail
          go_roundg (n0 - (k + 1))
          case measure => omega
          case rel => exact ⟨k + 1, _, by omega, by simp, rfl⟩
        · have t5 : ((s : Int) == 0) = false := by simp; omega
          have t5n : decide (s = 0) = false := by simp; omega
          have t5m : ¬ (s : Int) = 0 := by omega
          have hzy := HYZ.out (Or.inr (by omega))
          subst hzy
          go_wp2_with fail
          go_quiet (fail)
          go_wp2_with fail
          go_roundg (n0 - (k + 1))
          case measure => omega
          case rel => exact ⟨k + 1, _, by omega, by simp, rfl⟩
    · have t1 : decide ((a : Int) ≤ (k : Int)) = false := by simp; omega
      have t1n : decide (a ≤ k) = false := by simp; omega
      have t1m : ¬ (a : Int) ≤ (k : Int) := by omega
      by_cases u3 : s = 0
      · have t5 : ((s : Int) == 0) = true := by simp; omega
        have t5n : decide (s = 0) = true := by simp; omega
        have HU3 := hid u3
        clear u3
        have hzy := HYZ.out (Or.inl HU3.out)
        subst hzy
        go_wp2_with fail
        go_quiet (fail)
        go_wp2_with fail
        go_roundg (n0 - (k + 1))
        case measure => omega
        case rel => exact ⟨k + 1, _, by omega, by simp, rfl⟩
      · have t5 : ((s : Int) == 0) = false := by simp; omega
        have t5n : decide (s = 0) = false := by simp; omega
        have t5m : ¬ (s : Int) = 0 := by omega
        have hzy := HYZ.out (Or.inr (by omega))
        subst hzy
        go_wp2_with fail
        go_quiet (fail)
        go_wp2_with fail
        go_roundg (n0 - (k + 1))
        case measure => omega
        case rel => exact ⟨k + 1, _, by omega, by simp, rfl⟩
  obtain rfl : n0 = k := by omega
  have t0' : ¬ (n0 : Int) < (n0 : Int) := by omega
  have hwt := H.out.wt
  clear hkg hlt r5 r6
  obtain ⟨w5, hw5⟩ : ∃ w5, w.drewN d = w5 := ⟨_, rfl⟩
  have hE5 := hid (H.out.chg0 (drewN_chg w d))
  rw [hw5] at hE5 ⊢
  clear hw5 H
  go_wp2_with fail
  clear t0' hwt
  go_loopg [77, 78] (N + s) (fun g i v wr => ∃ k : Nat, k + g = N + s ∧ i = .int .i64 k ∧ w5 = wr)
  case atStart => exact ⟨0, by omega, rfl, rfl⟩
  case round =>
  obtain ⟨k, hkg, rfl, rfl⟩ := hrel
  by_cases hlt : k < N + s
  · have t0' : (k : Int) < ((N + s : Nat) : Int) := by omega
    have t0'' : (k : Int) < (N : Int) + (s : Int) := by omega
    have r0 : w5.cell? ⟨ub, k, none⟩ = some (.bool (quOf Vt N C blk n0 ss s k)) := hE5.out.ru.read hlt
    have r1 : w5.cell? ⟨qb, k, none⟩ = some (.bool (V k)) := hE5.out.wt.read hlt
    rw [hE5.out.qu.v k] at r1
    simp only [hlt, decide_true, Bool.true_and] at r1
    obtain ⟨qv, hqv⟩ : ∃ qv, qv = quOf Vt N C blk n0 ss s k := ⟨_, rfl⟩
    rw [← hqv] at r0 r1
    clear hqv
    by_cases u : k < N
    · have t1 : decide ((k : Int) < (N : Int)) = true := by simp; omega
      have t1n : (k : Int) < (N : Int) := by omega
      have r2 : w5.cell? ⟨b3, k, none⟩ = some (.bool (Vt k)) := hE5.out.gv.read u
      simp only [u, decide_true, Bool.true_and] at r1
      obtain ⟨vv, hvv⟩ : ∃ vv, vv = Vt k := ⟨_, rfl⟩
      rw [← hvv] at r1 r2
      clear hvv
      cases vv
      · cases qv
        · simp only [Bool.or_false] at r1
          go_wp2_with fail
          go_roundg (N + s - (k + 1))
          case measure => omega
          case rel => exact ⟨k + 1, by omega, by simp, rfl⟩
        · simp only [Bool.or_true] at r1
          go_wp2_with fail
          go_roundg (N + s - (k + 1))
          case measure => omega
          case rel => exact ⟨k + 1, by omega, by simp, rfl⟩
      · cases qv
        · simp only [Bool.or_false] at r1
          go_wp2_with fail
          go_roundg (N + s - (k + 1))
          case measure => omega
          case rel => exact ⟨k + 1, by omega, by simp, rfl⟩
        · simp only [Bool.or_true] at r1
          go_wp2_with fail
          go_roundg (N + s - (k + 1))
          case measure => omega
          case rel => exact ⟨k + 1, by omega, by simp, rfl⟩
    · have t1 : decide ((k : Int) < (N : Int)) = false := by simp; omega
      have t1n : decide (k < N) = false := by simp; omega
      have t1m : ¬ (k : Int) < (N : Int) := by omega
      simp only [u, decide_false, Bool.false_and, Bool.false_or] at r1
      cases qv
      · go_wp2_with fail
        go_roundg (N + s - (k + 1))
        case measure => omega
        case rel => exact ⟨k + 1, by omega, by simp, rfl⟩
      · go_wp2_with fail
        go_roundg (N + s - (k + 1))
        case measure => omega
        case rel => exact ⟨k + 1, by omega, by simp, rfl⟩
  have t0' : ¬ (k : Int) < ((N + s : Nat) : Int) := by omega
  have t0'' : ¬ (k : Int) < (N : Int) + (s : Int) := by omega
  have hE6 := hE5.out
  rw [HT.out]
  go_upto_region 164 with fail
  refine wp_mono (tail164 hE6 _ _ rfl) ?_
  intro e a w' h
  cases e
  case normal => exact ‹∀ (a : Act) (w : World), Code.wp _ _ _ a w → _› a w' h
  all_goals exact h
end Go.Proofs.Qxb6601951a
