import Derived.Test.Qxb6601951aT113
namespace Go.Proofs.Qxb6601951a
open Go.RowKit

set_option maxHeartbeats 40000000 in
set_option maxRecDepth 1000000 in
theorem tail85 {w0 w : World} {A0 A2 A4 A6 : Option Addr} {n0 n2 N n4 n6 C kb qb ib zb : Nat} {Wk : Nat → Int} {Vt : Nat → Bool} {Vl : Nat → Int} {blk lo hi vals mark : Nat → Nat} {idx : Nat → Int} {ss : Nat → Nat} {kp : Nat}
    (hE : Env3 w0 w A0 A2 A4 A6 n0 n2 N n4 n6 C kb qb ib zb Wk Vt Vl blk lo hi vals mark idx ss kp)
    {u7 u8 u9 u10 u11 u12 u13 u14 u16 u17 u18 u19 u20 u23 u24 u25 u26 u27 u29 u30 u31 u32 u33 u34 u35 u36 u41 u42 u43 u44 u45 u46 u47 u48 u49 u50 u51 u52 u53 u54 u55 u56 u57 u58 u59 u60 u61 u62 u63 u64 u65 u66 u67 u68 u69 u70 u71 u72 u73 u74 u75 u76 u77 u78 u79 u80 u81 u82 u83 u84 u85 u86 u87 u88 u89 u90 u91 u92 u93 u94 u95 u96 u97 u98 u99 u100 u101 u102 u103 u104 u105 u106 u107 u108 u109 u110 u111 u112 u113 u114 u115 u116 u117 u118 u119 u120 u121 u122 u123 u124 u125 u126 u127 u128 u129 u130 u131 u132 u133 u134 u135 u136 u137 u138 u139 u140 u141 u142 u143 u144 u145 u146 u147 u148 u149 u150 u151 u152 u153 u154 u155 u156 u157 u158 u159 u160 u161 u162 u163 u164 u165 u166 u167 u168 u169 u170 u171 u172 u173 u174 u175 u176 u177 u178 u179 u180 u181 u182 u183 u184 u185 u186 u187 u188 u189 u190 u191 u192 u193 u194 u195 u196 u197 u198 u199 u200 u201 u202 u203 u204 u205 u206 u207 u208 u209 u210 u211 u212 u213 u214 u215 u216 u217 u218 u219 u220 u221 u222 u223 u224 u225 u226 u227 u228 u229 u230 u231 u232 u233 u234 u235 u236 u237 u238 u239 u240 u241 u242 u243 u244 u245 u246 u247 u248 u249 u250 u251 u252 u253 u254 u255 u256 u257 u258 u259 u260 u261 u262 u263 u264 u265 u266 u267 u268 u269 u270 u271 u272 u273 u274 u275 u276 u277 u278 u279 u280 u281 u282 u283 u284 u285 u286 u287 u288 u289 u290 u291 u292 u293 u294 u295 u296 u297 u298 u299 u300 u301 u302 u303 u304 u305 u306 u307 u308 u309 u310 u311 u312 u313 u314 u315 u316 u317 u318 u319 u320 u321 u322 u323 u324 u325 u326 u327 u328 u329 u330 u331 u332 u333 u334 u335 u336 u337 u338 u339 u340 u341 u342 u343 u344 u345 u346 u347 u348 u349 u350 u351 u352 u353 u354 u355 u356 u357 u358 u359 u360 u361 u362 u363 u364 u365 u366 u367 u368 u369 u370 u371 u372 u373 u374 u375 u376 u377 u378 u379 u380 u381 u382 u383 u384 u385 u386 u387 u388 u389 u390 u391 u392 u393 u394 u395 u396 u397 u398 u399 u400 u401 u402 u403 u404 u405 u406 u407 u408 u409 u410 u411 u412 u413 u414 u415 u416 u417 u418 u419 u420 u421 u422 u423 u424 u425 u426 u427 u428 u429 u430 u431 u432 u433 u434 u435 u436 u437 u438 u439 u440 u441 u442 u443 u444 u445 u446 u447 u448 u449 u450 u451 u452 u453 u454 u455 u456 u457 u458 u459 u460 u461 u462 u463 u464 u465 u466 u467 u468 u469 u470 u471 u472 u473 u474 u475 u476 u477 u478 u479 u480 u481 u482 u483 u484 u485 u486 u487 u488 u489 u490 u491 u492 u493 u494 u495 u496 u497 u498 u499 u500 u501 u502 u503 u504 u505 u506 u507 u508 u509 u510 u511 u512 u513 u514 u515 u516 u517 u518 u519 u520 u521 u522 u523 u524 u525 u526 u527 u528 u529 u530 u531 u532 u533 u534 u535 u536 u537 u538 u539 u540 u541 u542 u543 u544 u545 u546 u547 u548 u549 u550 u551 u552 u553 u554 u555 u556 u557 u558 u559 u560 u561 u562 u563 u564 u565 u566 u567 u568 u569 u570 u571 u572 u573 u574 u575 u576 u577 u578 u579 u580 u581 u582 u583 u584 u585 u586 u587 u588 u589 u590 u591 u592 u593 u594 u595 u596 u597 u598 u599 u600 u601 u602 u603 u604 u605 u606 u607 u608 u609 u610 u611 u612 u613 u614 u615 u616 u617 u618 u619 u620 u621 u622 u623 u624 u625 u626 u627 u628 u629 u630 u631 u632 u633 u634 u635 u636 u637 u638 u639 u640 u641 u642 u643 u644 u645 u646 u647 u648 u649 u650 u651 u652 u653 u654 u655 u656 u657 u658 u659 u660 u661 u662 u663 u664 u665 u666 u667 u668 u669 u670 u671 u672 u673 u674 u675 u676 u677 u678 u679 u680 u681 u682 u683 u684 u685 u686 u687 u688 u689 u690 u691 u692 u693 u694 u695 u696 u697 u698 u699 u700 u701 u702 u703 u704 u705 u706 u707 u708 u709 u710 u711 u712 u713 u714 u715 u716 u717 u718 u719 u720 u721 u722 u723 u724 u725 u726 u727 u728 u729 u730 u731 u732 u733 u734 u735 u736 u737 u738 u739 u740 u741 u742 u743 u744 u745 u746 u747 u748 u749 u750 u751 u752 u753 u754 u755 u756 u757 u758 u759 u760 u761 u762 u763 u764 u765 u766 u767 u768 u769 u770 u771 u772 u773 : Value} (sc rc : Code) (hs : afterRegion 85 (Try.f5.body.getD .skip) = some (sc, rc)) :
    Code.wp Try.prog sc (Exit.then (Code.wp Try.prog rc (Post5 w0)) (Post5 w0)) ⟨#[.slice A0 n0 n0, .int .i64 (N : Int), .slice A2 n2 n2, .slice (some ⟨qb, 0, none⟩) N N, .slice A4 n4 n4, .int .i64 (C : Int), .slice A6 n6 n6, u7, u8, u9, u10, u11, u12, u13, u14, .int .i64 (n0 : Int), u16, u17, u18, u19, u20, .int .i64 (n6 : Int), .slice (some ⟨kb, 0, none⟩) n0 n0, u23, u24, u25, u26, u27, .int .i64 (hits blk C n0 : Nat), u29, u30, u31, u32, u33, u34, u35, u36, .slice (some ⟨ib, 0, none⟩) n6 n6, .slice (some ⟨zb, 0, none⟩) n6 n6, .int .i64 (nw kp n6 : Nat), .int .i64 (sumTo ss (nw kp n6) : Nat), u41, u42, u43, u44, u45, u46, u47, u48, u49, u50, u51, u52, u53, u54, u55, u56, u57, u58, u59, u60, u61, u62, u63, u64, u65, u66, u67, u68, u69, u70, u71, u72, u73, u74, u75, u76, u77, u78, u79, u80, u81, u82, u83, u84, u85, u86, u87, u88, u89, u90, u91, u92, u93, u94, u95, u96, u97, u98, u99, u100, u101, u102, u103, u104, u105, u106, u107, u108, u109, u110, u111, u112, u113, u114, u115, u116, u117, u118, u119, u120, u121, u122, u123, u124, u125, u126, u127, u128, u129, u130, u131, u132, u133, u134, u135, u136, u137, u138, u139, u140, u141, u142, u143, u144, u145, u146, u147, u148, u149, u150, u151, u152, u153, u154, u155, u156, u157, u158, u159, u160, u161, u162, u163, u164, u165, u166, u167, u168, u169, u170, u171, u172, u173, u174, u175, u176, u177, u178, u179, u180, u181, u182, u183, u184, u185, u186, u187, u188, u189, u190, u191, u192, u193, u194, u195, u196, u197, u198, u199, u200, u201, u202, u203, u204, u205, u206, u207, u208, u209, u210, u211, u212, u213, u214, u215, u216, u217, u218, u219, u220, u221, u222, u223, u224, u225, u226, u227, u228, u229, u230, u231, u232, u233, u234, u235, u236, u237, u238, u239, u240, u241, u242, u243, u244, u245, u246, u247, u248, u249, u250, u251, u252, u253, u254, u255, u256, u257, u258, u259, u260, u261, u262, u263, u264, u265, u266, u267, u268, u269, u270, u271, u272, u273, u274, u275, u276, u277, u278, u279, u280, u281, u282, u283, u284, u285, u286, u287, u288, u289, u290, u291, u292, u293, u294, u295, u296, u297, u298, u299, u300, u301, u302, u303, u304, u305, u306, u307, u308, u309, u310, u311, u312, u313, u314, u315, u316, u317, u318, u319, u320, u321, u322, u323, u324, u325, u326, u327, u328, u329, u330, u331, u332, u333, u334, u335, u336, u337, u338, u339, u340, u341, u342, u343, u344, u345, u346, u347, u348, u349, u350, u351, u352, u353, u354, u355, u356, u357, u358, u359, u360, u361, u362, u363, u364, u365, u366, u367, u368, u369, u370, u371, u372, u373, u374, u375, u376, u377, u378, u379, u380, u381, u382, u383, u384, u385, u386, u387, u388, u389, u390, u391, u392, u393, u394, u395, u396, u397, u398, u399, u400, u401, u402, u403, u404, u405, u406, u407, u408, u409, u410, u411, u412, u413, u414, u415, u416, u417, u418, u419, u420, u421, u422, u423, u424, u425, u426, u427, u428, u429, u430, u431, u432, u433, u434, u435, u436, u437, u438, u439, u440, u441, u442, u443, u444, u445, u446, u447, u448, u449, u450, u451, u452, u453, u454, u455, u456, u457, u458, u459, u460, u461, u462, u463, u464, u465, u466, u467, u468, u469, u470, u471, u472, u473, u474, u475, u476, u477, u478, u479, u480, u481, u482, u483, u484, u485, u486, u487, u488, u489, u490, u491, u492, u493, u494, u495, u496, u497, u498, u499, u500, u501, u502, u503, u504, u505, u506, u507, u508, u509, u510, u511, u512, u513, u514, u515, u516, u517, u518, u519, u520, u521, u522, u523, u524, u525, u526, u527, u528, u529, u530, u531, u532, u533, u534, u535, u536, u537, u538, u539, u540, u541, u542, u543, u544, u545, u546, u547, u548, u549, u550, u551, u552, u553, u554, u555, u556, u557, u558, u559, u560, u561, u562, u563, u564, u565, u566, u567, u568, u569, u570, u571, u572, u573, u574, u575, u576, u577, u578, u579, u580, u581, u582, u583, u584, u585, u586, u587, u588, u589, u590, u591, u592, u593, u594, u595, u596, u597, u598, u599, u600, u601, u602, u603, u604, u605, u606, u607, u608, u609, u610, u611, u612, u613, u614, u615, u616, u617, u618, u619, u620, u621, u622, u623, u624, u625, u626, u627, u628, u629, u630, u631, u632, u633, u634, u635, u636, u637, u638, u639, u640, u641, u642, u643, u644, u645, u646, u647, u648, u649, u650, u651, u652, u653, u654, u655, u656, u657, u658, u659, u660, u661, u662, u663, u664, u665, u666, u667, u668, u669, u670, u671, u672, u673, u674, u675, u676, u677, u678, u679, u680, u681, u682, u683, u684, u685, u686, u687, u688, u689, u690, u691, u692, u693, u694, u695, u696, u697, u698, u699, u700, u701, u702, u703, u704, u705, u706, u707, u708, u709, u710, u711, u712, u713, u714, u715, u716, u717, u718, u719, u720, u721, u722, u723, u724, u725, u726, u727, u728, u729, u730, u731, u732, u733, u734, u735, u736, u737, u738, u739, u740, u741, u742, u743, u744, u745, u746, u747, u748, u749, u750, u751, u752, u753, u754, u755, u756, u757, u758, u759, u760, u761, u762, u763, u764, u765, u766, u767, u768, u769, u770, u771, u772, u773], []⟩ w := by
  unfold Post5
  conv at hs => lhs; whnf
  injection hs with hs
  injection hs with h1 h2
  subst h1 h2
  refine wp_any (fun KK hKK => ?_)
  conv => arg 4; dsimp only
  have H := hid hE
  have g3 := hE.e2.g3
  have g6 := hE.e2.g6
  have hC := hE.e2.hC
  have hnws := nw_self kp n6
  have hcut' := hE.hcut
  have hI : hits blk C n0 ≤ 131072 := Nat.le_trans (cnt_le_self _ _) hE.e2.g0
  clear hE
  obtain ⟨s, hs⟩ : ∃ s, s = nw kp n6 := ⟨_, rfl⟩
  obtain ⟨T, hT⟩ : ∃ T, T = sumTo ss (nw kp n6) := ⟨_, rfl⟩
  obtain ⟨I, hII⟩ : ∃ I, I = hits blk C n0 := ⟨_, rfl⟩
  rw [← hT] at hcut' ⊢
  rw [← hs] at hnws ⊢
  rw [← hII] at hcut' hI ⊢
  have HS : Hid (s = nw kp n6 ∧ T = sumTo ss (nw kp n6) ∧ I = hits blk C n0) := ⟨hs, hT, hII⟩
  clear hs hT hII
  obtain ⟨R, hR⟩ : ∃ R, R = I - T := ⟨_, rfl⟩
  have t1 : IntKind.i64.wrap ((N : Int) + (s : Int)) = (N : Int) + (s : Int) := by rw [IntKind.wrap_i64]; omega
  have t2 : IntKind.i64.wrap ((I : Int) - (T : Int)) = (R : Int) := by rw [IntKind.wrap_i64]; omega
  have HRR := hid hR
  have hR1 : R ≤ 131072 := by omega
  clear hR
  have hmk := make_bools ((N : Int) + (s : Int)) (N + s) (by simp) (by omega)
  have hq := H.out.e2.s3
  obtain ⟨ub, hub⟩ : ∃ ub, ub = w.heap.size := ⟨_, rfl⟩
  have eA : (List.replicate (N + s) (Value.bool false)).toArray = Array.replicate (N + s) (Value.bool false) := by simp
  have HM : Hid (Row 4 Value.bool (w.alloc (.cells (Array.replicate (N + s) (Value.bool false)) 4)) ub (N + s) (N + s) (fun _ => false) ∧ Chg [] w (w.alloc (.cells (Array.replicate (N + s) (Value.bool false)) 4)) ∧ ub = w.heap.size) := by
    rw [← eA, hub]
    exact ⟨Row.made w (N + s) _ false rfl, (Chg.refl [] w).alloc _, rfl⟩
  have rq : (w.alloc (.cells (Array.replicate (N + s) (Value.bool false)) 4)).cell? ⟨qb, C, none⟩ = some (.bool (Vt C)) := (hq.alloc _).read hC
  clear hq eA
  have t3 : (C : Int) < (N : Int) := by omega
  go_upto_if 427 with fail
  rw [← hub]
  have HU := hid hub
  clear hmk t1 t2 hub rq
  generalize w.alloc (.cells (Array.replicate (N + s) (Value.bool false)) 4) = wm at HM ⊢
  obtain ⟨G, hG⟩ : ∃ G, G = part R ss := ⟨_, rfl⟩
  have HG : Hid (G 0 = R ∧ (∀ j, G (j + 1) = ss j) ∧ G = part R ss) := by rw [hG]; exact ⟨rfl, fun _ => rfl, rfl⟩
  clear hG
  obtain ⟨vb, hvb⟩ : ∃ vb, vb = Vt C := ⟨_, rfl⟩
  rw [← hvb]
  have HVB := hid hvb
  clear hvb
  obtain ⟨q, hq⟩ : ∃ q, q = qd vb N C (mostOf N C (arg G (s + 1))) := ⟨_, rfl⟩
  have HQ := hid hq
  clear hq
  go_cut [45, 46, 47, 48, 49, 50] from 428 to 492 (fun v45 v46 v47 v48 v49 v50 wx => Row 4 Value.bool wx ub (N + s) (N + s) q ∧ Chg [] w wx)
  case first =>
    cases vb
    case true =>
      go_wp2_with fail
      go_loopg [45] s (fun g i wr => ∃ (j : Nat) (f : Nat → Bool), j + g = s ∧ i = .int .i64 j ∧ Row 4 Value.bool wr ub (N + s) (N + s) f ∧ (∀ b, b < N + s → f b = decide (N ≤ b ∧ b < N + j)) ∧ Chg [] w wr)
      case atStart => exact ⟨0, _, by omega, rfl, HM.out.1, fun b hb => by simp <;> omega, HM.out.2.1⟩
      case round =>
        obtain ⟨j, f, hjg, rfl, hr, hf, hc⟩ := hrel
        by_cases hlt : j < s
        · have t4 : (j : Int) < (s : Int) := by omega
          have r0 : wr.cell? ⟨ub, N + j, none⟩ = some (.bool (f (N + j))) := hr.read (by omega)
          have f0 := hr.frozen (N + j)
          have HS2 : Hid (Row 4 Value.bool (wr.setCell ⟨ub, N + j, none⟩ (.bool true)) ub (N + s) (N + s) (upd f (N + j) true) ∧ (∀ b, b < N + s → upd f (N + j) true b = decide (N ≤ b ∧ b < N + (j + 1))) ∧ Chg [] w (wr.setCell ⟨ub, N + j, none⟩ (.bool true))) := by
            refine ⟨hr.set _ true, fun b hb => ?_, hc.setCell (Or.inr (show w.heap.size ≤ ub by have := HM.out.2.2; omega)) _⟩
            by_cases e : b = N + j
            · subst e; rw [upd_same]; simp
            · have e2 : decide (N ≤ b ∧ b < N + (j + 1)) = decide (N ≤ b ∧ b < N + j) := by rw [decide_eq_decide]; omega
              rw [upd_ne _ _ e, hf b hb, e2]
          clear hr hf hc
          have t5 : IntKind.i64.wrap ((N : Int) + (j : Int)) = ((N + j : Nat) : Int) := by rw [IntKind.wrap_i64]; omega
          have t6 : ((N + j : Nat) : Int) < ((N + s : Nat) : Int) := by omega
          have t6' : (N : Int) + (j : Int) < (N : Int) + (s : Int) := by omega
          have e9 : ((N : Int) + (j : Int)).toNat = N + j := by omega
          go_wp2_with fail
          go_roundg (s - (j + 1))
          case measure => omega
          case rel => exact ⟨j + 1, _, by omega, by simp, HS2.out.1, HS2.out.2.1, HS2.out.2.2⟩
        · have t4 : ¬ (j : Int) < (s : Int) := by omega
          have HS2 : Hid (Row 4 Value.bool wr ub (N + s) (N + s) q ∧ Chg [] w wr) := by
            refine ⟨hr.congr (fun b hb => ?_), hc⟩
            rw [hf b hb, HQ.out]; simp [qd]; omega
          clear hr hf hc
          go_wp2_with fail
          go_meet
          case rel => exact HS2.out
    case false =>
      go_wp2_with fail
      go_loopg [46, 47] s (fun g v i wr => ∃ j : Nat, j + g = s ∧ i = .int .i64 j ∧ v = .int .i64 (G (arg G (j + 1)) : Nat) ∧ wm = wr)
      case atStart => exact ⟨0, by omega, rfl, by rw [part_one, HG.out.1], rfl⟩
      case round =>
        obtain ⟨j, hjg, rfl, rfl, rfl⟩ := hrel
        by_cases hlt : j < s
        · have t4 : (j : Int) < (s : Int) := by omega
          have r0 : wm.cell? ⟨zb, j, none⟩ = some (.int .i64 (ss j)) := HM.out.2.1.cell (H.out.rz.read (by omega))
          have harg : arg G (j + 1 + 1) = if G (arg G (j + 1)) < ss j then j + 1 else arg G (j + 1) := by rw [← HG.out.2.1 j]; rfl
          obtain ⟨b, hb⟩ : ∃ b, b = G (arg G (j + 1)) := ⟨_, rfl⟩
          obtain ⟨z, hz⟩ : ∃ z, z = ss j := ⟨_, rfl⟩
          rw [← hb] at harg ⊢
          rw [← hz] at harg r0
          have HA : Hid (arg G (j + 1 + 1) = (if b < z then j + 1 else arg G (j + 1)) ∧ b = G (arg G (j + 1)) ∧ G (j + 1) = z) := ⟨harg, hb, by rw [HG.out.2.1, hz]⟩
          clear harg hb hz
          by_cases u : b < z
          · have t5 : (b : Int) < (z : Int) := by omega
            go_wp2_with fail
            go_roundg (s - (j + 1))
            case measure => omega
            case rel =>
              obtain ⟨q1, q2, q3⟩ := HA.out
              exact ⟨j + 1, by omega, by simp, by rw [q1, if_pos u, q3], rfl⟩
          · have t5 : ¬ (b : Int) < (z : Int) := by omega
            go_wp2_with fail
            go_roundg (s - (j + 1))
            case measure => omega
            case rel =>
              obtain ⟨q1, q2, q3⟩ := HA.out
              exact ⟨j + 1, by omega, by simp, by rw [q1, if_neg u, q2], rfl⟩
        · obtain rfl : s = j := by omega
          have t4 : ¬ (s : Int) < (s : Int) := by omega
          obtain ⟨b, hb⟩ : ∃ b, b = G (arg G (s + 1)) := ⟨_, rfl⟩
          rw [← hb]
          have HBB := hid hb
          clear hb
          obtain ⟨M, hM⟩ : ∃ M, M = mostOf N C (arg G (s + 1)) := ⟨_, rfl⟩
          rw [← hM] at HQ
          have HMM := hid hM
          clear hM
          go_upto_if 457 with fail
          clear t4
          go_cut [48, 49] from 455 to 471 (fun v48 v49 wx => v48 = .int .i64 (M : Nat) ∧ wm = wx)
          case first =>
            by_cases u : R = b
            · have t5 : ((R : Int) == (b : Int)) = true := by simp; omega
              have t6 : (R : Int) = (b : Int) := by omega
              have hMC : M = C := by
                have h1 := arg_first G (s + 1) 0
                have h2 : arg G (s + 1) = 0 := by
                  by_cases e : 0 < arg G (s + 1)
                  · have := h1 e; rw [HG.out.1, ← HBB.out] at this; omega
                  · omega
                rw [HMM.out, h2]; rfl
              have HMC := hid hMC
              clear hMC
              go_wp2_with fail
              go_meet
              case rel => exact ⟨by rw [HMC.out], rfl⟩
            · have t5 : ((R : Int) == (b : Int)) = false := by simp; omega
              have t6 : ¬ (R : Int) = (b : Int) := by omega
              have t7 : ((R : Int) != (b : Int)) = true := by simp; omega
              go_wp2_with fail
              go_loopg [48, 49] s (fun g v i wr => ∃ j : Nat, j + g = s ∧ i = .int .i64 j ∧ v = .int .i64 (C : Int) ∧ (∀ j', j' < j → ss j' ≠ b) ∧ wm = wr)
              case atStart => exact ⟨0, by omega, rfl, rfl, fun j h => by omega, rfl⟩
              case round =>
                obtain ⟨j, hjg, rfl, rfl, hne, rfl⟩ := hrel
                have HNE := hid hne
                clear hne
                by_cases hlt : j < s
                · have t8 : (j : Int) < (s : Int) := by omega
                  have r0 : wm.cell? ⟨zb, j, none⟩ = some (.int .i64 (ss j)) := HM.out.2.1.cell (H.out.rz.read (by omega))
                  obtain ⟨z, hz⟩ : ∃ z, z = ss j := ⟨_, rfl⟩
                  rw [← hz] at r0
                  have HZ := hid hz
                  clear hz
                  by_cases u2 : z = b
                  · have t9 : ((z : Int) == (b : Int)) = true := by simp; omega
                    have t10 : (z : Int) = (b : Int) := by omega
                    have t11 : IntKind.i64.wrap ((N : Int) + (j : Int)) = (N : Int) + (j : Int) := by rw [IntKind.wrap_i64]; omega
                    go_wp2_with fail
                    go_meet
                    case rel =>
                      have e1 : j + 1 = arg G (s + 1) := arg_eq G (by rw [HG.out.2.1, ← HZ.out, u2, HBB.out]) (fun i hi => by
                        rw [← HBB.out]
                        cases i with
                        | zero => rw [HG.out.1]; exact u
                        | succ i => rw [HG.out.2.1]; exact HNE.out i (by omega))
                      refine ⟨?_, rfl⟩
                      rw [HMM.out, ← e1]
                      simp [mostOf]
                  · have t9 : ((z : Int) == (b : Int)) = false := by simp; omega
                    have t10 : ¬ (z : Int) = (b : Int) := by omega
                    go_wp2_with fail
                    go_roundg (s - (j + 1))
                    case measure => omega
                    case rel =>
                      refine ⟨j + 1, by omega, by simp, rfl, fun i hi => ?_, rfl⟩
                      by_cases e : i = j
                      · subst e; rw [← HZ.out]; exact u2
                      · exact HNE.out i (by omega)
                · exfalso
                  obtain rfl : s = j := by omega
                  have h1 := arg_lt G (s + 1) (by omega)
                  cases h2 : arg G (s + 1) with
                  | zero =>
                    have h3 := HBB.out
                    rw [h2, HG.out.1] at h3
                    exact u h3.symm
                  | succ i =>
                    have h3 := HBB.out
                    rw [h2, HG.out.2.1] at h3
                    exact HNE.out i (by omega) h3.symm
          case rest =>
            obtain ⟨rfl, rfl⟩ := hcut
            go_upto_if 474 with fail
            go_cut [] from 472 to 477 (fun wx => ∃ f, Row 4 Value.bool wx ub (N + s) (N + s) f ∧ (∀ b, b < N + s → f b = (decide (b = C) && decide (M ≠ C))) ∧ Chg [] w wx)
            case first =>
              by_cases u : M = C
              · have t5 : ((M : Int) == (C : Int)) = true := by simp; omega
                have t6 : (M : Int) = (C : Int) := by omega
                go_wp2_with fail
                go_meet
                case rel => exact ⟨_, HM.out.1, fun b hb => by simp [u], HM.out.2.1⟩
              · have t5 : ((M : Int) == (C : Int)) = false := by simp; omega
                have t6 : ¬ (M : Int) = (C : Int) := by omega
                have t7 : ((M : Int) != (C : Int)) = true := by simp; omega
                have r0 : wm.cell? ⟨ub, C, none⟩ = some (.bool false) := HM.out.1.read (by omega)
                have f0 := HM.out.1.frozen C
                have t8 : (C : Int) < ((N + s : Nat) : Int) := by omega
                have t8' : (C : Int) < (N : Int) + (s : Int) := by omega
                go_wp2_with fail
                go_meet
                case rel =>
                  refine ⟨_, HM.out.1.set C true, fun b hb => ?_, HM.out.2.1.setCell (Or.inr (show w.heap.size ≤ ub by have := HM.out.2.2; omega)) _⟩
                  by_cases e : b = C
                  · subst e; rw [upd_same]; simp [u]
                  · rw [upd_ne _ _ e]; simp [e]
            case rest =>
              obtain ⟨f, hf1, hf2, hf3⟩ := hcut
              have HF := hid (And.intro hf1 (And.intro hf2 hf3))
              clear hf1 hf2 hf3
              go_wp2_with fail
              go_loopg [50] s (fun g i wr => ∃ (j : Nat) (f : Nat → Bool), j + g = s ∧ i = .int .i64 j ∧ Row 4 Value.bool wr ub (N + s) (N + s) f ∧ (∀ b, b < N + s → f b = ((decide (b = C) && decide (M ≠ C)) || (decide (N ≤ b) && decide (b < N + j) && decide (b ≠ M)))) ∧ Chg [] w wr)
              case atStart => exact ⟨0, f, by omega, rfl, HF.out.1, fun b hb => by rw [HF.out.2.1 b hb]; simp; omega, HF.out.2.2⟩
              case round =>
                obtain ⟨j, f2, hjg, rfl, hr, hf, hc⟩ := hrel
                by_cases hlt : j < s
                · have t4 : (j : Int) < (s : Int) := by omega
                  have t5 : IntKind.i64.wrap ((N : Int) + (j : Int)) = ((N + j : Nat) : Int) := by rw [IntKind.wrap_i64]; omega
                  have r0 : wr.cell? ⟨ub, N + j, none⟩ = some (.bool (f2 (N + j))) := hr.read (by omega)
                  have f0 := hr.frozen (N + j)
                  have HS2 : Hid ((N + j ≠ M → Row 4 Value.bool (wr.setCell ⟨ub, N + j, none⟩ (.bool true)) ub (N + s) (N + s) (upd f2 (N + j) true) ∧ (∀ b, b < N + s → upd f2 (N + j) true b = ((decide (b = C) && decide (M ≠ C)) || (decide (N ≤ b) && decide (b < N + (j + 1)) && decide (b ≠ M)))) ∧ Chg [] w (wr.setCell ⟨ub, N + j, none⟩ (.bool true))) ∧
                      (N + j = M → Row 4 Value.bool wr ub (N + s) (N + s) f2 ∧ (∀ b, b < N + s → f2 b = ((decide (b = C) && decide (M ≠ C)) || (decide (N ≤ b) && decide (b < N + (j + 1)) && decide (b ≠ M)))) ∧ Chg [] w wr)) := by
                    refine ⟨fun hn => ⟨hr.set _ true, fun b hb => ?_, hc.setCell (Or.inr (show w.heap.size ≤ ub by have := HM.out.2.2; omega)) _⟩, fun he => ⟨hr, fun b hb => ?_, hc⟩⟩
                    · by_cases e : b = N + j
                      · subst e; rw [upd_same]; simp [hn]
                      · have e2 : decide (b < N + (j + 1)) = decide (b < N + j) := by simp; omega
                        rw [upd_ne _ _ e, hf b hb, e2]
                    · rw [hf b hb]
                      by_cases e : b = N + j
                      · subst e; simp [he]
                      · have e2 : decide (b < N + (j + 1)) = decide (b < N + j) := by simp; omega
                        rw [e2]
                  clear hr hf hc
                  by_cases u : N + j = M
                  · have t6 : (N : Int) + (j : Int) = (M : Int) := by omega
                    have t7 : (((N + j : Nat) : Int) == (M : Int)) = true := by simp; omega
                    have t7' : (((N : Int) + (j : Int)) == (M : Int)) = true := by simp; omega
                    have t8 : (((N : Int) + (j : Int)) != (M : Int)) = false := by simp; omega
                    go_wp2_with fail
                    go_roundg (s - (j + 1))
                    case measure => omega
                    case rel => exact ⟨j + 1, _, by omega, by simp, (HS2.out.2 u).1, (HS2.out.2 u).2.1, (HS2.out.2 u).2.2⟩
                  · have t6 : ¬ (N : Int) + (j : Int) = (M : Int) := by omega
                    have t7 : (((N + j : Nat) : Int) == (M : Int)) = false := by simp; omega
                    have t7' : (((N : Int) + (j : Int)) == (M : Int)) = false := by simp; omega
                    have t8 : (((N : Int) + (j : Int)) != (M : Int)) = true := by simp; omega
                    have t9 : ((N + j : Nat) : Int) < ((N + s : Nat) : Int) := by omega
                    have t9' : (N : Int) + (j : Int) < (N : Int) + (s : Int) := by omega
                    have e9 : ((N : Int) + (j : Int)).toNat = N + j := by omega
                    go_wp2_with fail
                    go_roundg (s - (j + 1))
                    case measure => omega
                    case rel => exact ⟨j + 1, _, by omega, by simp, (HS2.out.1 u).1, (HS2.out.1 u).2.1, (HS2.out.1 u).2.2⟩
                · have t4 : ¬ (j : Int) < (s : Int) := by omega
                  have HS2 : Hid (Row 4 Value.bool wr ub (N + s) (N + s) q ∧ Chg [] w wr) := by
                    refine ⟨hr.congr (fun b hb => ?_), hc⟩
                    have e1 : j = s := by omega
                    rw [hf b hb, HQ.out, e1]
                    by_cases e : b < N
                    · simp [qd, e]; omega
                    · have e3 : b ≠ C := by omega
                      simp [qd, e, e3, hb]; omega
                  clear hr hf hc
                  go_wp2_with fail
                  go_meet
                  case rel => exact HS2.out
  case rest =>
  obtain ⟨hqr, hqc⟩ := hcut
  have hE2 := H.out.chg0 hqc
  have hub2 : w0.heap.size ≤ ub ∧ ∀ x ∈ kb :: qb :: ib :: zb :: blkOf A0 ++ blkOf A2 ++ blkOf A4 ++ blkOf A6, x ≠ ub := by
    have h1 := H.out.e2.c.size
    have h2 := HU.out
    refine ⟨by omega, fun x hx => ?_⟩
    have l1 := H.out.ri.lt
    have l2 := H.out.rz.lt
    simp only [List.cons_append, List.mem_cons] at hx
    rcases hx with hx | hx | hx | hx | hx
    · have := (H.out.e2.lo0 x (by simp [hx])).2; omega
    · have := (H.out.e2.lo0 x (by simp [hx])).2; omega
    · omega
    · omega
    · have := (H.out.e2.lo0 x (by simp only [List.cons_append, List.mem_cons]; exact Or.inr (Or.inr hx))).2; omega
  have hqu : Row 4 Value.bool wc ub (N + s) (N + s) (quOf Vt N C blk n0 ss s) := by
    have : quOf Vt N C blk n0 ss s = q := by
      rw [HQ.out, HVB.out, HG.out.2.2, HRR.out, HS.out.2.1, HS.out.2.2, HS.out.1]; rfl
    rw [this]; exact hqr
  have hTT : T = sumTo ss s := by rw [HS.out.2.1, HS.out.1]
  rw [hTT]
  have hsn := HS.out.1
  clear hqr hqc hTT
  go_upto_region 113 with fail
  refine wp_mono (tail113 hE2 hsn hqu hub2 _ _ rfl) ?_
  intro e a w' h
  cases e
  case normal => exact ‹∀ (a : Act) (w : World), Code.wp _ _ _ a w → _› a w' h
  all_goals exact h
end Go.Proofs.Qxb6601951a
