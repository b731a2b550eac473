import Derived.Test.Qxb6601951aT85
namespace Go.Proofs.Qxb6601951a
open Go.RowKit

set_option maxHeartbeats 40000000 in
set_option maxRecDepth 1000000 in
theorem tail72 {w0 w : World} {A0 A2 A4 A6 : Option Addr} {n0 n2 N n4 n6 C kb qb : Nat} {Wk : Nat → Int} {Vt : Nat → Bool} {Vl : Nat → Int} {blk lo hi vals mark : Nat → Nat} {np : Bool} {K : Int}
    (hE : Env2 w0 w A0 A2 A4 A6 n0 n2 N n4 n6 C kb qb Wk Vt Vl blk lo hi vals mark) (hnp : np = true → sumTo (len2 lo hi) n6 = hits blk C n0 ∧ n6 = 1) (hK : ∀ k, k < n6 → ((k : Int) = K ↔ k = keepOf blk n0 C n6 lo hi))
    {u7 u8 u9 u10 u11 u12 u13 u14 u16 u17 u18 u19 u20 u23 u24 u25 u26 u27 u29 u30 u31 u32 u33 u36 u37 u38 u39 u40 u41 u42 u43 u44 u45 u46 u47 u48 u49 u50 u51 u52 u53 u54 u55 u56 u57 u58 u59 u60 u61 u62 u63 u64 u65 u66 u67 u68 u69 u70 u71 u72 u73 u74 u75 u76 u77 u78 u79 u80 u81 u82 u83 u84 u85 u86 u87 u88 u89 u90 u91 u92 u93 u94 u95 u96 u97 u98 u99 u100 u101 u102 u103 u104 u105 u106 u107 u108 u109 u110 u111 u112 u113 u114 u115 u116 u117 u118 u119 u120 u121 u122 u123 u124 u125 u126 u127 u128 u129 u130 u131 u132 u133 u134 u135 u136 u137 u138 u139 u140 u141 u142 u143 u144 u145 u146 u147 u148 u149 u150 u151 u152 u153 u154 u155 u156 u157 u158 u159 u160 u161 u162 u163 u164 u165 u166 u167 u168 u169 u170 u171 u172 u173 u174 u175 u176 u177 u178 u179 u180 u181 u182 u183 u184 u185 u186 u187 u188 u189 u190 u191 u192 u193 u194 u195 u196 u197 u198 u199 u200 u201 u202 u203 u204 u205 u206 u207 u208 u209 u210 u211 u212 u213 u214 u215 u216 u217 u218 u219 u220 u221 u222 u223 u224 u225 u226 u227 u228 u229 u230 u231 u232 u233 u234 u235 u236 u237 u238 u239 u240 u241 u242 u243 u244 u245 u246 u247 u248 u249 u250 u251 u252 u253 u254 u255 u256 u257 u258 u259 u260 u261 u262 u263 u264 u265 u266 u267 u268 u269 u270 u271 u272 u273 u274 u275 u276 u277 u278 u279 u280 u281 u282 u283 u284 u285 u286 u287 u288 u289 u290 u291 u292 u293 u294 u295 u296 u297 u298 u299 u300 u301 u302 u303 u304 u305 u306 u307 u308 u309 u310 u311 u312 u313 u314 u315 u316 u317 u318 u319 u320 u321 u322 u323 u324 u325 u326 u327 u328 u329 u330 u331 u332 u333 u334 u335 u336 u337 u338 u339 u340 u341 u342 u343 u344 u345 u346 u347 u348 u349 u350 u351 u352 u353 u354 u355 u356 u357 u358 u359 u360 u361 u362 u363 u364 u365 u366 u367 u368 u369 u370 u371 u372 u373 u374 u375 u376 u377 u378 u379 u380 u381 u382 u383 u384 u385 u386 u387 u388 u389 u390 u391 u392 u393 u394 u395 u396 u397 u398 u399 u400 u401 u402 u403 u404 u405 u406 u407 u408 u409 u410 u411 u412 u413 u414 u415 u416 u417 u418 u419 u420 u421 u422 u423 u424 u425 u426 u427 u428 u429 u430 u431 u432 u433 u434 u435 u436 u437 u438 u439 u440 u441 u442 u443 u444 u445 u446 u447 u448 u449 u450 u451 u452 u453 u454 u455 u456 u457 u458 u459 u460 u461 u462 u463 u464 u465 u466 u467 u468 u469 u470 u471 u472 u473 u474 u475 u476 u477 u478 u479 u480 u481 u482 u483 u484 u485 u486 u487 u488 u489 u490 u491 u492 u493 u494 u495 u496 u497 u498 u499 u500 u501 u502 u503 u504 u505 u506 u507 u508 u509 u510 u511 u512 u513 u514 u515 u516 u517 u518 u519 u520 u521 u522 u523 u524 u525 u526 u527 u528 u529 u530 u531 u532 u533 u534 u535 u536 u537 u538 u539 u540 u541 u542 u543 u544 u545 u546 u547 u548 u549 u550 u551 u552 u553 u554 u555 u556 u557 u558 u559 u560 u561 u562 u563 u564 u565 u566 u567 u568 u569 u570 u571 u572 u573 u574 u575 u576 u577 u578 u579 u580 u581 u582 u583 u584 u585 u586 u587 u588 u589 u590 u591 u592 u593 u594 u595 u596 u597 u598 u599 u600 u601 u602 u603 u604 u605 u606 u607 u608 u609 u610 u611 u612 u613 u614 u615 u616 u617 u618 u619 u620 u621 u622 u623 u624 u625 u626 u627 u628 u629 u630 u631 u632 u633 u634 u635 u636 u637 u638 u639 u640 u641 u642 u643 u644 u645 u646 u647 u648 u649 u650 u651 u652 u653 u654 u655 u656 u657 u658 u659 u660 u661 u662 u663 u664 u665 u666 u667 u668 u669 u670 u671 u672 u673 u674 u675 u676 u677 u678 u679 u680 u681 u682 u683 u684 u685 u686 u687 u688 u689 u690 u691 u692 u693 u694 u695 u696 u697 u698 u699 u700 u701 u702 u703 u704 u705 u706 u707 u708 u709 u710 u711 u712 u713 u714 u715 u716 u717 u718 u719 u720 u721 u722 u723 u724 u725 u726 u727 u728 u729 u730 u731 u732 u733 u734 u735 u736 u737 u738 u739 u740 u741 u742 u743 u744 u745 u746 u747 u748 u749 u750 u751 u752 u753 u754 u755 u756 u757 u758 u759 u760 u761 u762 u763 u764 u765 u766 u767 u768 u769 u770 u771 u772 u773 : Value} (sc rc : Code) (hs : afterRegion 72 (Try.f5.body.getD .skip) = some (sc, rc)) :
    Code.wp Try.prog sc (Exit.then (Code.wp Try.prog rc (Post5 w0)) (Post5 w0)) ⟨#[.slice A0 n0 n0, .int .i64 (N : Int), .slice A2 n2 n2, .slice (some ⟨qb, 0, none⟩) N N, .slice A4 n4 n4, .int .i64 (C : Int), .slice A6 n6 n6, u7, u8, u9, u10, u11, u12, u13, u14, .int .i64 (n0 : Int), u16, u17, u18, u19, u20, .int .i64 (n6 : Int), .slice (some ⟨kb, 0, none⟩) n0 n0, u23, u24, u25, u26, u27, .int .i64 (hits blk C n0 : Nat), u29, u30, u31, u32, u33, .bool np, .int .i64 K, u36, u37, u38, u39, u40, u41, u42, u43, u44, u45, u46, u47, u48, u49, u50, u51, u52, u53, u54, u55, u56, u57, u58, u59, u60, u61, u62, u63, u64, u65, u66, u67, u68, u69, u70, u71, u72, u73, u74, u75, u76, u77, u78, u79, u80, u81, u82, u83, u84, u85, u86, u87, u88, u89, u90, u91, u92, u93, u94, u95, u96, u97, u98, u99, u100, u101, u102, u103, u104, u105, u106, u107, u108, u109, u110, u111, u112, u113, u114, u115, u116, u117, u118, u119, u120, u121, u122, u123, u124, u125, u126, u127, u128, u129, u130, u131, u132, u133, u134, u135, u136, u137, u138, u139, u140, u141, u142, u143, u144, u145, u146, u147, u148, u149, u150, u151, u152, u153, u154, u155, u156, u157, u158, u159, u160, u161, u162, u163, u164, u165, u166, u167, u168, u169, u170, u171, u172, u173, u174, u175, u176, u177, u178, u179, u180, u181, u182, u183, u184, u185, u186, u187, u188, u189, u190, u191, u192, u193, u194, u195, u196, u197, u198, u199, u200, u201, u202, u203, u204, u205, u206, u207, u208, u209, u210, u211, u212, u213, u214, u215, u216, u217, u218, u219, u220, u221, u222, u223, u224, u225, u226, u227, u228, u229, u230, u231, u232, u233, u234, u235, u236, u237, u238, u239, u240, u241, u242, u243, u244, u245, u246, u247, u248, u249, u250, u251, u252, u253, u254, u255, u256, u257, u258, u259, u260, u261, u262, u263, u264, u265, u266, u267, u268, u269, u270, u271, u272, u273, u274, u275, u276, u277, u278, u279, u280, u281, u282, u283, u284, u285, u286, u287, u288, u289, u290, u291, u292, u293, u294, u295, u296, u297, u298, u299, u300, u301, u302, u303, u304, u305, u306, u307, u308, u309, u310, u311, u312, u313, u314, u315, u316, u317, u318, u319, u320, u321, u322, u323, u324, u325, u326, u327, u328, u329, u330, u331, u332, u333, u334, u335, u336, u337, u338, u339, u340, u341, u342, u343, u344, u345, u346, u347, u348, u349, u350, u351, u352, u353, u354, u355, u356, u357, u358, u359, u360, u361, u362, u363, u364, u365, u366, u367, u368, u369, u370, u371, u372, u373, u374, u375, u376, u377, u378, u379, u380, u381, u382, u383, u384, u385, u386, u387, u388, u389, u390, u391, u392, u393, u394, u395, u396, u397, u398, u399, u400, u401, u402, u403, u404, u405, u406, u407, u408, u409, u410, u411, u412, u413, u414, u415, u416, u417, u418, u419, u420, u421, u422, u423, u424, u425, u426, u427, u428, u429, u430, u431, u432, u433, u434, u435, u436, u437, u438, u439, u440, u441, u442, u443, u444, u445, u446, u447, u448, u449, u450, u451, u452, u453, u454, u455, u456, u457, u458, u459, u460, u461, u462, u463, u464, u465, u466, u467, u468, u469, u470, u471, u472, u473, u474, u475, u476, u477, u478, u479, u480, u481, u482, u483, u484, u485, u486, u487, u488, u489, u490, u491, u492, u493, u494, u495, u496, u497, u498, u499, u500, u501, u502, u503, u504, u505, u506, u507, u508, u509, u510, u511, u512, u513, u514, u515, u516, u517, u518, u519, u520, u521, u522, u523, u524, u525, u526, u527, u528, u529, u530, u531, u532, u533, u534, u535, u536, u537, u538, u539, u540, u541, u542, u543, u544, u545, u546, u547, u548, u549, u550, u551, u552, u553, u554, u555, u556, u557, u558, u559, u560, u561, u562, u563, u564, u565, u566, u567, u568, u569, u570, u571, u572, u573, u574, u575, u576, u577, u578, u579, u580, u581, u582, u583, u584, u585, u586, u587, u588, u589, u590, u591, u592, u593, u594, u595, u596, u597, u598, u599, u600, u601, u602, u603, u604, u605, u606, u607, u608, u609, u610, u611, u612, u613, u614, u615, u616, u617, u618, u619, u620, u621, u622, u623, u624, u625, u626, u627, u628, u629, u630, u631, u632, u633, u634, u635, u636, u637, u638, u639, u640, u641, u642, u643, u644, u645, u646, u647, u648, u649, u650, u651, u652, u653, u654, u655, u656, u657, u658, u659, u660, u661, u662, u663, u664, u665, u666, u667, u668, u669, u670, u671, u672, u673, u674, u675, u676, u677, u678, u679, u680, u681, u682, u683, u684, u685, u686, u687, u688, u689, u690, u691, u692, u693, u694, u695, u696, u697, u698, u699, u700, u701, u702, u703, u704, u705, u706, u707, u708, u709, u710, u711, u712, u713, u714, u715, u716, u717, u718, u719, u720, u721, u722, u723, u724, u725, u726, u727, u728, u729, u730, u731, u732, u733, u734, u735, u736, u737, u738, u739, u740, u741, u742, u743, u744, u745, u746, u747, u748, u749, u750, u751, u752, u753, u754, u755, u756, u757, u758, u759, u760, u761, u762, u763, u764, u765, u766, u767, u768, u769, u770, u771, u772, u773], []⟩ w := by
  unfold Post5
  conv at hs => lhs; whnf
  injection hs with hs
  injection hs with h1 h2
  subst h1 h2
  refine wp_any (fun KK hKK => ?_)
  conv => arg 4; dsimp only
  have H := hid hE
  have HN := hid hnp
  have HK := hid hK
  have g0 := hE.g0
  have g4 := hE.g4
  have g6 := hE.g6
  clear hE hnp hK
  obtain ⟨kp, hkp⟩ : ∃ kp, kp = keepOf blk n0 C n6 lo hi := ⟨_, rfl⟩
  rw [← hkp] at HK
  have HKP := hid hkp
  clear hkp
  obtain ⟨I, hI⟩ : ∃ I, I = hits blk C n0 := ⟨_, rfl⟩
  have HI := hid hI
  rw [← hI]
  clear hI
  have hmk := make_ints (n6 : Int) n6 rfl (by omega)
  go_wp2_with fail
  clear hmk
  obtain ⟨ib, hib⟩ : ∃ ib, ib = w.heap.size := ⟨_, rfl⟩
  obtain ⟨zb, hzb⟩ : ∃ zb, zb = w.heap.size + 1 := ⟨_, rfl⟩
  have eA : (List.replicate n6 (Value.int .i64 0)).toArray = Array.replicate n6 (Value.int .i64 0) := by simp
  have HM : Hid (Row 3 int ((w.alloc (.cells (Array.replicate n6 (Value.int .i64 0)) 3)).alloc (.cells (Array.replicate n6 (Value.int .i64 0)) 3)) ib n6 n6 (fun _ => 0) ∧ Row 3 nat ((w.alloc (.cells (Array.replicate n6 (Value.int .i64 0)) 3)).alloc (.cells (Array.replicate n6 (Value.int .i64 0)) 3)) zb n6 n6 (fun _ => 0) ∧ Chg [] w ((w.alloc (.cells (Array.replicate n6 (Value.int .i64 0)) 3)).alloc (.cells (Array.replicate n6 (Value.int .i64 0)) 3))) := by
    rw [← eA, hib, hzb]
    exact ⟨(Row.made w n6 _ 0 rfl).alloc _, Row.made' _ n6 _ _ 0 (by simp) rfl, ((Chg.refl [] w).alloc _).alloc _⟩
  have HB : Hid (ib = w.heap.size ∧ zb = w.heap.size + 1) := ⟨hib, hzb⟩
  rw [← hzb, ← hib]
  clear eA hib hzb
  generalize (w.alloc (.cells (Array.replicate n6 (Value.int .i64 0)) 3)).alloc (.cells (Array.replicate n6 (Value.int .i64 0)) 3) = wm at HM ⊢
  go_loopg [39, 40, 41] n6 (fun g v39 v40 i wr => ∃ (k : Nat) (ss : Nat → Nat) (idx : Nat → Int), k + g = n6 ∧ i = .int .i64 k ∧ v39 = .int .i64 (nw kp k : Nat) ∧ v40 = .int .i64 (sumTo ss (nw kp k) : Nat) ∧ Row 3 int wr ib n6 n6 idx ∧ Row 3 nat wr zb n6 n6 ss ∧ (∀ k', k' < k → idx k' = if k' = kp then -1 else (nw kp k' : Int)) ∧ (∀ k', k' < k → k' ≠ kp → ss (nw kp k') = hi k' - lo k') ∧ sumTo ss (nw kp k) ≤ sumTo (len2 lo hi) k ∧ Chg [] w wr)
  case atStart => exact ⟨0, _, _, by omega, rfl, rfl, rfl, HM.out.1, HM.out.2.1, fun k h => by omega, fun k h => by omega, Nat.le_refl _, HM.out.2.2⟩
  case round =>
  obtain ⟨k, ss, idx, hkg, rfl, rfl, rfl, hri, hrz, hidx, hss, hle, hc⟩ := hrel
  by_cases hlt : k < n6
  · have t0 : (k : Int) < (n6 : Int) := by omega
    have hib : w.heap.size ≤ ib := by have := HB.out; omega
    have hzb : w.heap.size ≤ zb := by have := HB.out; omega
    have hne : ib ≠ zb := by have := HB.out; omega
    have r0 : wr.cell? ⟨ib, k, none⟩ = some (.int .i64 (idx k)) := hri.read hlt
    have f0 := hri.frozen k
    have hri1 := hri.set k (-1)
    have hrz1 := hrz.other (p := ⟨ib, k, none⟩) (fun h => hne h.symm) (int (-1))
    have hc1 := hc.setCell (p := ⟨ib, k, none⟩) (Or.inr hib) (int (-1))
    have hsk : k = kp → Hid (Row 3 int (wr.setCell ⟨ib, k, none⟩ (.int .i64 (-1))) ib n6 n6 (upd idx k (-1)) ∧ Row 3 nat (wr.setCell ⟨ib, k, none⟩ (.int .i64 (-1))) zb n6 n6 ss ∧ (∀ k', k' < k + 1 → upd idx k (-1) k' = if k' = kp then -1 else (nw kp k' : Int)) ∧ (∀ k', k' < k + 1 → k' ≠ kp → ss (nw kp k') = hi k' - lo k') ∧ sumTo ss (nw kp (k + 1)) ≤ sumTo (len2 lo hi) (k + 1) ∧ Chg [] w (wr.setCell ⟨ib, k, none⟩ (.int .i64 (-1))) ∧ nw kp (k + 1) = nw kp k) := fun hk => by
      have hnw : nw kp (k + 1) = nw kp k := by rw [nw_succ, if_pos hk]; rfl
      refine ⟨hri1, hrz1, fun k' h' => ?_, fun k' h' hn => ?_, ?_, hc1, hnw⟩
      · by_cases e : k' = k
        · subst e; rw [upd_same, if_pos hk]
        · rw [upd_ne _ _ e]; exact hidx k' (by omega)
      · exact hss k' (by omega) hn
      · rw [hnw, sumTo]; omega
    by_cases hk : k = kp
    · have HS := hsk hk
      clear hsk hri hrz hidx hss hle hc hri1 hrz1 hc1
      cases np
      · obtain rfl : K = (k : Int) := ((HK.out k hlt).2 hk).symm
        clear hk
        go_wp2_with fail
        go_roundg (n6 - (k + 1))
        case measure => omega
        case rel =>
          obtain ⟨q1, q2, q3, q4, q5, q6, q7⟩ := HS.out
          exact ⟨k + 1, ss, _, by omega, by simp, by rw [q7], by rw [q7], q1, q2, q3, q4, q5, q6⟩
      · clear hk
        go_wp2_with fail
        go_roundg (n6 - (k + 1))
        case measure => omega
        case rel =>
          obtain ⟨q1, q2, q3, q4, q5, q6, q7⟩ := HS.out
          exact ⟨k + 1, ss, _, by omega, by simp, by rw [q7], by rw [q7], q1, q2, q3, q4, q5, q6⟩
    · clear hsk
      obtain rfl : np = false := by
        cases np
        · rfl
        · exfalso
          obtain ⟨h1, h2⟩ := HN.out rfl
          have h3 := HKP.out
          unfold keepOf at h3
          rw [if_pos h1, h2, part_one] at h3
          omega
      have t1 : ¬ (k : Int) = K := fun h => hk ((HK.out k hlt).1 h)
      have t2 : ((k : Int) == K) = false := by simpa using t1
      have t3 : ((k : Int) != K) = true := by simpa using t1
      have hnwk := nw_self kp k
      have hnws : nw kp (k + 1) = nw kp k + 1 := by rw [nw_succ, if_neg hk]
      obtain ⟨b, off, rfl, p0, p1⟩ := H.out.s6 k hlt
      have hle2 := H.out.pc.le k hlt
      have hhi := H.out.hn k hlt
      have hsm : sumTo ss (nw kp k) ≤ 65536 * 131072 := by
        have h1 : sumTo (len2 lo hi) k ≤ k * 131072 := sum_small _ _ k (fun i hi' => by have := H.out.hn i (by omega); unfold len2; omega)
        have h2 := Nat.mul_le_mul_right 131072 (show k ≤ 65536 by omega)
        omega
      obtain ⟨s, hs⟩ : ∃ s, s = nw kp k := ⟨_, rfl⟩
      obtain ⟨T, hT⟩ : ∃ T, T = sumTo ss s := ⟨_, rfl⟩
      obtain ⟨A, hA⟩ : ∃ A, A = lo k := ⟨_, rfl⟩
      obtain ⟨D, hD⟩ : ∃ D, D = hi k := ⟨_, rfl⟩
      rw [← hs] at hnwk hnws hle hsm ⊢
      rw [← hT] at hle hsm ⊢
      rw [← hA] at hle2
      rw [← hD] at hle2 hhi
      have hsn : s < n6 := by omega
      have r1 : (wr.setCell ⟨ib, k, none⟩ (.int .i64 (-1))).cell? ⟨ib, k, none⟩ = some (.int .i64 (-1)) := by have := hri1.read hlt; rw [upd_same] at this; exact this
      have f1 : (wr.setCell ⟨ib, k, none⟩ (.int .i64 (-1))).frozen? ⟨ib, k, none⟩ = false := hri1.frozen k
      have hri2 := hri1.set k (s : Int)
      have hrz2 := hrz1.other (p := ⟨ib, k, none⟩) (fun h => hne h.symm) (int (s : Int))
      have hc2 := hc1.setCell (p := ⟨ib, k, none⟩) (Or.inr hib) (int (s : Int))
      obtain ⟨W2, hW2⟩ : ∃ W2, (wr.setCell ⟨ib, k, none⟩ (.int .i64 (-1))).setCell ⟨ib, k, none⟩ (.int .i64 (s : Int)) = W2 := ⟨_, rfl⟩
      have hri2' : Row 3 int W2 ib n6 n6 (upd (upd idx k (-1)) k (s : Int)) := by rw [← hW2]; exact hri2
      have hrz2' : Row 3 nat W2 zb n6 n6 ss := by rw [← hW2]; exact hrz2
      have hc2' : Chg [] w W2 := by rw [← hW2]; exact hc2
      have p0' : W2.cell? ⟨b, off + k * 2, none⟩ = some (.int .i64 (A : Int)) := by rw [hA]; exact hc2'.cell p0
      have p1' : W2.cell? ⟨b, off + k * 2 + 1, none⟩ = some (.int .i64 (D : Int)) := by rw [hD]; exact hc2'.cell p1
      have r3 : W2.cell? ⟨zb, s, none⟩ = some (.int .i64 (ss s)) := hrz2'.read hsn
      have f3 := hrz2'.frozen s
      have hrz3 := hrz2'.set s (D - A)
      have hri3 := hri2'.other (p := ⟨zb, s, none⟩) hne (nat (D - A))
      have hc3 := hc2'.setCell (p := ⟨zb, s, none⟩) (Or.inr hzb) (nat (D - A))
      obtain ⟨W3, hW3⟩ : ∃ W3, W2.setCell ⟨zb, s, none⟩ (.int .i64 ((D - A : Nat) : Int)) = W3 := ⟨_, rfl⟩
      have hrz3' : Row 3 nat W3 zb n6 n6 (upd ss s (D - A)) := by rw [← hW3]; exact hrz3
      have r4 : W3.cell? ⟨zb, s, none⟩ = some (.int .i64 ((D - A : Nat) : Int)) := by have := hrz3'.read hsn; rw [upd_same] at this; exact this
      have HS : Hid (Row 3 int W3 ib n6 n6 (upd (upd idx k (-1)) k (s : Int)) ∧ Row 3 nat W3 zb n6 n6 (upd ss s (D - A)) ∧ (∀ k', k' < k + 1 → upd (upd idx k (-1)) k (s : Int) k' = if k' = kp then -1 else (nw kp k' : Int)) ∧ (∀ k', k' < k + 1 → k' ≠ kp → upd ss s (D - A) (nw kp k') = hi k' - lo k') ∧ sumTo (upd ss s (D - A)) (nw kp (k + 1)) ≤ sumTo (len2 lo hi) (k + 1) ∧ Chg [] w W3 ∧ nw kp (k + 1) = s + 1 ∧ sumTo (upd ss s (D - A)) (s + 1) = T + (D - A)) := by
        have hsu : sumTo (upd ss s (D - A)) (s + 1) = T + (D - A) := by
          rw [sumTo, upd_same, hT, sumTo_congr (g := ss) (fun i hi' => upd_ne _ _ (by omega))]
        refine ⟨by rw [← hW3]; exact hri3, hrz3', fun k' h' => ?_, fun k' h' hn => ?_, ?_, by rw [← hW3]; exact hc3, hnws, hsu⟩
        · by_cases e : k' = k
          · subst e; rw [upd_same, if_neg hk, hs]
          · rw [upd_ne _ _ e, upd_ne _ _ e]; exact hidx k' (by omega)
        · by_cases e : k' = k
          · subst e; rw [← hs, upd_same, hA, hD]
          · have := nw_lt kp (show k' < k by omega) hn
            rw [upd_ne _ _ (by omega)]; exact hss k' (by omega) hn
        · rw [hnws, hsu, sumTo]
          have : len2 lo hi k = D - A := by rw [hA, hD]; rfl
          omega
      have t4 : IntKind.i64.wrap ((D : Int) - (A : Int)) = ((D - A : Nat) : Int) := by rw [IntKind.wrap_i64]; omega
      have t5 : IntKind.i64.wrap ((T : Int) + ((D - A : Nat) : Int)) = ((T + (D - A) : Nat) : Int) := by rw [IntKind.wrap_i64]; omega
      have t6 : (s : Int) < (n6 : Int) := by omega
      have t7 : IntKind.i64.wrap ((s : Int) + 1) = (s : Int) + 1 := by rw [IntKind.wrap_i64]; omega
      clear hri hrz hidx hss hle hc hri1 hrz1 hc1 hri2 hrz2 hc2 hri2' hrz2' hc2' hrz3 hri3 hc3 hrz3' p0 p1 hs hT hA hD hnws hk
      go_wp2_with fail
      go_region
      go_wp2_with fail
      go_roundg (n6 - (k + 1))
      case measure => omega
      case rel =>
        obtain ⟨q1, q2, q3, q4, q5, q6, q7, q8⟩ := HS.out
        exact ⟨k + 1, upd ss s (D - A), _, by omega, by simp, by rw [q7]; simp, by rw [q7, q8]; simp, q1.chg (Chg.refl [] _).drew (by simp), q2.chg (Chg.refl [] _).drew (by simp), q3, q4, q5, q6.drew⟩
  obtain rfl : n6 = k := by omega
  have t0 : ¬ (n6 : Int) < (n6 : Int) := by omega
  have hE3 : Env3 w0 wr A0 A2 A4 A6 n0 n2 N n4 n6 C kb qb ib zb Wk Vt Vl blk lo hi vals mark idx ss kp := by
    have h := H.out
    obtain ⟨b1, b2⟩ := HB.out
    have hsz := h.c.size
    exact ⟨h.chg0 hc, hri, hrz, HKP.out, hss, hidx, Nat.le_trans hle h.pc.tot_le, by omega, fun x hx => by have := h.lo0 x hx; omega, by omega⟩
  rw [HI.out]
  clear hri hrz hidx hss hle hc
  go_upto_region 85 with fail
  refine wp_mono (tail85 hE3 _ _ rfl) ?_
  intro e a w' h
  cases e
  case normal => exact ‹∀ (a : Act) (w : World), Code.wp _ _ _ a w → _› a w' h
  all_goals exact h
end Go.Proofs.Qxb6601951a
