import Derived.Test.Qxb6601951aQe
import Derived.Test.Qxb6601951aSp
import Derived.Test.Qxb6601951aReg
import Derived.Deep.RegionWith
import Derived.Test.Qxb6601951aVp
namespace Go.Proofs.Qxb6601951a
open Go.RowKit

/-- The length of a piece. -/
def len2 (lo hi : Nat → Nat) : Nat → Nat := fun k => hi k - lo k

/-- What 'splitBlock' leaves. -/
def SbP (w : World) (rb pb mb ab sb eb : Nat) (a3 : Option Addr) (c3 size n : Nat) (P0 : Pt) (wa : Option Addr) (wn qb : Nat) (W : Nat → Int) (V : Nat → Bool) (v3 v4 v5 v6 v7 : Value) (c m : Nat) (lo hi vals : Nat → Nat) (kp : Nat) (ss : Nat → Nat) (q : Nat → Bool) (e : Ending) (w' : World) : Prop :=
  e = .returned (.tuple #[]) ∧ ∃ sb' eb' cs' ce' P wa' wc' qb' qc' W' V', RSt w' rb pb mb ab sb' eb' a3 c3 cs' ce' size (n + nw kp m) P wa' (wn + cnt q (n + nw kp m)) wc' qb' (n + nw kp m) qc' W' V' v3 v4 v5 v6 v7 ∧
    Ran P0 size n c lo hi vals kp ss m P ∧ Qu q wn n W V (n + nw kp m) W' V' ∧ Chg ([rb, qb, pb, mb, ab, sb, eb] ++ blkOf wa ++ blkOf a3) w w'

theorem sum_small (f : Nat → Nat) (B : Nat) : ∀ k, (∀ i, i < k → f i ≤ B) → sumTo f k ≤ k * B
  | 0, _ => by simp [sumTo]
  | k + 1, h => by
    have h1 := sum_small f B k (fun i hi => h i (by omega))
    have h2 := h k (by omega)
    rw [sumTo, Nat.add_mul]; omega

theorem arg_le (g : Nat → Nat) : ∀ k, arg g k ≤ k
  | 0 => Nat.le_refl _
  | k + 1 => by have := arg_lt g (k + 1) (by omega); omega

section
variable {w : World} {rb pb mb ab sb eb : Nat} {a3 : Option Addr} {c3 cs ce size nb : Nat} {P : Pt} {wa : Option Addr} {wn wc qb qn qc : Nat} {W : Nat → Int} {V : Nat → Bool} {v3 v4 v5 v6 v7 : Value}
theorem RSt.split (h : RSt w rb pb mb ab sb eb a3 c3 cs ce size nb P wa wn wc qb qn qc W V v3 v4 v5 v6 v7) {w' : World} {sb' eb' cs' ce' nb' : Nat} {Q : Pt} (hp : PAt w' pb mb ab sb' eb' a3 c3 cs' ce' size nb' Q) (hs : sb' = sb ∨ w.heap.size ≤ sb') (he : eb' = eb ∨ w.heap.size ≤ eb')
    (c : Chg ([pb, mb, ab, sb, eb] ++ blkOf a3) w w') : RSt w' rb pb mb ab sb' eb' a3 c3 cs' ce' size nb' Q wa wn wc qb qn qc W V v3 v4 v5 v6 v7 := by
  have l0 := h.str.lt
  have l7 := h.wait.lt
  have l8 := h.work.lt
  refine ⟨h.str.chg c (h.d2 rb (by simp)), hp, h.work.chg c (fun x hx hm => h.d3 x hx ?_), h.wait.chg c (h.d2 qb (by simp)), h.d1, fun x hx hm => ?_, fun x hx hm => ?_, h.wcap⟩
  · rcases List.mem_append.1 hm with hm | hm
    · exact List.mem_append_left _ (by simp at hm ⊢; omega)
    · exact List.mem_append_right _ hm
  · have hlt : x < w.heap.size := by simp at hx; omega
    rcases List.mem_append.1 hm with hm | hm
    · refine h.d2 x hx (List.mem_append_left _ ?_)
      simp at hm ⊢; omega
    · exact h.d2 x hx (List.mem_append_right _ hm)
  · have hlt := l8 x hx
    rcases List.mem_append.1 hm with hm | hm
    · refine h.d3 x hx (List.mem_append_left _ ?_)
      simp at hm ⊢; omega
    · exact h.d3 x hx (List.mem_append_right _ hm)

theorem RSt.congrV (h : RSt w rb pb mb ab sb eb a3 c3 cs ce size nb P wa wn wc qb qn qc W V v3 v4 v5 v6 v7) {V' : Nat → Bool} (hv : ∀ k, k < qn → V k = V' k) : RSt w rb pb mb ab sb eb a3 c3 cs ce size nb P wa wn wc qb qn qc W V' v3 v4 v5 v6 v7 :=
  ⟨h.str, h.part, h.work, h.wait.congr hv, h.d1, h.d2, h.d3, h.wcap⟩
end

theorem part_one (g : Nat → Nat) : arg g 1 = 0 := by simp [arg]

set_option maxHeartbeats 16000000 in
set_option maxRecDepth 100000 in
theorem splitBlock_any (w : World) (rb pb mb ab sb eb : Nat) (a3 : Option Addr) (c3 cs ce size n : Nat) (P0 : Pt) (wa : Option Addr) (wn wcp qb : Nat) (W : Nat → Int) (V : Nat → Bool) (v3 v4 v5 v7 : Value) (va pa : Option Addr) (vn vc pc c m : Nat) (lo hi vals mark : Nat → Nat) (Vl : Nat → Int) (kp : Nat) (ss : Nat → Nat) (q : Nat → Bool)
    (h : RSt w rb pb mb ab sb eb a3 c3 cs ce size n P0 wa wn wcp qb n n W V v3 v4 v5 (.slice va vn vc) v7) (hP : P0.Ok size n) (hc : c < n) (hpc : Pcs P0.blk size c m lo hi vals mark) (hhi : ∀ k, k < m → hi k ≤ vn)
    (hpr : RdP w pa m (fun k => (lo k : Int)) (fun k => (hi k : Int))) (hvr : SR 3 int w va vc vn Vl) (hvl : ∀ k, k < m → ∀ j, lo k ≤ j → j < hi k → Vl j = vals j) (hd : ∀ x ∈ blkOf va ++ blkOf pa, x ∉ [rb, qb, pb, mb, ab, sb, eb] ++ blkOf wa ++ blkOf a3)
    (hkp : kp = if sumTo (len2 lo hi) m = P0.en c - P0.st c then arg (len2 lo hi) m else m) (hss : ∀ k, k < m → k ≠ kp → ss (nw kp k) = hi k - lo k)
    (hq : q = qd (V c) n c (mostOf n c (arg (part (P0.en c - P0.st c - sumTo ss (nw kp m)) ss) (nw kp m + 1))))
    (hsz : size ≤ 1000000) (hn : n ≤ 100000) (hm : m ≤ 100000) (hvn : vn ≤ 1000000) (hwn : wn ≤ 1000000) (hcs : cs ≤ 9223372036854775807) (hce : ce ≤ 9223372036854775807) :
    Calls Try.prog 21 #[.pointer (some ⟨rb, 0, none⟩), .int .i64 c, .slice pa m pc] w fun e w' => SbP w rb pb mb ab sb eb a3 c3 size n P0 wa wn qb W V v3 v4 v5 (.slice va vn vc) v7 c m lo hi vals kp ss q e w' := by
  have H := hid h
  have HP := hid hP
  have HR := hid (And.intro hpc (And.intro hhi (And.intro hpr (And.intro hvr (And.intro hvl hd)))))
  have HK := hid (And.intro hkp (And.intro hss hq))
  clear h hP hpc hhi hpr hvr hvl hd hkp hss hq
  have hln : ∀ k, k < m → len2 lo hi k ≤ 1000000 := fun k hk => by have := HR.out.2.1 k hk; unfold len2; omega
  have hsum : ∀ k, k ≤ m → sumTo (len2 lo hi) k ≤ 100000000000 := fun k hk => by
    have := sum_small (len2 lo hi) 1000000 k (fun i hi' => hln i (by omega))
    have h2 := Nat.mul_le_mul_right 1000000 (show k ≤ 100000 by omega)
    omega
  have HL := hid (And.intro hln hsum)
  clear hln hsum
  go_enter Try.func21, Try.ntmps21
  go_wp2_with fail
  go_loopg [6, 7, 8, 9, 20] m (fun g la ip kk pp i wr => ∃ k : Nat, k + g = m ∧ i = .int .i64 k ∧ la = .int .i64 (arg (len2 lo hi) k : Nat) ∧ ip = .int .i64 (sumTo (len2 lo hi) k : Nat) ∧ Chg [] w wr)
  case atStart => exact ⟨0, by omega, rfl, rfl, rfl, Chg.refl _ _⟩
  case round =>
    obtain ⟨k, hkg, rfl, rfl, rfl, hch⟩ := hrel
    by_cases hlt : k < m
    · have hal : arg (len2 lo hi) k < m := by have := arg_le (len2 lo hi) k; omega
      obtain ⟨b, off, rfl, r0, r1⟩ := HR.out.2.2.1 k hlt
      obtain ⟨b', off', e1, r2, r3⟩ := HR.out.2.2.1 (arg (len2 lo hi) k) hal
      obtain ⟨rfl, rfl⟩ : b = b' ∧ off = off' := by simpa using e1
      have x0 : wr.cell? ⟨b, off + k * 2, none⟩ = some (.int .i64 (lo k)) := hch.cell r0
      have x1 : wr.cell? ⟨b, off + k * 2 + 1, none⟩ = some (.int .i64 (hi k)) := hch.cell r1
      have y2 : ∀ o, (wr.alloc o).cell? ⟨b, off + arg (len2 lo hi) k * 2, none⟩ = some (.int .i64 (lo (arg (len2 lo hi) k))) := fun o => (hch.alloc o).cell r2
      have y3 : ∀ o, (wr.alloc o).cell? ⟨b, off + arg (len2 lo hi) k * 2 + 1, none⟩ = some (.int .i64 (hi (arg (len2 lo hi) k))) := fun o => (hch.alloc o).cell r3
      have hle1 := HR.out.1.le k hlt
      have hle2 := HR.out.1.le _ hal
      have hb1 := HR.out.2.1 k hlt
      have hb2 := HR.out.2.1 _ hal
      have hsu := HL.out.2 k (by omega)
      have hsu2 : sumTo (len2 lo hi) (k + 1) = sumTo (len2 lo hi) k + (hi k - lo k) := rfl
      have harg : arg (len2 lo hi) (k + 1) = if hi (arg (len2 lo hi) k) - lo (arg (len2 lo hi) k) < hi k - lo k then k else arg (len2 lo hi) k := rfl
      obtain ⟨l, hl⟩ : ∃ l, l = arg (len2 lo hi) k := ⟨_, rfl⟩
      obtain ⟨S, hS⟩ : ∃ S, S = sumTo (len2 lo hi) k := ⟨_, rfl⟩
      rw [← hl] at y2 y3 hle2 hb2 harg hal ⊢
      rw [← hS] at hsu hsu2 ⊢
      have R := hid (And.intro hsu2 (And.intro harg (hch.alloc (.cells #[.int .i64 (lo k), .int .i64 (hi k)] 35))))
      clear hsu2 harg hch r0 r1 r2 r3 e1 hl hS
      obtain ⟨A, hA⟩ : ∃ A, A = lo k := ⟨_, rfl⟩
      obtain ⟨B, hB⟩ : ∃ B, B = hi k := ⟨_, rfl⟩
      obtain ⟨C, hC⟩ : ∃ C, C = lo l := ⟨_, rfl⟩
      obtain ⟨D, hD⟩ : ∃ D, D = hi l := ⟨_, rfl⟩
      rw [← hA, ← hB, ← hC, ← hD] at R
      rw [← hA] at x0 hle1
      rw [← hB] at x1 hle1 hb1
      rw [← hC] at y2 hle2
      rw [← hD] at y3 hle2 hb2
      clear hA hB hC hD
      have t0 : (k : Int) < (m : Int) := by omega
      have t00 : (l : Int) < (m : Int) := by omega
      have t1 : IntKind.i64.wrap ((B : Int) - (A : Int)) = ((B - A : Nat) : Int) := by rw [IntKind.wrap_i64]; omega
      have t2 : IntKind.i64.wrap ((D : Int) - (C : Int)) = ((D - C : Nat) : Int) := by rw [IntKind.wrap_i64]; omega
      have t3 : IntKind.i64.wrap ((S : Int) + ((B - A : Nat) : Int)) = ((S + (B - A) : Nat) : Int) := by rw [IntKind.wrap_i64]; omega
      by_cases hg : D - C < B - A
      · have t4 : ((D - C : Nat) : Int) < ((B - A : Nat) : Int) := by omega
        go_wp2_with fail
        go_quiet (fail)
        go_wp2_with fail
        go_roundg (m - (k + 1))
        case measure => omega
        case rel =>
          refine ⟨k + 1, by omega, by simp, by rw [R.out.2.1, if_pos hg], by rw [R.out.1]; simp, R.out.2.2.trans (drewN_chg _ _)⟩
      · have t4 : ¬ ((D - C : Nat) : Int) < ((B - A : Nat) : Int) := by omega
        go_wp2_with fail
        go_quiet (fail)
        go_wp2_with fail
        go_roundg (m - (k + 1))
        case measure => omega
        case rel =>
          refine ⟨k + 1, by omega, by simp, by rw [R.out.2.1, if_neg hg], by rw [R.out.1]; simp, R.out.2.2.trans (drewN_chg _ _)⟩
    · obtain rfl : m = k := by omega
      have t0 : ¬ (m : Int) < (m : Int) := by omega
      have hR := H.out.chg0 hch
      have hse := HP.out.se c hc
      have K23 := hid (size_any wr pb _ _ _ sb eb n cs ce c (P0.st c) (P0.en c) hR.part.str (hR.part.rst hc) (hR.part.ren hc) hc hse.1 (by omega))
      have r0 := hR.r0
      have HC := hid hch
      clear hch hR
      go_wp2_with fail
      refine K23.out.mono ?_
      rintro e w1 ⟨rfl, kd, rfl⟩
      obtain ⟨I, hI⟩ : ∃ I, I = P0.en c - P0.st c := ⟨_, rfl⟩
      obtain ⟨S, hS⟩ : ∃ S, S = sumTo (len2 lo hi) m := ⟨_, rfl⟩
      obtain ⟨A, hA⟩ : ∃ A, A = arg (len2 lo hi) m := ⟨_, rfl⟩
      rw [← hI, ← hS, ← hA]
      have HI : Hid (I = P0.en c - P0.st c ∧ S = sumTo (len2 lo hi) m ∧ A = arg (len2 lo hi) m) := ⟨hI, hS, hA⟩
      clear hI hS hA K23 t0 r0
      go_upto_if 58 with fail
      go_cut [10] from 51 to 72 (fun kv wx => ∃ K : Int, kv = .int .i64 K ∧ (∀ k, k < m → ((k : Int) = K ↔ k = kp)) ∧ Chg [] w wx)
      case first =>
        by_cases hEq : S = I
        · subst hEq
          have hkp : kp = A := by
            obtain ⟨h1, h2, h3⟩ := HI.out
            rw [HK.out.1, if_pos (by rw [← h2, ← h1]), h3]
          by_cases hm1 : m = 1
          · subst hm1
            go_wp2_with fail
            refine bodyPost_ret (results_none rfl _ _ _) rfl ?_
            have hk0 : kp = 0 := by rw [hkp, HI.out.2.2, part_one]
            have hnw : nw kp 1 = 0 := by rw [hk0]; rfl
            have hq := HK.out.2.2
            rw [hnw, part_one, show mostOf n c 0 = c from rfl] at hq
            have hV : ∀ b, (fun b => decide (b < n) && V b) b = (decide (b < n) && V b) := fun _ => rfl
            obtain ⟨q1, q2⟩ := Qu.plain (wc := V c) (c := c) (most := c) (len := wn) (work := W) hV (Or.inr rfl)
            rw [← hq] at q1 q2
            have hR := (H.out.chg0 (HC.out.trans (drewN_chg wr kd))).congrV (V' := fun b => decide (b < n) && V b) (fun b hb => by simp [hb])
            refine ⟨rfl, sb, eb, cs, ce, P0, wa, wcp, qb, n, W, fun b => decide (b < n) && V b, ?_, ?_, ?_, ?_⟩
            · rw [hnw, Nat.add_zero, q2, Nat.add_zero]; exact hR
            · exact (Ran.zero HP.out hc).skip hk0.symm
            · rw [hnw, Nat.add_zero]; exact q1
            · exact (HC.out.trans (drewN_chg wr kd)).sub (by simp)
          · have t1 : ((m : Int) == 1) = false := by simp; omega
            have t2 : ¬ (m : Int) = 1 := by omega
            have HKP := hid hkp
            clear hkp
            go_wp2_with fail
            go_meet
            case rel =>
              refine ⟨A, rfl, fun k hk => ?_, HC.out.trans (drewN_chg _ _)⟩
              rw [HKP.out]; omega
        · have t1 : ((S : Int) == (I : Int)) = false := by simp; omega
          have t2 : ¬ (S : Int) = (I : Int) := by omega
          have hkp : kp = m := by
            obtain ⟨h1, h2, h3⟩ := HI.out
            rw [HK.out.1, if_neg (by rw [← h2, ← h1]; exact hEq)]
          have HKP := hid hkp
          clear hkp
          go_wp2_with fail
          go_meet
          case rel =>
            refine ⟨-1, rfl, fun k hk => ?_, HC.out.trans (drewN_chg _ _)⟩
            rw [HKP.out]; omega
      case rest =>
        obtain ⟨K, rfl, hK, hch⟩ := hcut
        have HKK := hid hK
        have r0 := (H.out.chg0 hch).r0
        have r3 := (H.out.chg0 hch).f3
        have HC := hid hch
        clear hK hch
        go_wp2_with fail
        clear r0 r3
        go_loopg [12, 13, 73] m (fun g x y i wr => ∃ (k : Nat) (P : Pt) (sb' eb' cs' ce' : Nat), k + g = m ∧ i = .int .i64 k ∧ Ran P0 size n c lo hi vals kp ss k P ∧ RSt wr rb pb mb ab sb' eb' a3 c3 cs' ce' size (n + nw kp k) P wa wn wcp qb n n W V v3 v4 v5 (.slice va vn vc) v7 ∧ (sb' = sb ∨ w.heap.size ≤ sb') ∧ (eb' = eb ∨ w.heap.size ≤ eb') ∧ cs' ≤ 9223372036854775807 ∧ ce' ≤ 9223372036854775807 ∧ Chg ([rb, qb, pb, mb, ab, sb, eb] ++ blkOf wa ++ blkOf a3) w wr)
        case atStart => exact ⟨0, P0, sb, eb, cs, ce, by omega, rfl, Ran.zero HP.out hc, H.out.chg0 HC.out, Or.inl rfl, Or.inl rfl, hcs, hce, HC.out.sub (by simp)⟩
        case round =>
          obtain ⟨k, P, sb', eb', cs', ce', hkg, rfl, hran, hR, hsb, heb, hcs', hce', hch⟩ := hrel
          by_cases hlt : k < m
          · obtain ⟨b, off, rfl, p0', p1'⟩ := HR.out.2.2.1 k hlt
            have hbS : b ∉ [rb, qb, pb, mb, ab, sb, eb] ++ blkOf wa ++ blkOf a3 := HR.out.2.2.2.2.2 b (by simp [blkOf])
            have p0 : wr.cell? ⟨b, off + k * 2, none⟩ = some (.int .i64 (lo k)) := hch.cell p0' hbS
            have p1 : wr.cell? ⟨b, off + k * 2 + 1, none⟩ = some (.int .i64 (hi k)) := hch.cell p1' hbS
            have t0 : (k : Int) < (m : Int) := by omega
            by_cases hk : k = kp
            · obtain rfl : K = (k : Int) := ((HKK.out k hlt).2 hk).symm
              have R := hid (And.intro (hran.skip hk) (And.intro (hR.chg0 ((Chg.refl [] wr).alloc (.cells #[.int .i64 (lo k), .int .i64 (hi k)] 35))) (And.intro hsb (And.intro heb (And.intro hcs' (And.intro hce' (hch.alloc (.cells #[.int .i64 (lo k), .int .i64 (hi k)] 35))))))))
              have hnw : nw kp (k + 1) = nw kp k := by rw [nw_succ, if_pos hk]; rfl
              have HN := hid hnw
              clear hran hR hsb heb hcs' hce' hch hbS p0' p1' hnw hk
              go_wp2_with fail
              go_roundg (m - (k + 1))
              case measure => omega
              case rel =>
                obtain ⟨a1, a2, a3, a4, a5, a6, a7⟩ := R.out
                exact ⟨k + 1, P, sb', eb', cs', ce', by omega, by simp, a1, by rw [HN.out]; exact a2, a3, a4, a5, a6, a7⟩
            · have t1 : ¬ (k : Int) = K := fun h => hk ((HKK.out k hlt).1 h)
              have t2 : ((k : Int) == K) = false := by simpa using t1
              have t3 : ((k : Int) != K) = true := by simpa using t1
              rcases HR.out.2.2.2.1 with ⟨rfl, rfl, rfl⟩ | ⟨vb, rfl, hrow⟩
              · have hR2 := hR.chg0 ((Chg.refl [] wr).alloc (.cells #[.int .i64 (lo k), .int .i64 (hi k)] 35))
                have r0 := hR2.r0
                have r6 := hR2.r6
                have hle := HR.out.1.le k hlt
                have hhi := HR.out.2.1 k hlt
                have g0 : (wr.alloc (.cells #[.int .i64 (lo k), .int .i64 (hi k)] 35)).cell? ⟨wr.heap.size, 0, none⟩ = some (.int .i64 (lo k)) := (Blk.new wr [.int .i64 (lo k), .int .i64 (hi k)] 35).cell rfl
                have g1 : (wr.alloc (.cells #[.int .i64 (lo k), .int .i64 (hi k)] 35)).cell? ⟨wr.heap.size, 1, none⟩ = some (.int .i64 (hi k)) := (Blk.new wr [.int .i64 (lo k), .int .i64 (hi k)] 35).cell rfl
                have hch2 := hch.alloc (.cells #[.int .i64 (lo k), .int .i64 (hi k)] 35)
                have hsz1 : wr.heap.size ≤ (wr.alloc (.cells #[.int .i64 (lo k), .int .i64 (hi k)] 35)).heap.size := ((Chg.refl [] wr).alloc (.cells #[.int .i64 (lo k), .int .i64 (hi k)] 35)).size
                obtain ⟨A', hA'⟩ : ∃ A, A = lo k := ⟨_, rfl⟩
                obtain ⟨B, hB⟩ : ∃ B, B = hi k := ⟨_, rfl⟩
                rw [← hA', ← hB] at r0 r6 g0 g1 hR2 hch2 hsz1
                rw [← hA'] at p0 hle
                rw [← hB] at p1 hle hhi
                have HAB : Hid (A' = lo k ∧ B = hi k) := ⟨hA', hB⟩
                have t4 : (A' : Int) ≤ (B : Int) := by omega
                have t5 : (B : Int) ≤ (0 : Int) := by omega
                clear hA' hB
                obtain rfl : A' = 0 := by omega
                obtain rfl : B = 0 := by omega
                simp only [Int.natCast_zero] at r0 r6 g0 g1 p0 p1 t4 t5 hR2 hch2 hsz1
                go_upto_region 17 with fail
                obtain ⟨W1, hW1⟩ : ∃ W1, wr.alloc (.cells #[.int .i64 0, .int .i64 0] 35) = W1 := ⟨_, rfl⟩
                rw [hW1] at hR2 hch2 hsz1 r0 r6 g0 g1 ⊢
                have HH := hid (And.intro hran (And.intro hR2 (And.intro hsb (And.intro heb (And.intro hcs' (And.intro hce' (And.intro hch2 (And.intro hsz1 hch.size))))))))
                clear hran hR hR2 hch hch2 p0' p1' hsb heb hcs' hce' hsz1
                refine wp_region_parts (fun w' => w'.cell? ⟨rb, 0, none⟩ = some (.pointer (some ⟨pb, 0, none⟩)) ∧ w'.cell? ⟨rb, 6, none⟩ = some (.slice none 0 0) ∧ w'.cell? ⟨wr.heap.size, 0, none⟩ = some (.int .i64 0) ∧ w'.cell? ⟨wr.heap.size, 1, none⟩ = some (.int .i64 0))
                  [(0, false), (1, false), (2, false), (3, true), (4, false), (5, false), (6, false), (7, false), (8, true), (9, false), (10, true), (11, false), (12, true), (13, false)] [(14, true)] (by kernel_rfl) (fun _ _ _ _ _ h => h) (by kernel_rfl) ⟨r0, r6, g0, g1⟩ ?_
                simp only [pick, List.map_cons, List.map_nil, List.getElem?_toArray, List.getElem?_cons_zero, List.getElem?_cons_succ]
                repeat (refine Heads.cons (v := ?_) ?_ ?_; rotate_left 1; (· (intro w' hw'; (first | (obtain ⟨_, _, _, _⟩ := hw' rfl; clear hw') | clear hw'); go_simp; (try with_reducible rfl); done)); simp only [Act.put, List.setIfInBounds_toArray, List.set_cons_zero, List.set_cons_succ])
                refine Heads.nil ?_
                refine Rest.cons (fun K hK => ?_)
                go_simp
                obtain ⟨hran, hR2, hsb, heb, hcs', hce', hch2, hsz1, hsz0⟩ := HH.out
                have hR3 := hR2.chg0 (Chg.refl [] W1).drew
                have hLv : Leave P size c (fun t => vals (lo k + t)) (0 - 0) := by rw [← show hi k - lo k = 0 - 0 by have := HAB.out; omega]; exact hran.leave HR.out.1 hlt
                have hnwle := nw_self kp k
                have hRd : Rd nat W1.drew none (0 - 0) (fun t => vals (lo k + t)) := fun t ht => by omega
                have hav : ∀ x ∈ blkOf none, x ∉ [pb, mb, ab, sb', eb'] ++ blkOf a3 := by simp [blkOf]
                refine (split_any W1.drew pb mb ab sb' eb' a3 none c3 cs' ce' _ size (n + nw kp k) c P (fun t => vals (lo k + t)) (0 - 0) hR3.part hran.ok (by omega) hRd hLv hav hcs' hce' hsz (by omega)).mono ?_
                rintro e w2 ⟨rfl, sb2, eb2, cs2, ce2, Q, hp2, hsp, hsb2, heb2, hcs2, hce2, hch3⟩
                refine hK.out _ _ (fun h => by cases h) (Rest.nil ?_)
                clear hK K
                have hszW : w.heap.size ≤ W1.drew.heap.size := Nat.le_trans hsz0 hsz1
                have R : Hid (Ran P0 size n c lo hi vals kp ss (k + 1) Q ∧ RSt w2 rb pb mb ab sb2 eb2 a3 c3 cs2 ce2 size (n + nw kp (k + 1)) Q wa wn wcp qb n n W V v3 v4 v5 (.slice none 0 0) v7 ∧ (sb2 = sb ∨ w.heap.size ≤ sb2) ∧ (eb2 = eb ∨ w.heap.size ≤ eb2) ∧ cs2 ≤ 9223372036854775807 ∧ ce2 ≤ 9223372036854775807 ∧ Chg ([rb, qb, pb, mb, ab, sb, eb] ++ blkOf wa ++ blkOf a3) w w2) := by
                  have hnw : nw kp (k + 1) = nw kp k + 1 := by rw [nw_succ, if_neg hk]
                  refine ⟨hran.step HR.out.1 hc hlt hk (HK.out.2.1 k hlt hk) (by rw [show hi k - lo k = 0 - 0 by have := HAB.out; omega]; exact hsp), ?_, by omega, by omega, hcs2, hce2, ?_⟩
                  · rw [hnw, ← Nat.add_assoc]; exact hR3.split hp2 hsb2 heb2 hch3
                  · refine hch2.drew.then hch3 (fun i hi => ?_)
                    rcases List.mem_append.1 hi with hi | hi
                    · by_cases e : i ∈ [rb, qb, pb, mb, ab, sb, eb]
                      · exact Or.inl (List.mem_append_left _ (List.mem_append_left _ e))
                      · right; simp at hi e; omega
                    · exact Or.inl (List.mem_append_right _ hi)
                clear hran hR2 hsb heb hcs' hce' hch2 hsz1 hsz0 hR3 hLv hRd hav hp2 hsp hsb2 heb2 hcs2 hce2 hch3 HH
                go_wp2_with fail
                go_roundg (m - (k + 1))
                case measure => omega
                case rel => exact ⟨k + 1, Q, sb2, eb2, cs2, ce2, by omega, by simp, R.out.1, R.out.2.1, R.out.2.2.1, R.out.2.2.2.1, R.out.2.2.2.2.1, R.out.2.2.2.2.2.1, R.out.2.2.2.2.2.2⟩
              · have hvc : vn ≤ vc := by obtain ⟨_, _, _, h, _⟩ := hrow; exact h
                have hR2 := hR.chg0 ((Chg.refl [] wr).alloc (.cells #[.int .i64 (lo k), .int .i64 (hi k)] 35))
                have r0 := hR2.r0
                have r6 := hR2.r6
                have hle := HR.out.1.le k hlt
                have hhi := HR.out.2.1 k hlt
                have g0 : (wr.alloc (.cells #[.int .i64 (lo k), .int .i64 (hi k)] 35)).cell? ⟨wr.heap.size, 0, none⟩ = some (.int .i64 (lo k)) := (Blk.new wr [.int .i64 (lo k), .int .i64 (hi k)] 35).cell rfl
                have g1 : (wr.alloc (.cells #[.int .i64 (lo k), .int .i64 (hi k)] 35)).cell? ⟨wr.heap.size, 1, none⟩ = some (.int .i64 (hi k)) := (Blk.new wr [.int .i64 (lo k), .int .i64 (hi k)] 35).cell rfl
                have hch2 := hch.alloc (.cells #[.int .i64 (lo k), .int .i64 (hi k)] 35)
                have hsz1 : wr.heap.size ≤ (wr.alloc (.cells #[.int .i64 (lo k), .int .i64 (hi k)] 35)).heap.size := ((Chg.refl [] wr).alloc (.cells #[.int .i64 (lo k), .int .i64 (hi k)] 35)).size
                obtain ⟨A', hA'⟩ : ∃ A, A = lo k := ⟨_, rfl⟩
                obtain ⟨B, hB⟩ : ∃ B, B = hi k := ⟨_, rfl⟩
                rw [← hA', ← hB] at r0 r6 g0 g1 hR2 hch2 hsz1
                rw [← hA'] at p0 hle
                rw [← hB] at p1 hle hhi
                have HAB : Hid (A' = lo k ∧ B = hi k) := ⟨hA', hB⟩
                have t4 : (A' : Int) ≤ (B : Int) := by omega
                have t5 : (B : Int) ≤ (vc : Int) := by omega
                clear hA' hB
                obtain ⟨W1, hW1⟩ : ∃ W1, wr.alloc (.cells #[.int .i64 A', .int .i64 B] 35) = W1 := ⟨_, rfl⟩
                rw [hW1] at hR2 hch2 hsz1
                have HH := hid (And.intro hran (And.intro hR2 (And.intro hsb (And.intro heb (And.intro hcs' (And.intro hce' (And.intro hch2 (And.intro hsz1 hch.size))))))))
                clear hran hR hR2 hch hch2 p0' p1' hsb heb hcs' hce' hsz1
                go_upto_region 17 with fail
                rw [hW1] at r0 r6 g0 g1
                refine wp_region_parts (fun w' => w'.cell? ⟨rb, 0, none⟩ = some (.pointer (some ⟨pb, 0, none⟩)) ∧ w'.cell? ⟨rb, 6, none⟩ = some (.slice (some ⟨vb, 0, none⟩) vn vc) ∧ w'.cell? ⟨wr.heap.size, 0, none⟩ = some (.int .i64 A') ∧ w'.cell? ⟨wr.heap.size, 1, none⟩ = some (.int .i64 B))
                  [(0, false), (1, false), (2, false), (3, true), (4, false), (5, false), (6, false), (7, false), (8, true), (9, false), (10, true), (11, false), (12, true), (13, false)] [(14, true)] (by kernel_rfl) (fun _ _ _ _ _ h => h) (by kernel_rfl) ⟨r0, r6, g0, g1⟩ ?_
                simp only [pick, List.map_cons, List.map_nil, List.getElem?_toArray, List.getElem?_cons_zero, List.getElem?_cons_succ]
                repeat (refine Heads.cons (v := ?_) ?_ ?_; rotate_left 1; (· (intro w' hw'; (first | (obtain ⟨_, _, _, _⟩ := hw' rfl; clear hw') | clear hw'); go_simp; (try with_reducible rfl); done)); simp only [Act.put, List.setIfInBounds_toArray, List.set_cons_zero, List.set_cons_succ])
                refine Heads.nil ?_
                refine Rest.cons (fun K hK => ?_)
                go_simp
                obtain ⟨hran, hR2, hsb, heb, hcs', hce', hch2, hsz1, hsz0⟩ := HH.out
                have hR3 := hR2.chg0 (Chg.refl [] W1).drew
                have hLv : Leave P size c (fun t => vals (lo k + t)) (B - A') := by rw [HAB.out.1, HAB.out.2]; exact hran.leave HR.out.1 hlt
                have hnwle := nw_self kp k
                have hvS : vb ∉ [rb, qb, pb, mb, ab, sb, eb] ++ blkOf wa ++ blkOf a3 := HR.out.2.2.2.2.2 vb (by simp [blkOf])
                have hvlt := hrow.lt
                have hrow1 := (hrow.chg hch2 hvS).chg (Chg.refl [] W1).drew (by simp)
                obtain ⟨av, hav0⟩ : ∃ av, av = (if vc = A' then some (⟨vb, 0, none⟩ : Addr) else some ⟨vb, A', none⟩) := ⟨_, rfl⟩
                rw [← hav0]
                have hRd : Rd nat W1.drew av (B - A') (fun t => vals (lo k + t)) := fun t ht => by
                  have h1 := HAB.out
                  have h2 := HR.out.2.2.2.2.1 k hlt (lo k + t) (by omega) (by omega)
                  have h3 := hrow1.read (k := lo k + t) (by omega)
                  refine ⟨vb, A', by rw [hav0, if_neg (by omega)], ?_⟩
                  rw [h1.1, h3, h2]; rfl
                have hbo : blkOf av = [vb] := by rw [hav0]; split <;> rfl
                have hav : ∀ x ∈ blkOf av, x ∉ [pb, mb, ab, sb', eb'] ++ blkOf a3 := fun x hx hm => by
                  rw [hbo] at hx
                  obtain rfl : x = vb := by simpa using hx
                  rcases List.mem_append.1 hm with hm | hm
                  · by_cases e : x ∈ [rb, qb, pb, mb, ab, sb, eb]
                    · exact hvS (List.mem_append_left _ (List.mem_append_left _ e))
                    · simp at hm e; omega
                  · exact hvS (List.mem_append_right _ hm)
                refine (split_any W1.drew pb mb ab sb' eb' a3 av c3 cs' ce' _ size (n + nw kp k) c P (fun t => vals (lo k + t)) (B - A') hR3.part hran.ok (by omega) hRd hLv hav hcs' hce' hsz (by omega)).mono ?_
                rintro e w2 ⟨rfl, sb2, eb2, cs2, ce2, Q, hp2, hsp, hsb2, heb2, hcs2, hce2, hch3⟩
                refine hK.out _ _ (fun h => by cases h) (Rest.nil ?_)
                clear hK K
                have hszW : w.heap.size ≤ W1.drew.heap.size := Nat.le_trans hsz0 hsz1
                have R : Hid (Ran P0 size n c lo hi vals kp ss (k + 1) Q ∧ RSt w2 rb pb mb ab sb2 eb2 a3 c3 cs2 ce2 size (n + nw kp (k + 1)) Q wa wn wcp qb n n W V v3 v4 v5 (.slice (some ⟨vb, 0, none⟩) vn vc) v7 ∧ (sb2 = sb ∨ w.heap.size ≤ sb2) ∧ (eb2 = eb ∨ w.heap.size ≤ eb2) ∧ cs2 ≤ 9223372036854775807 ∧ ce2 ≤ 9223372036854775807 ∧ Chg ([rb, qb, pb, mb, ab, sb, eb] ++ blkOf wa ++ blkOf a3) w w2) := by
                  have hnw : nw kp (k + 1) = nw kp k + 1 := by rw [nw_succ, if_neg hk]
                  refine ⟨hran.step HR.out.1 hc hlt hk (HK.out.2.1 k hlt hk) (by rw [← HAB.out.1, ← HAB.out.2]; rw [HAB.out.1] at hsp ⊢; exact hsp), ?_, by omega, by omega, hcs2, hce2, ?_⟩
                  · rw [hnw, ← Nat.add_assoc]; exact hR3.split hp2 hsb2 heb2 hch3
                  · refine hch2.drew.then hch3 (fun i hi => ?_)
                    rcases List.mem_append.1 hi with hi | hi
                    · by_cases e : i ∈ [rb, qb, pb, mb, ab, sb, eb]
                      · exact Or.inl (List.mem_append_left _ (List.mem_append_left _ e))
                      · right; simp at hi e; omega
                    · exact Or.inl (List.mem_append_right _ hi)
                clear hran hR2 hsb heb hcs' hce' hch2 hsz1 hsz0 hR3 hLv hRd hav hp2 hsp hsb2 heb2 hcs2 hce2 hch3 HH
                go_wp2_with fail
                go_roundg (m - (k + 1))
                case measure => omega
                case rel => exact ⟨k + 1, Q, sb2, eb2, cs2, ce2, by omega, by simp, R.out.1, R.out.2.1, R.out.2.2.1, R.out.2.2.2.1, R.out.2.2.2.2.1, R.out.2.2.2.2.2.1, R.out.2.2.2.2.2.2⟩
          · -- FINAL
            obtain rfl : m = k := by omega
            have t0 : ¬ (m : Int) < (m : Int) := by omega
            have hsum : n + nw kp m ≤ 1000000 := by have := nw_self kp m; omega
            have HKQ := hid HK.out.2.2
            have HSZ := hid (fun i => hran.sizes hc (i := i))
            have hnwN : ∃ s, s = nw kp m := ⟨_, rfl⟩
            obtain ⟨s, hs⟩ := hnwN
            rw [← hs] at hR hsum HKQ HSZ
            have hRd := hR.chg0 (Chg.refl [] wr).drew
            obtain ⟨qb', qc', Wa, hrz, hzrow, hzc, hqb⟩ := append_zeros hRd.wait s (by omega)
            have hsa := hRd.str.chg hzc (by simp)
            have ra2 : Wa.cell? ⟨rb, 2, none⟩ = some (.slice (some ⟨qb, 0, none⟩) n n) := hsa.cell rfl
            have fa2 := hsa.frozen 2
            obtain ⟨W2, hW2⟩ : ∃ W2, Wa.setCell ⟨rb, 2, none⟩ (.slice (some ⟨qb', 0, none⟩) (n + s) qc') = W2 := ⟨_, rfl⟩
            have hc2 : Chg [rb] wr W2 := by
              rw [← hW2]
              exact (((Chg.refl [] wr).drew.trans hzc).sub (by simp)).setCell (Or.inl (by simp)) _
            have hqb' : qb' = qb ∨ wr.heap.size ≤ qb' := hqb
            have R2 : Hid (RSt W2 rb pb mb ab sb' eb' a3 c3 cs' ce' size (n + s) P wa wn wcp qb' (n + s) qc' W (fun b => decide (b < n) && V b) v3 v4 v5 (.slice va vn vc) v7 ∧ Chg ([rb, qb, pb, mb, ab, sb, eb] ++ blkOf wa ++ blkOf a3) w W2 ∧ (qb' ∈ [rb, qb, pb, mb, ab, sb, eb] ++ blkOf wa ++ blkOf a3 ∨ w.heap.size ≤ qb')) := by
              have l0 := hR.str.lt
              have l1 := hR.part.str.lt
              have l2 := hR.part.mem.lt
              have l3 := hR.part.pos.lt
              have l4 := hR.part.st.lt
              have l5 := hR.part.en.lt
              have l6 := hR.part.blk.lt
              have l7 := hR.work.lt
              have e1 : rb ≠ qb' := by
                rcases hqb' with h | h
                · rw [h]; exact hR.d1
                · omega
              refine ⟨⟨?_, hR.part.chg hc2 (fun x hx hm => ?_) (fun x hx hm => ?_), hR.work.chg hc2 (fun x hx hm => ?_), ?_, e1, fun x hx hm => ?_, fun x hx hm => ?_, hR.wcap⟩, hch.then hc2 (fun i hi => Or.inl ?_), ?_⟩
              · rw [← hW2]; exact hsa.set 2 _
              · have := hR.d2 rb (by simp); simp at hm; subst hm; exact this (List.mem_append_left _ hx)
              · have := hR.d2 rb (by simp); simp at hm; subst hm; exact this (List.mem_append_right _ hx)
              · have := hR.d3 x hx; simp at hm; subst hm; exact this (by simp)
              · rw [← hW2]
                refine (hzrow.other (fun h => e1 h.symm) _).congr (fun b _ => ?_)
                by_cases e : b < n <;> simp [e]
              · by_cases e : x ∈ [rb, qb]
                · exact hR.d2 x e hm
                · have hx2 : x = qb' := by simp at hx e; omega
                  have hx3 : wr.heap.size ≤ x := by simp at e; omega
                  rcases List.mem_append.1 hm with hm | hm
                  · simp at hm; omega
                  · have := l6 x hm; omega
              · have hx2 := l7 x hx
                refine hR.d3 x hx ?_
                rcases List.mem_append.1 hm with hm | hm
                · refine List.mem_append_left _ ?_
                  simp at hm ⊢; omega
                · exact List.mem_append_right _ hm
              · simp at hi; subst hi; simp
              · rcases hqb' with h | h
                · left; rw [h]; simp
                · right; have := hch.size; omega
            have r2 := hR.r2
            have r0 := hR.r0
            have r3 := hR.f3
            have t1 : IntKind.i64.wrap (((n + s : Nat) : Int) - (n : Int)) = (s : Int) := by rw [IntKind.wrap_i64]; omega
            have t1' : IntKind.i64.wrap ((n : Int) + (s : Int) - (n : Int)) = (s : Int) := by rw [IntKind.wrap_i64]; omega
            have HX := hid (And.intro hran (And.intro hs (And.intro hcs' hce')))
            clear hran hR hRd hzrow hzc hqb hqb' hsa hc2 hch hsb heb hcs' hce' hs
            go_upto_region 19 with fail
            refine wp_region_parts (fun w' => w'.cell? ⟨rb, 2, none⟩ = some (.slice (some ⟨qb, 0, none⟩) n n) ∧ w'.cell? ⟨rb, 0, none⟩ = some (.pointer (some ⟨pb, 0, none⟩)) ∧ w'.cell? ⟨pb, 3, none⟩ = some (.slice (some ⟨sb', 0, none⟩) (n + s) cs'))
              [(0, false), (1, false), (2, false), (3, false), (4, true), (5, false), (6, false), (7, false), (8, true), (9, false), (10, false), (11, true), (12, false), (13, false), (14, false), (15, false), (16, true), (17, false), (18, false)] [(19, true), (20, true), (21, true), (22, true)] (by kernel_rfl) (fun _ _ _ _ _ h => h) (by kernel_rfl) ⟨r2, r0, r3⟩ ?_
            simp only [pick, List.map_cons, List.map_nil, List.getElem?_toArray, List.getElem?_cons_zero, List.getElem?_cons_succ]
            repeat (refine Heads.cons (v := ?_) ?_ ?_; rotate_left 1; (· (intro w' hw'; (first | (obtain ⟨_, _, _⟩ := hw' rfl; clear hw') | clear hw'); go_simp; (try with_reducible rfl); done)); simp only [Act.put, List.setIfInBounds_toArray, List.set_cons_zero, List.set_cons_succ])
            refine Heads.nil ?_
            refine Rest.cons (fun K hK => ?_)
            refine wp_append_eq _ (.tmp 101) (.tmp 115) 31 3 rfl (.slice (some ⟨qb, 0, none⟩) n n) (.int .i64 s) (by simp [Act.eval]) (by simp [Act.eval]) (hrz _) ?_
            refine hK.out _ _ (fun h => by cases h) ?_
            clear hK K
            simp only [Act.put, List.setIfInBounds_toArray, List.set_cons_zero, List.set_cons_succ]
            refine Rest.cons (fun K hK => ?_)
            go_simp
            refine hK.out _ _ (fun h => by cases h) ?_
            clear hK K
            refine Rest.cons (fun K hK => ?_)
            go_simp
            refine hK.out _ _ (fun h => by cases h) ?_
            clear hK K
            refine Rest.cons (fun K hK => ?_)
            go_simp
            refine hK.out _ _ (fun h => by cases h) (Rest.nil ?_)
            clear hK K
            clear hrz ra2 fa2 r2 r0 r3 t1 t1' hW2
            have r2 := R2.out.1.r2
            have rq := R2.out.1.rq (k := c) (by omega)
            simp only [hc, decide_true, Bool.true_and] at rq
            have tc : (c : Int) < ((n + s : Nat) : Int) := by omega
            have r0 := R2.out.1.r0
            have r3 := R2.out.1.f3
            by_cases hvc : V c = true
            · rw [hvc] at rq HKQ
              have hqn : ∀ p, n ≤ p → q p = true := fun p hp => by rw [HKQ.out]; simp [qd, hp]
              have HQ0 : Hid (Que w rb pb mb ab sb' eb' a3 c3 cs' ce' size (n + s) P wa wn qb' qc' n W V v3 v4 v5 (.slice va vn vc) v7 q ([rb, qb, pb, mb, ab, sb, eb] ++ blkOf wa ++ blkOf a3) W2 n) := by
                obtain ⟨q1, q2⟩ := Qu.plain (wc := true) (n := n) (c := c) (most := mostOf n c (arg (part (P0.en c - P0.st c - sumTo ss s) ss) (s + 1))) (len := wn) (work := W) (waiting := V) (V := fun b => decide (b < n) && V b) (fun _ => rfl) (Or.inl rfl)
                rw [← HKQ.out] at q1 q2
                refine ⟨wa, wcp, W, _, ?_, q1, fun x hx => Or.inl hx, R2.out.2.1⟩
                rw [q2]; exact R2.out.1
              go_wp2_with fail
              clear r0 r3 r2 rq
              go_loopg [14] s (fun g i wr => ∃ p : Nat, p + g = n + s ∧ n ≤ p ∧ i = .int .i64 p ∧ Que w rb pb mb ab sb' eb' a3 c3 cs' ce' size (n + s) P wa wn qb' qc' n W V v3 v4 v5 (.slice va vn vc) v7 q ([rb, qb, pb, mb, ab, sb, eb] ++ blkOf wa ++ blkOf a3) wr p)
              case atStart => exact ⟨n, rfl, Nat.le_refl _, rfl, HQ0.out⟩
              case round =>
                obtain ⟨p, hpg, hpn, rfl, hQ⟩ := hrel
                have r0 := hQ.r0
                have r3 := hQ.f3
                by_cases hlt : p < n + s
                · have t2 : (p : Int) < ((n + s : Nat) : Int) := by omega
                  have t2' : (p : Int) < (n : Int) + (s : Int) := by omega
                  have KW := hid (hQ.next (hqn p hpn) hlt hpn (by omega) ⟨by simp, R2.out.2.2, fun x hx => List.mem_append_left _ (List.mem_append_right _ hx)⟩)
                  clear hQ
                  go_wp2_with fail
                  refine KW.out.mono ?_
                  rintro e w3 ⟨rfl, hQ3⟩
                  have HQ3 := hid hQ3
                  clear hQ3 KW
                  go_wp2_with fail
                  go_roundg (n + s - (p + 1))
                  case measure => omega
                  case rel => exact ⟨p + 1, by omega, by omega, by simp, HQ3.out⟩
                · have t2 : ¬ (p : Int) < ((n + s : Nat) : Int) := by omega
                  have t2' : ¬ (p : Int) < (n : Int) + (s : Int) := by omega
                  obtain rfl : p = n + s := by omega
                  have HQ3 := hid hQ
                  clear hQ
                  go_wp2_with fail
                  refine bodyPost_ret (results_none rfl _ _ _) rfl ?_
                  obtain ⟨wa', wc', W', V', h1, h2, h3, h4⟩ := HQ3.out
                  have hs := HX.out.2.1
                  exact ⟨rfl, sb', eb', cs', ce', P, wa', wc', qb', qc', W', V', by rw [← hs]; exact h1, HX.out.1, by rw [← hs]; exact h2, h4⟩
            · have hvc' : V c = false := by simpa using hvc
              rw [hvc'] at rq HKQ
              obtain ⟨G, hG⟩ : ∃ G, G = part (P0.en c - P0.st c - sumTo ss s) ss := ⟨_, rfl⟩
              rw [← hG] at HKQ HSZ
              clear hG
              have R3 := hid R2.out.1.part
              go_wp2_with fail
              clear r0 r3 r2 rq
              go_loopg [15, 16] s (fun g mo i wr => ∃ j d : Nat, j + g = s ∧ i = .int .i64 ((n + j : Nat) : Int) ∧ mo = .int .i64 (mostOf n c (arg G (j + 1)) : Nat) ∧ wr = W2.drewN d)
              case atStart => exact ⟨0, 0, by omega, rfl, by rw [part_one]; rfl, rfl⟩
              case round =>
                obtain ⟨j, d, hjg, rfl, rfl, rfl⟩ := hrel
                obtain ⟨W3, hW3⟩ : ∃ W3, W2.drewN d = W3 := ⟨_, rfl⟩
                have hP3 : PAt W3 pb mb ab sb' eb' a3 c3 cs' ce' size (n + s) P := by rw [← hW3]; exact R3.out.chg0 (drewN_chg _ _)
                have hR3 := R2.out.1.chg0 (drewN_chg W2 d)
                rw [hW3] at hR3 ⊢
                have r0 := hR3.r0
                have r3 := hR3.f3
                have HW3 := hid hW3
                clear hW3
                by_cases hlt : j < s
                · have hi1 : arg G (j + 1) < s + 1 := by have := arg_lt G (j + 1) (by omega); omega
                  obtain ⟨m1, m2, m3⟩ := HSZ.out _ hi1
                  obtain ⟨m4, m5, m6⟩ := HSZ.out (j + 1) (by omega)
                  have e1 : mostOf n c (j + 1) = n + j := rfl
                  have harg : arg G (j + 1 + 1) = if G (arg G (j + 1)) < G (j + 1) then j + 1 else arg G (j + 1) := rfl
                  rw [e1] at m4 m5 m6
                  rw [← m3, ← m6] at harg
                  obtain ⟨M, hM⟩ : ∃ M, M = mostOf n c (arg G (j + 1)) := ⟨_, rfl⟩
                  obtain ⟨p, hp⟩ : ∃ p, p = n + j := ⟨_, rfl⟩
                  rw [← hM] at m1 m2 m3 harg ⊢
                  rw [← hp] at m4 m5 m6 harg ⊢
                  have hpe1 := hP3.en.read m1
                  have seM : P.en M ≤ size := (HX.out.1.ok.se M (by have := HX.out.2.1; omega)).2
                  have seP : P.en p ≤ size := (HX.out.1.ok.se p (by have := HX.out.2.1; omega)).2
                  have K1 : ∀ k, Calls Try.prog 23 #[.pointer (some ⟨pb, 0, none⟩), .int .i64 p] (W3.drewN k) fun e w' => e = .returned (.int .i64 ((P.en p - P.st p : Nat) : Int)) ∧ (∃ j, w' = (W3.drewN k).drewN j) := fun k => by
                    have h := hP3.chg0 (drewN_chg W3 k)
                    exact size_any _ pb _ _ _ sb' eb' (n + s) cs' ce' p (P.st p) (P.en p) h.str (h.rst m4) (h.ren m4) m4 m5 (by omega)
                  have K2 : ∀ k, Calls Try.prog 23 #[.pointer (some ⟨pb, 0, none⟩), .int .i64 M] (W3.drewN k) fun e w' => e = .returned (.int .i64 ((P.en M - P.st M : Nat) : Int)) ∧ (∃ j, w' = (W3.drewN k).drewN j) := fun k => by
                    have h := hP3.chg0 (drewN_chg W3 k)
                    exact size_any _ pb _ _ _ sb' eb' (n + s) cs' ce' M (P.st M) (P.en M) h.str (h.rst m1) (h.ren m1) m1 m2 (by omega)
                  obtain ⟨X, hX⟩ : ∃ X, X = P.en p - P.st p := ⟨_, rfl⟩
                  obtain ⟨Y, hY⟩ : ∃ Y, Y = P.en M - P.st M := ⟨_, rfl⟩
                  rw [← hX] at K1 harg
                  rw [← hY] at K2 harg
                  have HA := hid (And.intro harg (And.intro hM hp))
                  clear hP3 hR3 m2 m3 m5 m6 e1 harg hM hX hY hpe1
                  have HK1 := hid K1
                  have HK2 := hid K2
                  clear K1 K2
                  have t2 : (p : Int) < ((n + s : Nat) : Int) := by omega
                  have t2' : (p : Int) < (n : Int) + (s : Int) := by omega
                  have hpp := hid hp
                  clear hp
                  by_cases hg : Y < X
                  · have t3 : (Y : Int) < (X : Int) := by omega
                    go_wp2_with fail
                    go_quiet (first | (go_at_call_of 23 (Value.int .i64 (p : Int)); refine Calls.quiet_of (HK1.out _)) | (go_at_call_of 23 (Value.int .i64 (M : Int)); refine Calls.quiet_of (HK2.out _)))
                    go_wp2_with fail
                    go_roundg (s - (j + 1))
                    case measure => omega
                    case rel =>
                      obtain ⟨q1, q2, q3⟩ := HA.out
                      refine ⟨j + 1, _, by omega, by rw [q3]; simp; omega, ?_, by rw [← HW3.out, World.drewN_drewN]⟩
                      rw [q1, if_pos hg, q3]; rfl
                  · have t3 : ¬ (Y : Int) < (X : Int) := by omega
                    go_wp2_with fail
                    go_quiet (first | (go_at_call_of 23 (Value.int .i64 (p : Int)); refine Calls.quiet_of (HK1.out _)) | (go_at_call_of 23 (Value.int .i64 (M : Int)); refine Calls.quiet_of (HK2.out _)))
                    go_wp2_with fail
                    go_roundg (s - (j + 1))
                    case measure => omega
                    case rel =>
                      obtain ⟨q1, q2, q3⟩ := HA.out
                      refine ⟨j + 1, _, by omega, by rw [q3]; simp; omega, ?_, by rw [← HW3.out, World.drewN_drewN]⟩
                      rw [q1, if_neg hg, q2]
                · obtain rfl : j = s := by omega
                  have t2 : ¬ ((n + j : Nat) : Int) < ((n + j : Nat) : Int) := by omega
                  have t2' : ¬ (n : Int) + (j : Int) < (n : Int) + (j : Int) := by omega
                  obtain ⟨M, hM⟩ : ∃ M, M = mostOf n c (arg G (j + 1)) := ⟨_, rfl⟩
                  rw [← hM] at HKQ ⊢
                  clear hM
                  have hSS : rb ∈ [rb, qb, pb, mb, ab, sb, eb] ++ blkOf wa ++ blkOf a3 ∧ (qb' ∈ [rb, qb, pb, mb, ab, sb, eb] ++ blkOf wa ++ blkOf a3 ∨ w.heap.size ≤ qb') ∧ ∀ x ∈ blkOf wa, x ∈ [rb, qb, pb, mb, ab, sb, eb] ++ blkOf wa ++ blkOf a3 := ⟨by simp, R2.out.2.2, fun x hx => List.mem_append_left _ (List.mem_append_right _ hx)⟩
                  have HSS := hid hSS
                  have hch3 : Chg ([rb, qb, pb, mb, ab, sb, eb] ++ blkOf wa ++ blkOf a3) w W3 := by rw [← HW3.out]; exact R2.out.2.1.trans ((drewN_chg _ _).sub (by simp))
                  have HR3 := hid (And.intro hR3 hch3)
                  have hqn : ∀ p, n ≤ p → q p = decide (p ≠ M) := fun p hp => by rw [HKQ.out]; simp [qd]; omega
                  have HQN := hid hqn
                  clear hP3 hR3 hch3 hSS hqn
                  go_upto_if 172 with fail
                  go_cut [] from 170 to 175 (fun wx => Que w rb pb mb ab sb' eb' a3 c3 cs' ce' size (n + j) P wa wn qb' qc' n W V v3 v4 v5 (.slice va vn vc) v7 q ([rb, qb, pb, mb, ab, sb, eb] ++ blkOf wa ++ blkOf a3) wx n)
                  case first =>
                    by_cases hcM : c = M
                    · subst hcM
                      go_wp2_with fail
                      go_meet
                      case rel =>
                        obtain ⟨q1, q2⟩ := Qu.plain (wc := false) (n := n) (c := c) (most := c) (len := wn) (work := W) (waiting := V) (V := fun b => decide (b < n) && V b) (fun _ => rfl) (Or.inr rfl)
                        rw [← HKQ.out] at q1 q2
                        refine ⟨wa, wcp, W, _, ?_, q1, fun x hx => Or.inl hx, HR3.out.2⟩
                        rw [q2]; exact HR3.out.1
                    · have t3 : ((c : Int) == (M : Int)) = false := by simp; omega
                      have t4 : ¬ (c : Int) = (M : Int) := by omega
                      have t5 : ((c : Int) != (M : Int)) = true := by simp; omega
                      have KW := hid (Que.call (q := q) (p := 0) (b := c) (by omega) HSS.out (by omega) (by omega) HR3.out.1 (fun x hx => Or.inl hx) HR3.out.2 (by simp [hvc']))
                      go_wp2_with fail
                      refine KW.out.mono ?_
                      rintro e w4 ⟨rfl, wa2, wc2, q1, q2, q3⟩
                      have HQ := hid (And.intro q1 (And.intro q2 q3))
                      clear q1 q2 q3 KW
                      go_wp2_with fail
                      go_meet
                      case rel =>
                        obtain ⟨q1, q2, q3⟩ := HQ.out
                        obtain ⟨f1, f2⟩ := Qu.first (n := n) (c := c) (most := M) (len := wn) (work := W) (waiting := V) (V := fun b => decide (b < n) && V b) (fun _ => rfl) hc (fun h => hcM h.symm)
                        rw [← HKQ.out] at f1 f2
                        refine ⟨wa2, wc2, _, _, ?_, f1, q2, q3⟩
                        rw [f2]; exact q1
                  case rest =>
                    have HQ0 := hid hcut
                    clear hcut r0 r3
                    go_wp2_with fail
                    go_loopg [17] j (fun g i wr => ∃ p : Nat, p + g = n + j ∧ n ≤ p ∧ i = .int .i64 p ∧ Que w rb pb mb ab sb' eb' a3 c3 cs' ce' size (n + j) P wa wn qb' qc' n W V v3 v4 v5 (.slice va vn vc) v7 q ([rb, qb, pb, mb, ab, sb, eb] ++ blkOf wa ++ blkOf a3) wr p)
                    case atStart => exact ⟨n, rfl, Nat.le_refl _, rfl, HQ0.out⟩
                    case round =>
                      obtain ⟨p, hpg, hpn, rfl, hQ⟩ := hrel
                      have r0 := hQ.r0
                      have r3 := hQ.f3
                      by_cases hlt : p < n + j
                      · have t3 : (p : Int) < ((n + j : Nat) : Int) := by omega
                        have t3' : (p : Int) < (n : Int) + (j : Int) := by omega
                        by_cases hpM : p = M
                        · subst hpM
                          have HQ3 := hid (hQ.skip (by rw [HQN.out p hpn]; simp))
                          clear hQ
                          go_wp2_with fail
                          go_roundg (n + j - (p + 1))
                          case measure => omega
                          case rel => exact ⟨p + 1, by omega, by omega, by simp, HQ3.out⟩
                        · have t4 : ((p : Int) == (M : Int)) = false := by simp; omega
                          have t5 : ¬ (p : Int) = (M : Int) := by omega
                          have t6 : ((p : Int) != (M : Int)) = true := by simp; omega
                          have KW := hid (hQ.next (by rw [HQN.out p hpn]; simp [hpM]) hlt hpn (by omega) HSS.out)
                          clear hQ
                          go_wp2_with fail
                          refine KW.out.mono ?_
                          rintro e w3 ⟨rfl, hQ3⟩
                          have HQ3 := hid hQ3
                          clear hQ3 KW
                          go_wp2_with fail
                          go_roundg (n + j - (p + 1))
                          case measure => omega
                          case rel => exact ⟨p + 1, by omega, by omega, by simp, HQ3.out⟩
                      · have t3 : ¬ (p : Int) < ((n + j : Nat) : Int) := by omega
                        have t3' : ¬ (p : Int) < (n : Int) + (j : Int) := by omega
                        obtain rfl : p = n + j := by omega
                        have HQ3 := hid hQ
                        clear hQ
                        go_wp2_with fail
                        go_end0
                        obtain ⟨wa', wc', W', V', h1, h2, h3, h4⟩ := HQ3.out
                        have hs := HX.out.2.1
                        exact ⟨rfl, sb', eb', cs', ce', P, wa', wc', qb', qc', W', V', by rw [← hs]; exact h1, HX.out.1, by rw [← hs]; exact h2, h4⟩
end Go.Proofs.Qxb6601951a
