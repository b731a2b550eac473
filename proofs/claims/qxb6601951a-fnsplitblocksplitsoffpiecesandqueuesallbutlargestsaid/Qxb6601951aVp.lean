import Derived.Test.Qxb6601951aT2
namespace Go.Proofs.Qxb6601951a
open Go.RowKit

theorem sum_bound {P : Pt} {size nb k : Nat} (h : P.Ok size nb) (hk : k ≤ nb) : sumTo (fun b => P.en b - P.st b) k ≤ size := by
  have := sumTo_le (f := fun b => P.en b - P.st b) hk
  rw [h.sum] at this
  exact this

theorem drewN_chg (w : World) (k : Nat) : Chg [] w (w.drewN k) := ⟨rfl, rfl, rfl, Nat.le_refl _, fun _ _ _ => rfl⟩

set_option maxHeartbeats 8000000 in
set_option maxRecDepth 100000 in
theorem valid_any (w : World) (mb ab sb eb : Nat) (a3 : Option Addr) (c1 c2 c3 cs ce size nb : Nat) (P : Pt) (hP : P.Ok size nb) (hm : Row 3 nat w mb size c1 P.mem) (ha : Row 3 nat w ab size c2 P.pos) (hb : SR 3 nat w a3 c3 size P.blk)
    (hs : Row 3 nat w sb nb cs P.st) (he : Row 3 nat w eb nb ce P.en) (hsz : size ≤ 1000000) (hnb : nb ≤ 1000000) :
    Calls Try.prog 10 #[.slice (some ⟨mb, 0, none⟩) size c1, .slice (some ⟨ab, 0, none⟩) size c2, .slice a3 size c3, .slice (some ⟨sb, 0, none⟩) nb cs, .slice (some ⟨eb, 0, none⟩) nb ce, .int .i64 size, .int .i64 nb] w fun e w' => e = .returned (.bool true) ∧ Chg [] w w' := by
  have H := hid (And.intro hP (And.intro hm (And.intro ha (And.intro hb (And.intro hs he)))))
  clear hP hm ha hb hs he
  go_enter Try.func10, Try.ntmps10
  go_wp2_with fail
  go_loopg [15, 16] size (fun g i x wr => ∃ k : Nat, k + g = size ∧ i = .int .i64 k ∧ wr = w)
  case atStart => exact ⟨0, by omega, rfl, rfl⟩
  case round =>
    obtain ⟨k, hkg, rfl, rfl⟩ := hrel
    by_cases hlt : k < size
    · obtain ⟨hP, hm, ha, _⟩ := H.out
      obtain ⟨q1, q2⟩ := hP.m1 k hlt
      have r1 : wr.cell? ⟨mb, k, none⟩ = some (.int .i64 (P.mem k)) := hm.read hlt
      have r2 : wr.cell? ⟨ab, P.mem k, none⟩ = some (.int .i64 (P.pos (P.mem k))) := ha.read q1
      rw [q2] at r2
      have t0 : (k : Int) < (size : Int) := by omega
      obtain ⟨x, hx⟩ : ∃ x, x = P.mem k := ⟨_, rfl⟩
      rw [← hx] at r1 r2 q1
      have t1 : decide ((x : Int) < 0) = false := by simp
      have t2 : decide ((size : Int) ≤ (x : Int)) = false := by simp; omega
      have t3 : (x : Int) < (size : Int) := by omega
      clear hx q2 hP hm ha
      go_wp2_with fail
      go_roundg (gk - 1)
      case measure => omega
      case rel => exact ⟨k + 1, by omega, by simp, rfl⟩
    · have t0 : ¬ (k : Int) < (size : Int) := by omega
      go_wp2_with fail
      go_loopg [17, 18] nb (fun g s i w2 => ∃ k q : Nat, k + g = nb ∧ i = .int .i64 k ∧ s = .int .i64 (sumTo (fun b => P.en b - P.st b) k : Nat) ∧ w2 = wr.drewN q)
      case atStart => exact ⟨0, 0, by omega, rfl, rfl, rfl⟩
      case round =>
        clear t0 hkg hlt
        obtain ⟨c, q, hcg, rfl, rfl, rfl⟩ := hrel
        by_cases hlt : c < nb
        · obtain ⟨hP, hm, ha, hb, hs, he⟩ := H.out
          obtain ⟨q1, q2⟩ := hP.se c hlt
          have r1 : wr.cell? ⟨sb, c, none⟩ = some (.int .i64 (P.st c)) := hs.read hlt
          have r2 : wr.cell? ⟨eb, c, none⟩ = some (.int .i64 (P.en c)) := he.read hlt
          have s1 := sum_bound hP (show c + 1 ≤ nb by omega)
          obtain ⟨T, hT⟩ : ∃ T, T = sumTo (fun b => P.en b - P.st b) c := ⟨_, rfl⟩
          have hT2 : sumTo (fun b => P.en b - P.st b) (c + 1) = T + (P.en c - P.st c) := by rw [hT, sumTo]
          rw [← hT]
          rw [hT2] at s1
          have HT := hid hT2
          clear hT hT2 hP hm ha hb hs he
          obtain ⟨x, hx⟩ : ∃ x, x = P.st c := ⟨_, rfl⟩
          obtain ⟨y, hy⟩ : ∃ y, y = P.en c := ⟨_, rfl⟩
          rw [← hx] at r1 q1 s1
          rw [← hy] at r2 q1 q2 s1
          have HX : Hid (x = P.st c ∧ y = P.en c) := ⟨hx, hy⟩
          clear hx hy
          have t0 : (c : Int) < (nb : Int) := by omega
          have t1 : decide ((x : Int) < 0) = false := by simp
          have t2 : decide ((y : Int) < (x : Int)) = false := by simp; omega
          have t3 : decide ((size : Int) < (y : Int)) = false := by simp; omega
          have t4 : IntKind.i64.wrap ((y : Int) - (x : Int)) = ((y - x : Nat) : Int) := by rw [IntKind.wrap_i64]; omega
          have t5 : IntKind.i64.wrap ((T : Int) + ((y - x : Nat) : Int)) = ((T + (y - x) : Nat) : Int) := by rw [IntKind.wrap_i64]; omega
          have t6 : ¬ (size : Int) < ((T + (y - x) : Nat) : Int) := by omega
          go_wp2_with fail
          go_quiet (fail)
          go_wp2_with fail
          go_quiet (fail)
          go_wp2_with fail
          go_roundg (gk - 1)
          case measure => omega
          case rel =>
            refine ⟨c + 1, _, by omega, by simp, ?_, rfl⟩
            rw [HT.out, ← HX.out.1, ← HX.out.2]
            rw [Int.natCast_add]
        · have t0 : ¬ (c : Int) < (nb : Int) := by omega
          obtain rfl : c = nb := by omega
          have HS : Hid (P.Ok size c) := H.out.1
          rw [HS.out.sum]
          go_wp2_with fail
          go_loopg [19, 20] c (fun g i j w2 => ∃ k : Nat, k + g = c ∧ i = .int .i64 k ∧ w2 = wr.drewN q)
          case atStart => exact ⟨0, by omega, rfl, rfl⟩
          case round =>
            clear t0 hcg hlt HS
            obtain ⟨d, hdg, rfl, rfl⟩ := hrel
            by_cases hlt : d < c
            · have t0 : (d : Int) < (c : Int) := by omega
              have r1 : wr.cell? ⟨sb, d, none⟩ = some (.int .i64 (P.st d)) := H.out.2.2.2.2.1.read hlt
              have r2 : wr.cell? ⟨eb, d, none⟩ = some (.int .i64 (P.en d)) := H.out.2.2.2.2.2.read hlt
              have q1 := H.out.1.se d hlt
              go_wp2_with fail
              go_loopg [20] (P.en d - P.st d) (fun g j w2 => ∃ k : Nat, k + g = P.en d ∧ P.st d ≤ k ∧ j = .int .i64 k ∧ w2 = wr.drewN q)
              case atStart => exact ⟨P.st d, by omega, Nat.le_refl _, rfl, rfl⟩
              case round =>
                obtain ⟨k, hkg, hk1, rfl, rfl⟩ := hrel
                by_cases hk2 : k < P.en d
                · have t1 : (k : Int) < (P.en d : Int) := by omega
                  have hks : k < size := by omega
                  obtain ⟨hP, hm, ha, hb, _⟩ := H.out
                  have q2 := hP.out d hlt k hk1 hk2
                  have q3 := (hP.m1 k hks).1
                  obtain ⟨b3, rfl, hb'⟩ := hb.at q3
                  have r3 : wr.cell? ⟨mb, k, none⟩ = some (.int .i64 (P.mem k)) := hm.read hks
                  have r4 : wr.cell? ⟨b3, P.mem k, none⟩ = some (.int .i64 (P.blk (P.mem k))) := hb'.read q3
                  rw [q2] at r4
                  obtain ⟨x, hx⟩ : ∃ x, x = P.mem k := ⟨_, rfl⟩
                  rw [← hx] at r3 r4 q3
                  clear hx hP hm ha hb hb' q2
                  go_wp2_with fail
                  go_roundg (P.en d - (k + 1))
                  case measure => omega
                  case rel => exact ⟨k + 1, by omega, by omega, by simp, rfl⟩
                · have t1 : ¬ (k : Int) < (P.en d : Int) := by omega
                  go_wp2_with fail
                  go_roundg (c - (d + 1))
                  case measure => omega
                  case rel => exact ⟨d + 1, by omega, by simp, rfl⟩
            · have t0 : ¬ (d : Int) < (c : Int) := by omega
              go_wp2_with fail
              go_ret
              exact ⟨rfl, drewN_chg _ _⟩
end Go.Proofs.Qxb6601951a
