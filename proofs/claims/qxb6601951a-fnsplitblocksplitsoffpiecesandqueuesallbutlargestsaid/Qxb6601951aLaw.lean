import Derived.Test.Qxb6601951aT44
namespace Go.Proofs.Qxb6601951a
open Go.RowKit

set_option maxHeartbeats 40000000 in
set_option maxRecDepth 100000 in
theorem law_any (a0 a2 a3 a4 a6 : Option Addr) (n0 n2 n3 n4 n6 c0 c2 c3 c4 c6 : Nat) (B Wk : Nat → Int) (Vt : Nat → Bool) (Vl lo hi : Nat → Int) (x y : Int) (w : World) (h0 : Rd int w a0 n0 B) (h2 : Rd int w a2 n2 Wk) (h3 : Rd Value.bool w a3 n3 Vt) (h4 : Rd int w a4 n4 Vl) (h6 : RdP w a6 n6 lo hi)
    (z0 : a0 = none → n0 = 0) (z2 : a2 = none → n2 = 0) (z3 : a3 = none → n3 = 0) (z4 : a4 = none → n4 = 0) (z6 : a6 = none → n6 = 0) :
    Calls Try.prog 5 #[.slice a0 n0 c0, .int .i64 x, .slice a2 n2 c2, .slice a3 n3 c3, .slice a4 n4 c4, .int .i64 y, .slice a6 n6 c6] w fun e w' => e = .returned (.bool true) ∧ Chg [] w w' := by
  have K := hid (bytes_any a0 a2 a3 a4 a6 n0 n2 n3 n4 n6 c0 c2 c3 c4 c6 x y w)
  have H := hid (And.intro h0 (And.intro h2 (And.intro h3 (And.intro h4 h6))))
  have Z := hid (And.intro z0 (And.intro z2 (And.intro z3 (And.intro z4 z6))))
  clear h0 h2 h3 h4 h6 z0 z2 z3 z4 z6
  go_enter Try.func5, Try.ntmps5
  go_wp2_with fail
  refine K.out.mono ?_
  rintro e w1 ⟨⟨b27, rfl⟩, rfl⟩
  clear K
  cases b27
  · go_wp2_with fail
    go_ret
    exact ⟨rfl, Chg.refl _ _⟩
  by_cases g1 : 131072 < n0
  · have t1 : decide ((131072 : Int) < (n0 : Int)) = true := by simp; omega
    go_wp2_with fail
    go_ret
    exact ⟨rfl, Chg.refl _ _⟩
  have t1 : decide ((131072 : Int) < (n0 : Int)) = false := by simp; omega
  by_cases g2 : 131072 < n2
  · have t2 : decide ((131072 : Int) < (n2 : Int)) = true := by simp; omega
    go_wp2_with fail
    go_ret
    exact ⟨rfl, Chg.refl _ _⟩
  have t2 : decide ((131072 : Int) < (n2 : Int)) = false := by simp; omega
  by_cases g3 : 1048576 < n3
  · have t3 : decide ((1048576 : Int) < (n3 : Int)) = true := by simp; omega
    go_wp2_with fail
    go_ret
    exact ⟨rfl, Chg.refl _ _⟩
  have t3 : decide ((1048576 : Int) < (n3 : Int)) = false := by simp; omega
  by_cases g4 : 131072 < n4
  · have t4 : decide ((131072 : Int) < (n4 : Int)) = true := by simp; omega
    go_wp2_with fail
    go_ret
    exact ⟨rfl, Chg.refl _ _⟩
  have t4 : decide ((131072 : Int) < (n4 : Int)) = false := by simp; omega
  by_cases g5 : 65536 < n6
  · have t5 : decide ((65536 : Int) < (n6 : Int)) = true := by simp; omega
    go_wp2_with fail
    go_ret
    exact ⟨rfl, Chg.refl _ _⟩
  have t5 : decide ((65536 : Int) < (n6 : Int)) = false := by simp; omega
  have s1 : IntKind.i64.wrap (8 * (n0 : Int)) = 8 * (n0 : Int) := by rw [IntKind.wrap_i64]; omega
  have s2 : IntKind.i64.wrap (8 * (n2 : Int)) = 8 * (n2 : Int) := by rw [IntKind.wrap_i64]; omega
  have s3 : IntKind.i64.wrap (8 * (n0 : Int) + 8 * (n2 : Int)) = 8 * (n0 : Int) + 8 * (n2 : Int) := by rw [IntKind.wrap_i64]; omega
  have s4 : IntKind.i64.wrap (8 * (n0 : Int) + 8 * (n2 : Int) + (n3 : Int)) = 8 * (n0 : Int) + 8 * (n2 : Int) + (n3 : Int) := by rw [IntKind.wrap_i64]; omega
  have s5 : IntKind.i64.wrap (8 * (n4 : Int)) = 8 * (n4 : Int) := by rw [IntKind.wrap_i64]; omega
  have s6 : IntKind.i64.wrap (8 * (n0 : Int) + 8 * (n2 : Int) + (n3 : Int) + 8 * (n4 : Int)) = 8 * (n0 : Int) + 8 * (n2 : Int) + (n3 : Int) + 8 * (n4 : Int) := by rw [IntKind.wrap_i64]; omega
  have s7 : IntKind.i64.wrap (16 * (n6 : Int)) = 16 * (n6 : Int) := by rw [IntKind.wrap_i64]; omega
  have s8 : IntKind.i64.wrap (8 * (n0 : Int) + 8 * (n2 : Int) + (n3 : Int) + 8 * (n4 : Int) + 16 * (n6 : Int)) = 8 * (n0 : Int) + 8 * (n2 : Int) + (n3 : Int) + 8 * (n4 : Int) + 16 * (n6 : Int) := by rw [IntKind.wrap_i64]; omega
  by_cases g6 : (1048576 : Int) < 8 * (n0 : Int) + 8 * (n2 : Int) + (n3 : Int) + 8 * (n4 : Int) + 16 * (n6 : Int)
  · skip
    go_wp2_with fail
    go_ret
    exact ⟨rfl, Chg.refl _ _⟩
  have t6 : decide ((1048576 : Int) < 8 * (n0 : Int) + 8 * (n2 : Int) + (n3 : Int) + 8 * (n4 : Int) + 16 * (n6 : Int)) = false := by simp; omega
  by_cases g7 : x < 1
  · have t7 : decide (x < 1) = true := by simp; omega
    go_wp2_with fail
    go_ret
    exact ⟨rfl, Chg.refl _ _⟩
  have t7 : decide (x < 1) = false := by simp; omega
  by_cases g8 : 65536 < x
  · have t8 : decide (65536 < x) = true := by simp; omega
    go_wp2_with fail
    go_ret
    exact ⟨rfl, Chg.refl _ _⟩
  have t8 : decide (65536 < x) = false := by simp; omega
  obtain ⟨N, rfl⟩ : ∃ N : Nat, x = N := ⟨x.toNat, by omega⟩
  by_cases g9 : ¬ n3 = N
  · have t9 : ((n3 : Int) == (N : Int)) = false := by simp; omega
    have t9b : ((n3 : Int) != (N : Int)) = true := by simp; omega
    have t9c : ¬ (n3 : Int) = (N : Int) := by omega
    go_wp2_with fail
    go_ret
    exact ⟨rfl, Chg.refl _ _⟩
  obtain rfl : n3 = N := by omega
  by_cases g10 : y < 0
  · have t10 : decide (y < 0) = true := by simp; omega
    go_wp2_with fail
    go_ret
    exact ⟨rfl, Chg.refl _ _⟩
  have t10 : decide (y < 0) = false := by simp; omega
  obtain ⟨C, rfl⟩ : ∃ C : Nat, y = C := ⟨y.toNat, by omega⟩
  by_cases g11 : n3 ≤ C
  · have t11 : decide ((n3 : Int) ≤ (C : Int)) = true := by simp; omega
    go_wp2_with fail
    go_ret
    exact ⟨rfl, Chg.refl _ _⟩
  have t11 : decide ((n3 : Int) ≤ (C : Int)) = false := by simp; omega
  have G0 : n0 ≤ 131072 := by omega
  have G2 : n2 ≤ 131072 := by omega
  have G4 : n4 ≤ 131072 := by omega
  have G6 : n6 ≤ 65536 := by omega
  have gn : n3 ≤ 65536 := by omega
  have gC : C < n3 := by omega
  go_wp2_with fail
  clear s1 s2 s3 s4 s5 s6 s7 s8 t1 t2 t3 t4 t5 t6 t7 t8 t10 t11 g1 g2 g3 g4 g5 g6 g7 g8 g9 g10 g11
  go_loopg [16] n0 (fun g i wr => ∃ k : Nat, k + g = n0 ∧ i = .int .i64 k ∧ (∀ j, j < k → 0 ≤ B j ∧ B j < n3) ∧ w1 = wr)
  case atStart => exact ⟨0, by omega, rfl, fun j h => by omega, rfl⟩
  case round =>
  obtain ⟨k, hkg, rfl, hB, rfl⟩ := hrel
  by_cases hlt : k < n0
  · obtain ⟨b, off, rfl, r0'⟩ := H.out.1 k hlt
    have r0 : w1.cell? ⟨b, off + k, none⟩ = some (.int .i64 (B k)) := r0'
    have t0 : (k : Int) < (n0 : Int) := by omega
    clear r0'
    by_cases u1 : B k < 0
    · have t1 : decide (B k < 0) = true := by simp; omega
      go_wp2_with fail
      go_ret
      exact ⟨rfl, Chg.refl _ _⟩
    have t1 : decide (B k < 0) = false := by simp; omega
    by_cases u2 : (n3 : Int) ≤ B k
    · have t2 : decide ((n3 : Int) ≤ B k) = true := by simp; omega
      go_wp2_with fail
      go_ret
      exact ⟨rfl, Chg.refl _ _⟩
    have t2 : decide ((n3 : Int) ≤ B k) = false := by simp; omega
    have HB : Hid (∀ j, j < k + 1 → 0 ≤ B j ∧ B j < n3) := fun j hj => by
      by_cases e : j = k
      · subst e; omega
      · exact hB j (by omega)
    clear hB
    go_wp2_with fail
    go_roundg (n0 - (k + 1))
    case measure => omega
    case rel => exact ⟨k + 1, by omega, by simp, HB.out, rfl⟩
  obtain rfl : n0 = k := by omega
  have t0 : ¬ (n0 : Int) < (n0 : Int) := by omega
  obtain ⟨blk, hblk⟩ : ∃ blk : Nat → Nat, ∀ j, j < n0 → B j = blk j ∧ blk j < n3 := ⟨fun j => (B j).toNat, fun j hj => by show B j = ((B j).toNat : Int) ∧ (B j).toNat < n3; have := hB j hj; omega⟩
  have HB := hid hblk
  clear hB hblk hkg hlt
  have hmk := make_bools (n3 : Int) n3 rfl (by omega)
  go_wp2_with fail
  clear hmk t0
  go_loopg [18, 19] n2 (fun g i v wr => ∃ (k : Nat) (f : Nat → Bool), k + g = n2 ∧ i = .int .i64 k ∧ Row 4 Value.bool wr w1.heap.size n3 n3 f ∧ Chg [] w1 wr)
  case atStart => exact ⟨0, _, by omega, rfl, Row.made w1 n3 _ false rfl, (Chg.refl [] w1).alloc _⟩
  case round =>
  obtain ⟨k, f, hkg, rfl, hf, hc⟩ := hrel
  have HF := hid (And.intro hf hc)
  by_cases hlt : k < n2
  · obtain ⟨b, off, rfl, r0'⟩ := H.out.2.1.chg0 hc k hlt
    have r0 : wr.cell? ⟨b, off + k, none⟩ = some (.int .i64 (Wk k)) := r0'
    have t0 : (k : Int) < (n2 : Int) := by omega
    clear r0'
    by_cases u1 : Wk k < 0
    · have t1 : decide (Wk k < 0) = true := by simp; omega
      clear hf hc
      go_wp2_with fail
      go_ret
      exact ⟨rfl, HF.out.2⟩
    have t1 : decide (Wk k < 0) = false := by simp; omega
    by_cases u2 : (n3 : Int) ≤ Wk k
    · have t2 : decide ((n3 : Int) ≤ Wk k) = true := by simp; omega
      clear hf hc
      go_wp2_with fail
      go_ret
      exact ⟨rfl, HF.out.2⟩
    obtain ⟨X, hX⟩ : ∃ X : Nat, Wk k = X := ⟨(Wk k).toNat, by omega⟩
    rw [hX] at r0 t1
    have hXn : X < n3 := by omega
    have t2 : decide ((n3 : Int) ≤ (X : Int)) = false := by simp; omega
    have t3 : (X : Int) < (n3 : Int) := by omega
    have r1 : wr.cell? ⟨w1.heap.size, X, none⟩ = some (.bool (f X)) := hf.read hXn
    have f1 := hf.frozen X
    obtain ⟨b3, off3, rfl, r2'⟩ := H.out.2.2.1.chg0 hc X hXn
    have r2 : wr.cell? ⟨b3, off3 + X, none⟩ = some (.bool (Vt X)) := r2'
    have HS : Hid (Row 4 Value.bool (wr.setCell ⟨w1.heap.size, X, none⟩ (.bool true)) w1.heap.size n3 n3 (upd f X true) ∧ Chg [] w1 (wr.setCell ⟨w1.heap.size, X, none⟩ (.bool true))) := ⟨hf.set X true, hc.setCell (Or.inr (Nat.le_refl _)) _⟩
    clear hf hc r2' hX u1 u2
    by_cases u3 : f X = true
    · rw [u3] at r1
      go_wp2_with fail
      go_ret
      exact ⟨rfl, HF.out.2⟩
    have u3' : f X = false := by simpa using u3
    rw [u3'] at r1
    by_cases u4 : Vt X = true
    · rw [u4] at r2
      go_wp2_with fail
      go_roundg (n2 - (k + 1))
      case measure => omega
      case rel => exact ⟨k + 1, _, by omega, by simp, HS.out.1, HS.out.2⟩
    · have u4' : Vt X = false := by simpa using u4
      rw [u4'] at r2
      go_wp2_with fail
      go_ret
      exact ⟨rfl, HF.out.2⟩
  obtain rfl : n2 = k := by omega
  have t0 : ¬ (n2 : Int) < (n2 : Int) := by omega
  clear hf hc hkg hlt
  obtain ⟨wl, rfl⟩ : ∃ wl, wl = wr := ⟨_, rfl⟩
  go_wp2_with fail
  clear t0
  go_loopg [20] n3 (fun g i wr => ∃ k : Nat, k + g = n3 ∧ i = .int .i64 k ∧ wl = wr)
  case atStart => exact ⟨0, by omega, rfl, rfl⟩
  case round =>
  obtain ⟨k, hkg, rfl, rfl⟩ := hrel
  by_cases hlt : k < n3
  · have t0 : (k : Int) < (n3 : Int) := by omega
    obtain ⟨b3, off3, rfl, r2'⟩ := H.out.2.2.1.chg0 HF.out.2 k hlt
    have r2 : wl.cell? ⟨b3, off3 + k, none⟩ = some (.bool (Vt k)) := r2'
    have r1 : wl.cell? ⟨w1.heap.size, k, none⟩ = some (.bool (f k)) := HF.out.1.read hlt
    clear r2'
    by_cases u4 : Vt k = true
    · rw [u4] at r2
      by_cases u3 : f k = true
      · rw [u3] at r1
        go_wp2_with fail
        go_roundg (n3 - (k + 1))
        case measure => omega
        case rel => exact ⟨k + 1, by omega, by simp, rfl⟩
      · have u3' : f k = false := by simpa using u3
        rw [u3'] at r1
        go_wp2_with fail
        go_ret
        exact ⟨rfl, HF.out.2⟩
    · have u4' : Vt k = false := by simpa using u4
      rw [u4'] at r2
      go_wp2_with fail
      go_roundg (n3 - (k + 1))
      case measure => omega
      case rel => exact ⟨k + 1, by omega, by simp, rfl⟩
  obtain rfl : n3 = k := by omega
  have t0 : ¬ (n3 : Int) < (n3 : Int) := by omega
  have HC := hid HF.out.2
  have hmk := make_ints (n0 : Int) n0 rfl (by omega)
  clear HF hkg hlt
  go_wp2_with fail
  clear t0 hmk
  obtain ⟨kb, hkb⟩ : ∃ kb, kb = wl.heap.size := ⟨_, rfl⟩
  have HM0 : Hid (Row 3 nat (wl.alloc (.cells (List.replicate n0 (Value.int .i64 0)).toArray 3)) kb n0 n0 (fun _ => 0) ∧ Chg [] w1 (wl.alloc (.cells (List.replicate n0 (Value.int .i64 0)).toArray 3)) ∧ w1.heap.size ≤ kb) := by
    rw [hkb]; exact ⟨Row.made wl n0 _ 0 rfl, HC.out.alloc _, HC.out.size⟩
  rw [← hkb]
  clear HC hkb
  have eA : (List.replicate n0 (Value.int .i64 0)).toArray = Array.replicate n0 (Value.int .i64 0) := by simp
  rw [eA] at HM0
  clear eA
  generalize wl.alloc (.cells (Array.replicate n0 (Value.int .i64 0)) 3) = wm at HM0 ⊢
  obtain ⟨lo', hlo'⟩ : ∃ lo' : Nat → Nat, lo' = fun k => (lo k).toNat := ⟨_, rfl⟩
  obtain ⟨hi', hhi'⟩ : ∃ hi' : Nat → Nat, hi' = fun k => (hi k).toNat := ⟨_, rfl⟩
  obtain ⟨vals, hvals⟩ : ∃ vals : Nat → Nat, vals = fun k => (Vl k).toNat := ⟨_, rfl⟩
  have HV : Hid (lo' = (fun k => (lo k).toNat) ∧ hi' = (fun k => (hi k).toNat) ∧ vals = fun k => (Vl k).toNat) := ⟨hlo', hhi', hvals⟩
  clear hlo' hhi' hvals
  go_loopg [23, 24, 25, 26, 27] n6 (fun g i v24 v25 v26 v27 wr => ∃ (k : Nat) (mark : Nat → Nat), k + g = n6 ∧ i = .int .i64 k ∧ Pcs blk n0 C k lo' hi' vals mark ∧ (∀ k', k' < k → 0 ≤ lo k' ∧ lo k' ≤ hi k' ∧ hi k' ≤ n4) ∧ (∀ k', k' < k → ∀ j, lo' k' ≤ j → j < hi' k' → 0 ≤ Vl j) ∧ Row 3 nat wr kb n0 n0 mark ∧ Chg [] w1 wr)
  case atStart => exact ⟨0, _, by omega, rfl, Pcs.zero _ _ _ _ _ _, fun k h => by omega, fun k h => by omega, HM0.out.1, HM0.out.2.1⟩
  case round =>
  obtain ⟨k, mark, hkg, rfl, hpc, hlh, hvp, hrow, hc⟩ := hrel
  have HQ := hid (And.intro hpc (And.intro hlh (And.intro hvp (And.intro hrow hc))))
  clear hpc hlh hvp hrow hc
  by_cases hlt : k < n6
  · obtain ⟨b, off, rfl, p0', p1'⟩ := H.out.2.2.2.2 k hlt
    have p0 : wr.cell? ⟨b, off + k * 2, none⟩ = some (.int .i64 (lo k)) := HQ.out.2.2.2.2.cell p0'
    have p1 : wr.cell? ⟨b, off + k * 2 + 1, none⟩ = some (.int .i64 (hi k)) := HQ.out.2.2.2.2.cell p1'
    have t0 : (k : Int) < (n6 : Int) := by omega
    clear p0' p1'
    by_cases u1 : lo k < 0
    · have t1 : decide (lo k < 0) = true := by simp; omega
      go_wp2_with fail
      go_ret
      exact ⟨rfl, HQ.out.2.2.2.2⟩
    have t1 : decide (lo k < 0) = false := by simp; omega
    by_cases u2 : hi k < lo k
    · have t2 : decide (hi k < lo k) = true := by simp; omega
      go_wp2_with fail
      go_ret
      exact ⟨rfl, HQ.out.2.2.2.2⟩
    have t2 : decide (hi k < lo k) = false := by simp; omega
    by_cases u3 : (n4 : Int) < hi k
    · have t3 : decide ((n4 : Int) < hi k) = true := by simp; omega
      go_wp2_with fail
      go_ret
      exact ⟨rfl, HQ.out.2.2.2.2⟩
    have t3 : decide ((n4 : Int) < hi k) = false := by simp; omega
    obtain ⟨A, hA⟩ : ∃ A : Nat, lo k = A := ⟨(lo k).toNat, by omega⟩
    obtain ⟨E, hE⟩ : ∃ E : Nat, hi k = E := ⟨(hi k).toNat, by omega⟩
    rw [hA] at p0 t1 t2
    rw [hE] at p1 t2 t3
    have HAE : Hid (lo k = A ∧ hi k = E ∧ lo' k = A ∧ hi' k = E) := ⟨hA, hE, by rw [HV.out.1]; simp; omega, by rw [HV.out.2.1]; simp; omega⟩
    have hAE : A ≤ E := by omega
    have hEn : E ≤ n4 := by omega
    have t2n : decide (E < A) = false := by simp; omega
    have t3n : decide (n4 < E) = false := by simp; omega
    clear u1 u2 u3 hA hE
    go_wp2_with fail
    clear t1 t2 t3 p0 p1 t2n t3n
    go_loopg [26, 27] (E - A) (fun g i v27 wr => ∃ (j : Nat) (mark : Nat → Nat), j + g = E ∧ A ≤ j ∧ i = .int .i64 j ∧ Pcs blk n0 C (k + 1) lo' (upd hi' k j) vals mark ∧ (∀ j', A ≤ j' → j' < j → 0 ≤ Vl j') ∧ Row 3 nat wr kb n0 n0 mark ∧ Chg [] w1 wr)
    case atStart =>
      refine ⟨A, mark, by omega, Nat.le_refl _, rfl, ?_, fun j h1 h2 => by omega, HQ.out.2.2.2.1, HQ.out.2.2.2.2⟩
      have := HQ.out.1.begin
      rw [HAE.out.2.2.1] at this
      exact this
    case round =>
      obtain ⟨j, mark2, hjg, hAj, rfl, hpc, hvp, hrow, hc⟩ := hrel
      by_cases hlj : j < E
      · obtain ⟨b4, off4, rfl, r0'⟩ := H.out.2.2.2.1.chg0 hc j (by omega)
        have r0 : wr.cell? ⟨b4, off4 + j, none⟩ = some (.int .i64 (Vl j)) := r0'
        have t4 : (j : Int) < (E : Int) := by omega
        have t5 : (j : Int) < (n4 : Int) := by omega
        have HCC := hid hc
        clear r0'
        by_cases u1 : Vl j < 0
        · have t1 : decide (Vl j < 0) = true := by simp; omega
          clear hpc hvp hrow hc
          go_wp2_with fail
          go_ret
          exact ⟨rfl, HCC.out⟩
        have t1 : decide (Vl j < 0) = false := by simp; omega
        by_cases u2 : (n0 : Int) ≤ Vl j
        · have t2 : decide ((n0 : Int) ≤ Vl j) = true := by simp; omega
          clear hpc hvp hrow hc
          go_wp2_with fail
          go_ret
          exact ⟨rfl, HCC.out⟩
        obtain ⟨X, hX⟩ : ∃ X : Nat, Vl j = X := ⟨(Vl j).toNat, by omega⟩
        have hXv : vals j = X := by rw [HV.out.2.2]; simp; omega
        have hXn : X < n0 := by omega
        rw [hX] at r0 t1
        have t2 : decide ((n0 : Int) ≤ (X : Int)) = false := by simp; omega
        have t3 : (X : Int) < (n0 : Int) := by omega
        obtain ⟨b0, off0, rfl, r1'⟩ := H.out.1.chg0 hc X hXn
        have r1 : wr.cell? ⟨b0, off0 + X, none⟩ = some (.int .i64 (blk X)) := by rw [r1', (HB.out X hXn).1]; rfl
        have r2 : wr.cell? ⟨kb, X, none⟩ = some (.int .i64 (mark2 X)) := hrow.read hXn
        have f2 := hrow.frozen X
        have hvp' : ∀ j', A ≤ j' → j' < j + 1 → 0 ≤ Vl j' := fun j' h1 h2 => by
          by_cases e : j' = j
          · subst e; omega
          · exact hvp j' h1 (by omega)
        have HS : Hid ((blk X = C → mark2 X = 0 → Pcs blk n0 C (k + 1) lo' (upd hi' k (j + 1)) vals (upd mark2 X (k + 1))) ∧ (∀ j', A ≤ j' → j' < j + 1 → 0 ≤ Vl j') ∧ Row 3 nat (wr.setCell ⟨kb, X, none⟩ (.int .i64 ((k : Int) + 1))) kb n0 n0 (upd mark2 X (k + 1)) ∧ Chg [] w1 (wr.setCell ⟨kb, X, none⟩ (.int .i64 ((k : Int) + 1)))) := by
          refine ⟨fun h1 h2 => ?_, hvp', hrow.set X (k + 1), hc.setCell (Or.inr HM0.out.2.2) _⟩
          have := hpc.step (by rw [HAE.out.2.2.1]; exact hAj) (by rw [hXv]; exact hXn) (by rw [hXv]; exact h1) (by rw [hXv]; exact h2)
          rw [hXv] at this
          exact this
        clear hpc hvp hvp' hrow hc r1' hX hXv u1 u2
        obtain ⟨y, hy⟩ : ∃ y, y = blk X := ⟨_, rfl⟩
        obtain ⟨z, hz⟩ : ∃ z, z = mark2 X := ⟨_, rfl⟩
        rw [← hy] at r1 HS
        rw [← hz] at r2 HS
        clear hy hz
        by_cases u3 : y = C
        · obtain rfl : C = y := u3.symm
          by_cases u4 : z = 0
          · subst u4
            have t6 : IntKind.i64.wrap ((k : Int) + 1) = (k : Int) + 1 := by rw [IntKind.wrap_i64]; omega
            simp only [Int.natCast_zero] at r2
            go_wp2_with fail
            go_roundg (E - (j + 1))
            case measure => omega
            case rel => exact ⟨j + 1, _, by omega, by omega, by simp, HS.out.1 (by first | trivial | rfl) (by first | trivial | rfl), HS.out.2.1, HS.out.2.2.1, HS.out.2.2.2⟩
          · have t7 : ((z : Int) == 0) = false := by simp; omega
            have t8 : ((z : Int) != 0) = true := by simp; omega
            have t9 : ¬ (z : Int) = 0 := by omega
            go_wp2_with fail
            go_ret
            exact ⟨rfl, HCC.out⟩
        · have t7 : ((y : Int) == (C : Int)) = false := by simp; omega
          have t8 : ((y : Int) != (C : Int)) = true := by simp; omega
          have t9 : ¬ (y : Int) = (C : Int) := by omega
          go_wp2_with fail
          go_ret
          exact ⟨rfl, HCC.out⟩
      · obtain rfl : E = j := by omega
        have t4 : ¬ (E : Int) < (E : Int) := by omega
        have HS : Hid (Pcs blk n0 C (k + 1) lo' hi' vals mark2 ∧ (∀ k', k' < k + 1 → 0 ≤ lo k' ∧ lo k' ≤ hi k' ∧ hi k' ≤ n4) ∧ (∀ k', k' < k + 1 → ∀ j, lo' k' ≤ j → j < hi' k' → 0 ≤ Vl j) ∧ Row 3 nat wr kb n0 n0 mark2 ∧ Chg [] w1 wr) := by
          refine ⟨?_, fun k' hk' => ?_, fun k' hk' j h1 h2 => ?_, hrow, hc⟩
          · rw [← HAE.out.2.2.2] at hpc; exact hpc.finish
          · by_cases e : k' = k
            · subst e; have := HAE.out; omega
            · exact HQ.out.2.1 k' (by omega)
          · by_cases e : k' = k
            · subst e; have := HAE.out; exact hvp j (by omega) (by omega)
            · exact HQ.out.2.2.1 k' (by omega) j h1 h2
        clear hpc hvp hrow hc
        go_wp2_with fail
        go_roundg (n6 - (k + 1))
        case measure => omega
        case rel => exact ⟨k + 1, mark2, by omega, by simp, HS.out.1, HS.out.2.1, HS.out.2.2.1, HS.out.2.2.2.1, HS.out.2.2.2.2⟩
  obtain rfl : n6 = k := by omega
  have t0 : ¬ (n6 : Int) < (n6 : Int) := by omega
  have hE : Env1 w1 wr a0 a2 a3 a4 a6 n0 n2 n3 n4 n6 C kb B Wk Vt Vl lo hi blk lo' hi' vals mark := by
    obtain ⟨q1, q2, q3, q4, q5⟩ := HQ.out
    obtain ⟨e1, e2, e3⟩ := HV.out
    refine ⟨H.out.1, H.out.2.1, H.out.2.2.1, H.out.2.2.2.1, H.out.2.2.2.2, Z.out.1, Z.out.2.1, Z.out.2.2.1, Z.out.2.2.2.1, Z.out.2.2.2.2, G0, G2, gn, G4, G6, gC, HB.out, q1, fun k hk => ?_, fun k hk j h1 h2 => ?_, q4, HM0.out.2.2, q5⟩
    · have := q2 k hk
      rw [e1, e2]
      simp only
      omega
    · have := q3 k hk j h1 h2
      rw [e3]
      simp only
      omega
  go_upto_region 44 with fail
  refine wp_mono (tail44 hE _ _ rfl) ?_
  intro e a w' h
  cases e
  case normal => exact ‹∀ (a : Act) (w : World), Code.wp _ _ _ a w → _› a w' h
  all_goals exact h
end Go.Proofs.Qxb6601951a
