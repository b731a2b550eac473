import Derived.Test.Qxb6602120aAp
namespace Go.Proofs.Qxb6602120a
open Go.RowKit

/-- The bytes of a string. -/
def vOf (s : ByteArray) : Nat → Nat := fun i => if h : i < s.size then (s[i]'h).toNat else 0
theorem vOf_get {s : ByteArray} {i : Nat} (h : i < s.size) : s[i].toNat = vOf s i := by simp [vOf, h]

abbrev M63 : Nat := 9223372036854775807

/-- The model's four rows. -/
structure MSt (w wr : World) (a5 a6 a7 a8 : Option Addr) (c5 c6 c7 c8 : Nat) (S : St) : Prop where
  ds : SR 3 nat wr a5 c5 S.m S.ds
  kd : SR 5 u8 wr a6 c6 S.m S.kd
  st : SR 3 nat wr a7 c7 S.m S.st
  cl : SR 3 int wr a8 c8 S.m S.cl
  lo : ∀ b ∈ blkOf a5 ++ blkOf a6 ++ blkOf a7 ++ blkOf a8, w.heap.size ≤ b
  d5 : ∀ b ∈ blkOf a5, b ∉ blkOf a6 ∧ b ∉ blkOf a7 ∧ b ∉ blkOf a8
  d6 : ∀ b ∈ blkOf a6, b ∉ blkOf a7 ∧ b ∉ blkOf a8
  d7 : ∀ b ∈ blkOf a7, b ∉ blkOf a8
  k5 : c5 ≤ M63
  k6 : c6 ≤ M63
  k7 : c7 ≤ M63
  k8 : c8 ≤ M63
  c : Chg [] w wr

theorem oneN (x : Nat) : (nat x).oneCell' = true := rfl
theorem oneI (x : Int) : (int x).oneCell' = true := rfl
theorem oneU (x : Nat) : (u8 x).oneCell' = true := rfl

/-- The four appends of an opener. -/
theorem MSt.push {w wr : World} {a5 a6 a7 a8 : Option Addr} {c5 c6 c7 c8 : Nat} {S : St} (h : MSt w wr a5 a6 a7 a8 c5 c6 c7 c8 S) (hm : S.m ≤ 100000) (v : Nat → Nat) (i : Nat) :
    ∃ b5 e5 W1 b6 e6 W2 b7 e7 W3 b8 e8 W4,
      (∀ ty, (Builtin.append_ #[28, 28] ty #[.slice a5 S.m c5, .slice (some ⟨wr.heap.size, 0, none⟩) 1 1]).run Try.prog (wr.alloc (.cells #[.int .i64 i] 3)) = .ok (.slice (some ⟨b5, 0, none⟩) (S.m + 1) e5) W1) ∧
      (∀ ty, (Builtin.append_ #[25, 25] ty #[.slice a6 S.m c6, .slice (some ⟨W1.heap.size, 0, none⟩) 1 1]).run Try.prog (W1.alloc (.cells #[.int .u8 (v (i + 1))] 5)) = .ok (.slice (some ⟨b6, 0, none⟩) (S.m + 1) e6) W2) ∧
      (∀ ty, (Builtin.append_ #[28, 28] ty #[.slice a7 S.m c7, .slice (some ⟨W2.heap.size, 0, none⟩) 1 1]).run Try.prog (W2.alloc (.cells #[.int .i64 0] 3)) = .ok (.slice (some ⟨b7, 0, none⟩) (S.m + 1) e7) W3) ∧
      (∀ ty, (Builtin.append_ #[28, 28] ty #[.slice a8 S.m c8, .slice (some ⟨W3.heap.size, 0, none⟩) 1 1]).run Try.prog (W3.alloc (.cells #[.int .i64 (-1)] 3)) = .ok (.slice (some ⟨b8, 0, none⟩) (S.m + 1) e8) W4) ∧
      MSt w W4 (some ⟨b5, 0, none⟩) (some ⟨b6, 0, none⟩) (some ⟨b7, 0, none⟩) (some ⟨b8, 0, none⟩) e5 e6 e7 e8 (S.opened v i) := by
  have al : ∀ (u : World) (o : Obj), Chg [] u (u.alloc o) := fun u o => (Chg.refl [] u).alloc o
  obtain ⟨b5, e5, W1, r1, row1, ch1, bb1, k1⟩ := append_one EI (by omega) oneN h.ds h.k5 (by omega) (al wr (.cells #[.int .i64 i] 3)) wr.heap.size i ((Blk.new wr [.int .i64 i] 3).cell rfl)
  have kd1 := h.kd.chg ch1 (fun b hb hm => (h.d5 b hm).1 hb)
  have st1 := h.st.chg ch1 (fun b hb hm => (h.d5 b hm).2.1 hb)
  have cl1 := h.cl.chg ch1 (fun b hb hm => (h.d5 b hm).2.2 hb)
  obtain ⟨b6, e6, W2, r2, row2, ch2, bb2, k2⟩ := append_one EU (by omega) oneU kd1 h.k6 (by omega) (al W1 (.cells #[.int .u8 (v (i + 1))] 5)) W1.heap.size (v (i + 1)) ((Blk.new W1 [.int .u8 (v (i + 1))] 5).cell rfl)
  have l5 := h.ds.lt
  have l6 := h.kd.lt
  have l7 := h.st.lt
  have l8 := h.cl.lt
  have z1 := ch1.size
  have z2 := ch2.size
  have lb5 := row1.lt
  have n56 : b5 ∉ blkOf a6 := fun hb => by
    rcases bb1 with q | q
    · exact (h.d5 b5 q).1 hb
    · have := l6 b5 hb; omega
  have n57 : b5 ∉ blkOf a7 := fun hb => by
    rcases bb1 with q | q
    · exact (h.d5 b5 q).2.1 hb
    · have := l7 b5 hb; omega
  have n58 : b5 ∉ blkOf a8 := fun hb => by
    rcases bb1 with q | q
    · exact (h.d5 b5 q).2.2 hb
    · have := l8 b5 hb; omega
  have row1' := row1.chg ch2 n56
  have st2 := st1.chg ch2 (fun b hb hm => (h.d6 b hm).1 hb)
  have cl2 := cl1.chg ch2 (fun b hb hm => (h.d6 b hm).2 hb)
  have lb6 := row2.lt
  have n65 : b6 ≠ b5 := fun e => by
    rcases bb2 with q | q
    · rw [e] at q; exact n56 q
    · omega
  have n67 : b6 ∉ blkOf a7 := fun hb => by
    rcases bb2 with q | q
    · exact (h.d6 b6 q).1 hb
    · have := l7 b6 hb; omega
  have n68 : b6 ∉ blkOf a8 := fun hb => by
    rcases bb2 with q | q
    · exact (h.d6 b6 q).2 hb
    · have := l8 b6 hb; omega
  obtain ⟨b7, e7, W3, r3, row3, ch3, bb3, k3⟩ := append_one EI (by omega) oneN st2 h.k7 (by omega) (al W2 (.cells #[.int .i64 0] 3)) W2.heap.size 0 ((Blk.new W2 [.int .i64 0] 3).cell rfl)
  have z3 := ch3.size
  have row1'' := row1'.chg ch3 n57
  have row2' := row2.chg ch3 n67
  have cl3 := cl2.chg ch3 (fun b hb hm => h.d7 b hm hb)
  have lb7 := row3.lt
  have n75 : b7 ≠ b5 := fun e => by
    rcases bb3 with q | q
    · rw [e] at q; exact n57 q
    · omega
  have n76 : b7 ≠ b6 := fun e => by
    rcases bb3 with q | q
    · rw [e] at q; exact n67 q
    · omega
  have n78 : b7 ∉ blkOf a8 := fun hb => by
    rcases bb3 with q | q
    · exact h.d7 b7 q hb
    · have := l8 b7 hb; omega
  obtain ⟨b8, e8, W4, r4, row4, ch4, bb4, k4⟩ := append_one EI (by omega) oneI cl3 h.k8 (by omega) (al W3 (.cells #[.int .i64 (-1)] 3)) W3.heap.size (-1) ((Blk.new W3 [.int .i64 (-1)] 3).cell rfl)
  have n85 : b8 ≠ b5 := fun e => by
    rcases bb4 with q | q
    · rw [e] at q; exact n58 q
    · omega
  have n86 : b8 ≠ b6 := fun e => by
    rcases bb4 with q | q
    · rw [e] at q; exact n68 q
    · omega
  have n87 : b8 ≠ b7 := fun e => by
    rcases bb4 with q | q
    · rw [e] at q; exact n78 q
    · omega
  have lo5 : ∀ x ∈ blkOf a5, w.heap.size ≤ x := fun x hx => h.lo x (by simp [hx])
  have lo6 : ∀ x ∈ blkOf a6, w.heap.size ≤ x := fun x hx => h.lo x (by simp [hx])
  have lo7 : ∀ x ∈ blkOf a7, w.heap.size ≤ x := fun x hx => h.lo x (by simp [hx])
  have lo8 : ∀ x ∈ blkOf a8, w.heap.size ≤ x := fun x hx => h.lo x (by simp [hx])
  have zc := h.c.size
  refine ⟨b5, e5, W1, b6, e6, W2, b7, e7, W3, b8, e8, W4, r1, r2, r3, r4, ⟨(row1''.chg ch4 n58).sr, (row2'.chg ch4 n68).sr, (row3.chg ch4 n78).sr, row4.sr, fun b hb => ?_, ?_, ?_, ?_, k1, k2, k3, k4, ?_⟩⟩
  · simp [blkOf] at hb
    rcases hb with rfl | rfl | rfl | rfl
    · rcases bb1 with q | q
      · exact lo5 _ q
      · omega
    · rcases bb2 with q | q
      · exact lo6 _ q
      · omega
    · rcases bb3 with q | q
      · exact lo7 _ q
      · omega
    · rcases bb4 with q | q
      · exact lo8 _ q
      · omega
  · simp [blkOf]; omega
  · simp [blkOf]; omega
  · simp [blkOf]; omega
  · refine (((h.c.then ch1 (fun x hx => Or.inr (lo5 x hx))).then ch2 (fun x hx => Or.inr (lo6 x hx))).then ch3 (fun x hx => Or.inr (lo7 x hx))).then ch4 (fun x hx => Or.inr (lo8 x hx))
end Go.Proofs.Qxb6602120a
