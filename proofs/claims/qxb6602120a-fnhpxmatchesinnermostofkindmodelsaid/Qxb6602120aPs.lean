import Derived.Test.Qxb6602120aMp
namespace Go.Proofs.Qxb6602120a
open Go.RowKit

/-- The program's rows: found, stack, and the counters. -/
structure PSt (w wr : World) (af ak : Option Addr) (cf ck mb L : Nat) (sk : Nat → Nat) (mp : Mp) (S : St) : Prop where
  fd : PS wr af cf S.m S.ds S.cl
  stk : SR 3 nat wr ak ck L sk
  map : MapAt wr mb mp
  g1 : getV mp 123 = openOf S.st S.kd 123 S.m
  g2 : getV mp 91 = openOf S.st S.kd 91 S.m
  sta : Stack S.st S.m L sk
  d1 : ∀ b ∈ blkOf af, b ∉ blkOf ak ∧ b ≠ mb
  d2 : ∀ b ∈ blkOf ak, b ≠ mb
  lo : ∀ b ∈ mb :: blkOf af ++ blkOf ak, w.heap.size ≤ b
  k1 : cf ≤ M63
  k2 : ck ≤ M63
  c : Chg [] w wr

theorem zero3 : ∀ w, (zeroValue 3).run Try.prog w = .ok (.int .i64 0) w := fun _ => by kernel_rfl

/-- An opener: on the stack, into found, counted. -/
theorem PSt.push {w wr : World} {af ak : Option Addr} {cf ck mb L : Nat} {sk : Nat → Nat} {mp : Mp} {S : St} (h : PSt w wr af ak cf ck mb L sk mp S) (hm : S.m ≤ 100000) (hL : L ≤ 100000) (v : Nat → Nat) (i : Nat) :
    ∃ bk ek W1 bf ef W2,
      (∀ ty, (Builtin.append_ #[28, 28] ty #[.slice ak L ck, .slice (some ⟨wr.heap.size, 0, none⟩) 1 1]).run Try.prog (wr.alloc (.cells #[.int .i64 S.m] 3)) = .ok (.slice (some ⟨bk, 0, none⟩) (L + 1) ek) W1) ∧
      (∀ ty, (Builtin.append_ #[34, 34] ty #[.slice af S.m cf, .slice (some ⟨W1.heap.size, 0, none⟩) 1 1]).run Try.prog (W1.alloc (.cells #[.int .i64 i, .int .i64 (-1)] 37)) = .ok (.slice (some ⟨bf, 0, none⟩) (S.m + 1) ef) W2) ∧
      MapAt W2 mb mp ∧
      PSt w (setMap W2 mb (put mp (v (i + 1)) (getV mp (v (i + 1)) + 1))) (some ⟨bf, 0, none⟩) (some ⟨bk, 0, none⟩) ef ek mb (L + 1) (upd sk L S.m) (put mp (v (i + 1)) (getV mp (v (i + 1)) + 1)) (S.opened v i) := by
  have al : ∀ (u : World) (o : Obj), Chg [] u (u.alloc o) := fun u o => (Chg.refl [] u).alloc o
  obtain ⟨bk, ek, W1, r1, row1, ch1, bb1, k1⟩ := append_one EI (by omega) oneN h.stk h.k2 (by omega) (al wr (.cells #[.int .i64 S.m] 3)) wr.heap.size S.m ((Blk.new wr [.int .i64 S.m] 3).cell rfl)
  have fd1 := h.fd.chg ch1 (fun b hb hm => (h.d1 b hb).1 hm)
  have mp1 := h.map.chg ch1 (fun hm => h.d2 mb hm rfl)
  obtain ⟨bf, ef, W2, r2, row2, ch2, bb2, k2⟩ := append_pair fd1 h.k1 (by omega) (al W1 (.cells #[.int .i64 i, .int .i64 (-1)] 37)) W1.heap.size i (-1) ((Blk.new W1 [.int .i64 i, .int .i64 (-1)] 37).cell rfl) ((Blk.new W1 [.int .i64 i, .int .i64 (-1)] 37).cell rfl)
  have mp2 := mp1.chg ch2 (fun hm => (h.d1 mb hm).2 rfl)
  have lf := h.fd.lt
  have lk := h.stk.lt
  have lm := h.map.lt
  have z1 := ch1.size
  have z2 := ch2.size
  have zc := h.c.size
  have lb1 := row1.lt
  have nbk : bk ∉ blkOf af := fun hb => by
    rcases bb1 with q | q
    · exact (h.d1 bk hb).1 q
    · have := lf bk hb; omega
  have row1' := row1.chg ch2 nbk
  have nfk : bf ≠ bk := fun e => by
    rcases bb2 with q | q
    · rw [e] at q; exact nbk q
    · omega
  have nfm : bf ≠ mb := fun e => by
    rcases bb2 with q | q
    · exact (h.d1 bf q).2 e
    · omega
  have nkm : bk ≠ mb := fun e => by
    rcases bb1 with q | q
    · exact h.d2 bk q e
    · omega
  have lom : w.heap.size ≤ mb := h.lo mb (by simp)
  have lof : ∀ b ∈ blkOf af, w.heap.size ≤ b := fun b hb => h.lo b (by simp [hb])
  have lok : ∀ b ∈ blkOf ak, w.heap.size ≤ b := fun b hb => h.lo b (by simp [hb])
  have c2 : Chg [] w W2 := (h.c.then ch1 (fun x hx => Or.inr (lok x hx))).then ch2 (fun x hx => Or.inr (lof x hx))
  have cm : Chg [mb] W2 (setMap W2 mb (put mp (v (i + 1)) (getV mp (v (i + 1)) + 1))) := (Chg.refl [mb] W2).setMap (Or.inl (by simp)) _
  refine ⟨bk, ek, W1, bf, ef, W2, r1, r2, mp2, ⟨Or.inr ⟨bf, rfl, row2.chg cm (by simpa using nfm)⟩, (row1'.chg cm (by simpa using nkm)).sr, mp2.set _, ?_, ?_, h.sta.push, ?_, ?_, ?_, k2, k1, c2.setMap (Or.inr lom) _⟩⟩
  · rw [getV_put]
    show _ = ((openOf (upd S.st S.m 0) (upd S.kd S.m (v (i + 1))) 123 (S.m + 1) : Nat) : Int)
    rw [openOf_push]
    by_cases e : v (i + 1) = 123
    · rw [if_pos e, e, if_pos (by simp), show ((123 : Nat) : Int) = 123 from rfl, h.g1]; simp
    · rw [if_neg e, if_neg (by simp; omega), h.g1]; simp
  · rw [getV_put]
    show _ = ((openOf (upd S.st S.m 0) (upd S.kd S.m (v (i + 1))) 91 (S.m + 1) : Nat) : Int)
    rw [openOf_push]
    by_cases e : v (i + 1) = 91
    · rw [if_pos e, e, if_pos (by simp), show ((91 : Nat) : Int) = 91 from rfl, h.g2]; simp
    · rw [if_neg e, if_neg (by simp; omega), h.g2]; simp
  · simp [blkOf]; omega
  · simp [blkOf]; omega
  · intro b hb
    simp [blkOf] at hb
    rcases hb with rfl | rfl | rfl
    · exact lom
    · rcases bb2 with q | q
      · exact lof _ q
      · omega
    · rcases bb1 with q | q
      · exact lok _ q
      · omega

theorem SR.pre {α : Type} {e : TypeId} {enc : α → Value} {w : World} {a : Option Addr} {cap n n' : Nat} {f : Nat → α} (h : SR e enc w a cap n f) (hn : n' ≤ n) (ha : a = none → n' = 0) : SR e enc w a cap n' f := by
  rcases h with ⟨h1, h2, h3⟩ | ⟨b, rfl, L, q1, q2, q3, q4⟩
  · exact Or.inl ⟨h1, by omega, h3⟩
  · exact Or.inr ⟨b, rfl, L, q1, q2, by omega, fun k hk => q4 k (by omega)⟩
end Go.Proofs.Qxb6602120a
