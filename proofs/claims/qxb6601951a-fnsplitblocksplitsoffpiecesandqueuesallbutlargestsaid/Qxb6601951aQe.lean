import Derived.Test.Qxb6601951aWt
namespace Go.Proofs.Qxb6601951a
open Go.RowKit

/-- The refinement while the blocks below p have been queued. -/
def Que (w : World) (rb pb mb ab sb eb : Nat) (a3 : Option Addr) (c3 cs ce size nb : Nat) (P : Pt) (wa : Option Addr) (wn qb qc n : Nat) (W : Nat → Int) (V : Nat → Bool) (v3 v4 v5 v6 v7 : Value) (q : Nat → Bool) (S : List Nat) (wr : World) (p : Nat) : Prop :=
  ∃ wa' wc' W' V', RSt wr rb pb mb ab sb eb a3 c3 cs ce size nb P wa' (wn + cnt q p) wc' qb nb qc W' V' v3 v4 v5 v6 v7 ∧ Qu q wn n W V p W' V' ∧ (∀ x ∈ blkOf wa', x ∈ blkOf wa ∨ w.heap.size ≤ x) ∧ Chg S w wr

section
variable {w wr : World} {rb pb mb ab sb eb : Nat} {a3 : Option Addr} {c3 cs ce size nb : Nat} {P : Pt} {wa : Option Addr} {wn qb qc n : Nat} {W : Nat → Int} {V : Nat → Bool} {v3 v4 v5 v6 v7 : Value} {q : Nat → Bool} {S : List Nat} {p : Nat}
theorem Que.skip (h : Que w rb pb mb ab sb eb a3 c3 cs ce size nb P wa wn qb qc n W V v3 v4 v5 v6 v7 q S wr p) (hq : q p = false) : Que w rb pb mb ab sb eb a3 c3 cs ce size nb P wa wn qb qc n W V v3 v4 v5 v6 v7 q S wr (p + 1) := by
  obtain ⟨wa', wc', W', V', h1, h2, h3, h4⟩ := h
  refine ⟨wa', wc', W', V', ?_, h2.skip hq, h3, h4⟩
  rw [cnt, hq]; exact h1

theorem Que.chg0 (h : Que w rb pb mb ab sb eb a3 c3 cs ce size nb P wa wn qb qc n W V v3 v4 v5 v6 v7 q S wr p) {w' : World} (c : Chg [] wr w') : Que w rb pb mb ab sb eb a3 c3 cs ce size nb P wa wn qb qc n W V v3 v4 v5 v6 v7 q S w' p := by
  obtain ⟨wa', wc', W', V', h1, h2, h3, h4⟩ := h
  exact ⟨wa', wc', W', V', h1.chg0 c, h2, h3, h4.trans (c.sub (by simp))⟩

theorem Que.r0 (h : Que w rb pb mb ab sb eb a3 c3 cs ce size nb P wa wn qb qc n W V v3 v4 v5 v6 v7 q S wr p) : wr.cell? ⟨rb, 0, none⟩ = some (.pointer (some ⟨pb, 0, none⟩)) := by
  obtain ⟨_, _, _, _, h1, _⟩ := h; exact h1.r0
theorem Que.f3 (h : Que w rb pb mb ab sb eb a3 c3 cs ce size nb P wa wn qb qc n W V v3 v4 v5 v6 v7 q S wr p) : wr.cell? ⟨pb, 3, none⟩ = some (.slice (some ⟨sb, 0, none⟩) nb cs) := by
  obtain ⟨_, _, _, _, h1, _⟩ := h; exact h1.f3

/-- Block b is queued: it was neither waiting nor is it below p. -/
theorem Que.call (hsm : wn + nb ≤ 10000000) (hS : rb ∈ S ∧ (qb ∈ S ∨ w.heap.size ≤ qb) ∧ ∀ x ∈ blkOf wa, x ∈ S) {b : Nat} (hb : b < nb) {wa' : Option Addr} {wc' : Nat} {W' : Nat → Int} {V' : Nat → Bool} (hp : p ≤ nb)
    (h1 : RSt wr rb pb mb ab sb eb a3 c3 cs ce size nb P wa' (wn + cnt q p) wc' qb nb qc W' V' v3 v4 v5 v6 v7) (h3 : ∀ x ∈ blkOf wa', x ∈ blkOf wa ∨ w.heap.size ≤ x) (h4 : Chg S w wr) (hv : V' b = false) :
    Calls Try.prog 24 #[.pointer (some ⟨rb, 0, none⟩), .int .i64 b] wr fun e w' => e = .returned (.tuple #[]) ∧ ∃ wa2 wc2, RSt w' rb pb mb ab sb eb a3 c3 cs ce size nb P wa2 (wn + cnt q p + 1) wc2 qb nb qc (upd W' (wn + cnt q p) b) (upd V' b true) v3 v4 v5 v6 v7 ∧ (∀ x ∈ blkOf wa2, x ∈ blkOf wa ∨ w.heap.size ≤ x) ∧ Chg S w w' := by
  have := cnt_le_self q p
  refine (h1.waits b hb hv (by omega)).mono ?_
  rintro e w' ⟨rfl, wa2, wc2, q1, q2, q3⟩
  have hsz := h4.size
  refine ⟨rfl, wa2, wc2, q1, fun x hx => ?_, h4.then q3 (fun i hi => ?_)⟩
  · rcases q2 x hx with h | h
    · exact h3 x h
    · exact Or.inr (by omega)
  · rcases List.mem_append.1 hi with hi | hi
    · simp at hi
      rcases hi with hi | hi
      · subst hi; exact Or.inl hS.1
      · subst hi; exact hS.2.1
    · rcases h3 i hi with h | h
      · exact Or.inl (hS.2.2 i h)
      · exact Or.inr h

theorem Que.next (h : Que w rb pb mb ab sb eb a3 c3 cs ce size nb P wa wn qb qc n W V v3 v4 v5 v6 v7 q S wr p) (hq : q p = true) (hp : p < nb) (hn : n ≤ p) (hsm : wn + nb ≤ 10000000) (hS : rb ∈ S ∧ (qb ∈ S ∨ w.heap.size ≤ qb) ∧ ∀ x ∈ blkOf wa, x ∈ S) :
    Calls Try.prog 24 #[.pointer (some ⟨rb, 0, none⟩), .int .i64 p] wr fun e w' => e = .returned (.tuple #[]) ∧ Que w rb pb mb ab sb eb a3 c3 cs ce size nb P wa wn qb qc n W V v3 v4 v5 v6 v7 q S w' (p + 1) := by
  obtain ⟨wa', wc', W', V', h1, h2, h3, h4⟩ := h
  have hv : V' p = false := by rw [h2.v p]; simp; omega
  refine (Que.call hsm hS hp (by omega) h1 h3 h4 hv).mono ?_
  rintro e w' ⟨rfl, wa2, wc2, q1, q2, q3⟩
  refine ⟨rfl, wa2, wc2, _, _, ?_, h2.step hq, q2, q3⟩
  rw [cnt, hq]; exact q1

/-- The sizes of the parts, by their number. -/
theorem Ran.sizes {P0 P : Pt} {size n c m : Nat} {lo hi vals : Nat → Nat} {kp : Nat} {ss : Nat → Nat} (h : Ran P0 size n c lo hi vals kp ss m P) (hc : c < n) {i : Nat} (hi' : i < nw kp m + 1) :
    mostOf n c i < n + nw kp m ∧ P.st (mostOf n c i) ≤ P.en (mostOf n c i) ∧ P.en (mostOf n c i) - P.st (mostOf n c i) = part (P0.en c - P0.st c - sumTo ss (nw kp m)) ss i := by
  have hr := h.room
  by_cases e : i = 0
  · subst e
    have e1 : mostOf n c 0 = c := rfl
    have e2 : part (P0.en c - P0.st c - sumTo ss (nw kp m)) ss 0 = P0.en c - P0.st c - sumTo ss (nw kp m) := rfl
    rw [e1, e2, h.st c hc, h.en c hc, if_pos rfl]
    omega
  · have e1 : mostOf n c i = n + (i - 1) := by unfold mostOf; rw [if_neg e]
    have e2 : part (P0.en c - P0.st c - sumTo ss (nw kp m)) ss i = ss (i - 1) := by unfold part; rw [if_neg e]
    obtain ⟨q1, q2⟩ := h.new (i - 1) (by omega)
    have q3 : sumTo ss (i - 1 + 1) = sumTo ss (i - 1) + ss (i - 1) := rfl
    have q4 := sumTo_le (f := ss) (show i - 1 + 1 ≤ nw kp m by omega)
    rw [e1, e2, q1, q2]
    omega
end
end Go.Proofs.Qxb6601951a
