import Derived.Test.Qxb6601951aAp
namespace Go.Proofs.Qxb6601951a
open Go.RowKit

theorem EB : Elem Try.prog 31 4 (.bool false) 1 := ⟨Try.underlying31, by kernel_rfl, fun _ => by kernel_rfl, rfl, rfl, fun _ => by kernel_rfl⟩

/-- append(s, make([]bool, k)...), s a whole block. -/
theorem append_zeros {w : World} {qb n : Nat} {V : Nat → Bool} (h : Row 4 Value.bool w qb n n V) (k : Nat) (hn : n + k ≤ 10000000) :
    ∃ qb' qc' w', (∀ ty, (Builtin.append_ #[31, 3] ty #[.slice (some ⟨qb, 0, none⟩) n n, .int .i64 k]).run Try.prog w = .ok (.slice (some ⟨qb', 0, none⟩) (n + k) qc') w') ∧ Row 4 Value.bool w' qb' (n + k) qc' (fun b => if b < n then V b else false) ∧ Chg [] w w' ∧ (qb' = qb ∨ w.heap.size ≤ qb') := by
  obtain ⟨i, hi, hz, hs1, hby⟩ := info_parts Try.info4
  by_cases hk : k = 0
  · subst hk
    have hw : IntKind.i64.wrap ((0 : Nat) : Int) = 0 := by rw [IntKind.wrap_i64]; omega
    refine ⟨qb, n, w, fun ty => ?_, h.congr (fun b hb => by rw [if_pos (by omega)]), Chg.refl _ _, Or.inl rfl⟩
    have hw2 : IntKind.i64.wrap 0 = 0 := rfl
    simp [Builtin.append_, run_underlying Try.underlying31, run_underlying Try.underlying3, sizeOf, typeInfo, zeroValue, hi, hz, asInt, asIntOf, hw2, storeCells]
  · obtain ⟨L, hb, hL, _, hc⟩ := h
    have hold : (Builtin.firstCells i.size n (.slice (some ⟨qb, 0, none⟩) n n)).run Try.prog w.drew = .ok L.toArray w.drew := by
      refine run_firstCells_some (P := Try.prog) w.drew i.size n ⟨qb, 0, none⟩ n n L (by rw [hs1]; omega) (fun j v hj => ?_)
      rw [Addr.add_lit, Nat.zero_add]; exact hb.cell hj
    have hge := grownCap_ge w (n + k) n 4
    have hr := fun ty => Lib.run_append_grow_zeros (P := Try.prog) w 31 3 ty 4 i (.bool false) .i64 .i64 Try.underlying31 Try.underlying3 hi hz (some ⟨qb, 0, none⟩) n n L hold k (by omega) (by omega) (by omega) (by omega) (by rw [hby]; omega) (growslice_fits (by omega) (by rw [hby]; omega))
    refine ⟨w.heap.size, _, _, hr, ⟨L ++ List.replicate k (.bool false) ++ List.replicate (grownCap w (n + k) n 4 - (n + k)) (.bool false), ?_, by simp; omega, by omega, fun j hj => ?_⟩, ((Chg.refl _ _).drew).alloc _, Or.inr (Nat.le_refl _)⟩
    · rw [zeroCells_one EB, zeroCells_one EB, List.append_toArray, List.append_toArray]
      exact Blk.new w.drew _ 4
    · show _ = some (Value.bool (if j < n then V j else false))
      rw [List.append_assoc]
      by_cases e : j < n
      · rw [List.getElem?_append_left (by omega), if_pos e]; exact hc j e
      · rw [List.getElem?_append_right (by omega), if_neg e, List.getElem?_append_left (by simp; omega)]
        rw [List.getElem?_replicate, if_pos (by omega)]

set_option maxHeartbeats 1000000 in
theorem wait_any (w : World) (rb : Nat) (v0 v3 v4 v5 v6 v7 : Value) (wa : Option Addr) (wn wc qb qn qc : Nat) (W : Nat → Int) (V : Nat → Bool) (b : Nat) (hr : Blk w rb 50 [v0, .slice wa wn wc, .slice (some ⟨qb, 0, none⟩) qn qc, v3, v4, v5, v6, v7])
    (hW : SR 3 int w wa wc wn W) (hV : Row 4 Value.bool w qb qn qc V) (hb : b < qn) (hvb : V b = false) (n1 : rb ≠ qb) (n2 : ∀ x ∈ blkOf wa, x ≠ rb ∧ x ≠ qb) (hwc : wc ≤ 9223372036854775807) (hwn : wn ≤ 10000000) :
    Calls Try.prog 24 #[.pointer (some ⟨rb, 0, none⟩), .int .i64 b] w fun e w' => e = .returned (.tuple #[]) ∧ ∃ wb' wc', Blk w' rb 50 [v0, .slice (some ⟨wb', 0, none⟩) (wn + 1) wc', .slice (some ⟨qb, 0, none⟩) qn qc, v3, v4, v5, v6, v7]
      ∧ Row 3 int w' wb' (wn + 1) wc' (upd W wn b) ∧ Row 4 Value.bool w' qb qn qc (upd V b true) ∧ (wb' ∈ blkOf wa ∨ w.heap.size ≤ wb') ∧ wc' ≤ 9223372036854775807 ∧ Chg ([rb, qb] ++ blkOf wa) w w' := by
  have r1 : w.cell? ⟨rb, 2, none⟩ = some (.slice (some ⟨qb, 0, none⟩) qn qc) := hr.cell rfl
  have r2 : w.cell? ⟨qb, b, none⟩ = some (.bool false) := by have := hV.read hb; rw [hvb] at this; exact this
  have f2 := hV.frozen b
  have c1 := chg_cell w qb b (.bool true)
  obtain ⟨W1, hW1⟩ : ∃ W1, w.setCell ⟨qb, b, none⟩ (.bool true) = W1 := ⟨_, rfl⟩
  have hV1 := hV.set b true
  rw [hW1] at c1 hV1
  have hr1 := hr.chg c1 (by simpa using n1)
  have hW1' := hW.chg c1 (fun x hx => by have := n2 x hx; simp; omega)
  have r3 : W1.cell? ⟨rb, 1, none⟩ = some (.slice wa wn wc) := hr1.cell rfl
  obtain ⟨wb', wc', W2, hrun, hrow, hch, hwb, hwc'⟩ := append_int1 hW1' hwc (by omega) ((Chg.refl [] W1).alloc (.cells #[.int .i64 b] 3)) W1.heap.size b ((Blk.new W1 [.int .i64 b] 3).cell rfl)
  have hr2 := hr1.chg hch (fun hx => (n2 _ hx).1 rfl)
  have r4 : W2.cell? ⟨rb, 1, none⟩ = some (.slice wa wn wc) := hr2.cell rfl
  have f4 := hr2.frozen 1
  obtain ⟨W3, hW3⟩ : ∃ W3, W2.setCell ⟨rb, 1, none⟩ (.slice (some ⟨wb', 0, none⟩) (wn + 1) wc') = W3 := ⟨_, rfl⟩
  have hsz := c1.size
  have R : Hid (Blk W3 rb 50 [v0, .slice (some ⟨wb', 0, none⟩) (wn + 1) wc', .slice (some ⟨qb, 0, none⟩) qn qc, v3, v4, v5, v6, v7]
      ∧ Row 3 int W3 wb' (wn + 1) wc' (upd W wn b) ∧ Row 4 Value.bool W3 qb qn qc (upd V b true) ∧ (wb' ∈ blkOf wa ∨ w.heap.size ≤ wb') ∧ wc' ≤ 9223372036854775807 ∧ Chg ([rb, qb] ++ blkOf wa) w W3) := by
    have l1 := hr.lt
    have m1 : wb' ≠ rb := by
      rcases hwb with h | h
      · exact (n2 _ h).1
      · omega
    rw [← hW3]
    refine ⟨hr2.set 1 _, hrow.other m1 _, (hV1.chg hch (fun hx => (n2 _ hx).2 rfl)).other (fun h => n1 h.symm) _, ?_, hwc', ?_⟩
    · rcases hwb with h | h
      · exact Or.inl h
      · exact Or.inr (by omega)
    · exact ((c1.sub (T := [rb, qb] ++ blkOf wa) (by simp)).trans (hch.sub (by simp))).setCell (Or.inl (by simp)) _
  clear hr hV hW c1 hV1 hr1 hW1' hrow hch hwb hr2 hvb
  go_enter Try.func24, Try.ntmps24
  go_wp2_with (at_builtin; refine wpList_append_eq _ rfl (.tmp 22) (.tmp 24) 22 22 rfl _ _ rfl rfl (hrun _) ?_)
  go_wp2_with fail
  go_end0
  exact ⟨rfl, wb', wc', R.out⟩

/-- A refinement in memory. -/
structure RSt (w : World) (rb pb mb ab sb eb : Nat) (a3 : Option Addr) (c3 cs ce size nb : Nat) (P : Pt) (wa : Option Addr) (wn wc qb qn qc : Nat) (W : Nat → Int) (V : Nat → Bool) (v3 v4 v5 v6 v7 : Value) : Prop where
  str : Blk w rb 50 [.pointer (some ⟨pb, 0, none⟩), .slice wa wn wc, .slice (some ⟨qb, 0, none⟩) qn qc, v3, v4, v5, v6, v7]
  part : PAt w pb mb ab sb eb a3 c3 cs ce size nb P
  work : SR 3 int w wa wc wn W
  wait : Row 4 Value.bool w qb qn qc V
  d1 : rb ≠ qb
  d2 : ∀ x ∈ [rb, qb], x ∉ [pb, mb, ab, sb, eb] ++ blkOf a3
  d3 : ∀ x ∈ blkOf wa, x ∉ [rb, qb, pb, mb, ab, sb, eb] ++ blkOf a3
  wcap : wc ≤ 9223372036854775807

section
variable {w : World} {rb pb mb ab sb eb : Nat} {a3 : Option Addr} {c3 cs ce size nb : Nat} {P : Pt} {wa : Option Addr} {wn wc qb qn qc : Nat} {W : Nat → Int} {V : Nat → Bool} {v3 v4 v5 v6 v7 : Value}
theorem RSt.chg0 (h : RSt w rb pb mb ab sb eb a3 c3 cs ce size nb P wa wn wc qb qn qc W V v3 v4 v5 v6 v7) {w' : World} (c : Chg [] w w') : RSt w' rb pb mb ab sb eb a3 c3 cs ce size nb P wa wn wc qb qn qc W V v3 v4 v5 v6 v7 :=
  ⟨h.str.chg c (by simp), h.part.chg0 c, h.work.chg c (by simp), h.wait.chg c (by simp), h.d1, h.d2, h.d3, h.wcap⟩
theorem RSt.r0 (h : RSt w rb pb mb ab sb eb a3 c3 cs ce size nb P wa wn wc qb qn qc W V v3 v4 v5 v6 v7) : w.cell? ⟨rb, 0, none⟩ = some (.pointer (some ⟨pb, 0, none⟩)) := h.str.cell rfl
theorem RSt.r1 (h : RSt w rb pb mb ab sb eb a3 c3 cs ce size nb P wa wn wc qb qn qc W V v3 v4 v5 v6 v7) : w.cell? ⟨rb, 1, none⟩ = some (.slice wa wn wc) := h.str.cell rfl
theorem RSt.r2 (h : RSt w rb pb mb ab sb eb a3 c3 cs ce size nb P wa wn wc qb qn qc W V v3 v4 v5 v6 v7) : w.cell? ⟨rb, 2, none⟩ = some (.slice (some ⟨qb, 0, none⟩) qn qc) := h.str.cell rfl
theorem RSt.r6 (h : RSt w rb pb mb ab sb eb a3 c3 cs ce size nb P wa wn wc qb qn qc W V v3 v4 v5 v6 v7) : w.cell? ⟨rb, 6, none⟩ = some v6 := h.str.cell rfl
theorem RSt.f3 (h : RSt w rb pb mb ab sb eb a3 c3 cs ce size nb P wa wn wc qb qn qc W V v3 v4 v5 v6 v7) : w.cell? ⟨pb, 3, none⟩ = some (.slice (some ⟨sb, 0, none⟩) nb cs) := h.part.f3
theorem RSt.rq (h : RSt w rb pb mb ab sb eb a3 c3 cs ce size nb P wa wn wc qb qn qc W V v3 v4 v5 v6 v7) {k : Nat} (hk : k < qn) : w.cell? ⟨qb, k, none⟩ = some (.bool (V k)) := h.wait.read hk

theorem RSt.waits (h : RSt w rb pb mb ab sb eb a3 c3 cs ce size nb P wa wn wc qb qn qc W V v3 v4 v5 v6 v7) (b : Nat) (hb : b < qn) (hvb : V b = false) (hwn : wn ≤ 10000000) :
    Calls Try.prog 24 #[.pointer (some ⟨rb, 0, none⟩), .int .i64 b] w fun e w' => e = .returned (.tuple #[]) ∧ ∃ wa' wc', RSt w' rb pb mb ab sb eb a3 c3 cs ce size nb P wa' (wn + 1) wc' qb qn qc (upd W wn b) (upd V b true) v3 v4 v5 v6 v7 ∧
      (∀ x ∈ blkOf wa', x ∈ blkOf wa ∨ w.heap.size ≤ x) ∧ Chg ([rb, qb] ++ blkOf wa) w w' := by
  refine (wait_any w rb _ v3 v4 v5 v6 v7 wa wn wc qb qn qc W V b h.str h.work h.wait hb hvb h.d1 (fun x hx => ?_) h.wcap hwn).mono ?_
  · have := h.d3 x hx; simp at this; exact ⟨this.1, this.2.1⟩
  · rintro e w' ⟨rfl, wb', wc', q1, q2, q3, q4, q5, q6⟩
    have l0 := h.str.lt
    have l1 := h.part.str.lt
    have l2 := h.part.mem.lt
    have l3 := h.part.pos.lt
    have l4 := h.part.st.lt
    have l5 := h.part.en.lt
    have l6 := h.part.blk.lt
    have l7 := h.wait.lt
    refine ⟨rfl, some ⟨wb', 0, none⟩, wc', ⟨q1, h.part.chg q6 (fun x hx hm => ?_) (fun x hx hm => ?_), q2.sr, q3, h.d1, h.d2, fun x hx => ?_, q5⟩, fun x hx => ?_, q6⟩
    · rcases List.mem_append.1 hm with hm | hm
      · exact h.d2 x hm (List.mem_append_left _ hx)
      · exact h.d3 x hm (List.mem_append_left _ (by simp at hx ⊢; omega))
    · rcases List.mem_append.1 hm with hm | hm
      · exact h.d2 x hm (List.mem_append_right _ hx)
      · exact h.d3 x hm (List.mem_append_right _ hx)
    · obtain rfl : x = wb' := by simpa [blkOf] using hx
      rcases q4 with q4 | q4
      · exact h.d3 x q4
      · intro hm
        rcases List.mem_append.1 hm with hm | hm
        · simp at hm; omega
        · have := l6 x hm; omega
    · obtain rfl : x = wb' := by simpa [blkOf] using hx
      exact q4
end
end Go.Proofs.Qxb6601951a
