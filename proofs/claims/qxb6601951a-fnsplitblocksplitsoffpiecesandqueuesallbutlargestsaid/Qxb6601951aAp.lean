import Derived.Test.Qxb6601951aPa
namespace Go.Proofs.Qxb6601951a
open Go.RowKit

/-- An element type of one cell: what the laws on slices ask of the program's tables. -/
structure Elem (P : Program) (t e : TypeId) (z : Value) (bytes : Nat) : Prop where
  und : P.underlying t = some (.slice e)
  info : (P.info? e).map (fun i => (i.zero, i.size, i.bytes)) = some (some z, 1, bytes)
  zero : ∀ w, (zeroValue e).run P w = .ok z w
  zc : z.cells = #[z]
  z1 : z.oneCell' = true
  size : ∀ w, (Go.sizeOf e).run P w = .ok 1 w

/-- v is a slice over the head of block b, which holds its elements xs and then spare cells. -/
def Own (w : World) (e : TypeId) (v : Value) (b : Nat) (xs : List Value) : Prop :=
  ∃ sp : List Value, v = .slice (some ⟨b, 0, none⟩) xs.length (xs.length + sp.length) ∧ Blk w b e (xs ++ sp) ∧ xs.length + sp.length ≤ 9223372036854775807

variable {P : Program} {t e : TypeId} {z : Value} {bytes : Nat}

theorem zeroCells_one (E : Elem P t e z bytes) (n : Nat) : Builtin.zeroCells z.cells n = (List.replicate n z).toArray := by
  rw [E.zc]
  apply Array.ext'
  apply List.ext_getElem
  · simp [Builtin.zeroCells]
  · intro i h1 h2; simp [Builtin.zeroCells, Nat.mod_one]

/-- append(s, news...), s the head of block b: there is room, or a new block is made. -/
theorem append_blk (E : Elem P t e z bytes) {w : World} {b : Nat} {xs sp : List Value} (hb : Blk w b e (xs ++ sp)) (hcap : xs.length + sp.length ≤ 9223372036854775807)
    (ad : Addr) (m c : Nat) (news : List Value) (hl : news.length = m) (hnews : ∀ j u, news[j]? = some u → w.cell? (ad.add j) = some u) (h1 : ∀ u ∈ news, u.oneCell' = true)
    (hbig : (xs.length + m) * bytes ≤ 140737488355328) (hsm : xs.length + m ≤ 9223372036854775807) :
    ∃ v' b' w', (∀ ty, (Builtin.append_ #[t, t] ty #[.slice (some ⟨b, 0, none⟩) xs.length (xs.length + sp.length), .slice (some ad) m c]).run P w = .ok v' w') ∧ Own w' e v' b' (xs ++ news) ∧
      ((b' = b ∧ Chg [b] w w' ∧ w'.heap.size = w.heap.size) ∨ (b' = w.heap.size ∧ Chg [] w w' ∧ w'.heap.size = w.heap.size + 1)) := by
  obtain ⟨i, hi, hz, hs1, hby⟩ := info_parts E.info
  subst hl
  by_cases hroom : xs.length + news.length ≤ xs.length + sp.length
  · have hr := fun ty => run_append_room (P := P) w t ty e i E.und hi b xs.length (xs.length + sp.length) (xs ++ sp).toArray hb ad news.length c news (by rw [hs1]; simp) hnews h1 hroom (by rw [hs1]; simp; omega)
    refine ⟨_, b, _, hr, ⟨sp.drop news.length, ?_, ?_, by simp; omega⟩, Or.inl ⟨rfl, ?_, ?_⟩⟩
    · simp; omega
    · rw [hs1]
      have e1 : ((xs ++ sp).toArray.toList.take (xs.length * 1) ++ news ++ (xs ++ sp).toArray.toList.drop (xs.length * 1 + news.length)) = xs ++ news ++ sp.drop news.length := by
        simp [List.drop_append, Nat.add_sub_cancel_left]
      rw [e1]
      exact setRow_heap w b _ _ e _ hb
    · exact ⟨rfl, rfl, rfl, by simp, fun k _ hk => setRow_other w b k _ (by simpa using hk)⟩
    · simp
  · have hr := fun ty => run_append_grow (P := P) w t ty e i z E.und hi hz ⟨b, 0, none⟩ xs.length (xs.length + sp.length) xs (by rw [hs1]; simp) (fun j u hj => by
        rw [Addr.add_lit, Nat.zero_add]; exact hb.cell (by rw [List.getElem?_append_left (List.getElem?_eq_some_iff.1 hj).1]; exact hj)) ad news.length c news (by rw [hs1]; simp) hnews (by omega) (by omega) (growslice_fits (by omega) (by rw [hby]; exact hbig))
    have hge := grownCap_ge w (xs.length + news.length) (xs.length + sp.length) e
    have hle := grownCap_le_maxLen w (xs.length + news.length) (xs.length + sp.length) e (by unfold maxLen; omega)
    unfold maxLen at hle
    refine ⟨_, w.heap.size, _, hr, ⟨List.replicate (grownCap w (xs.length + news.length) (xs.length + sp.length) e - (xs.length + news.length)) z, ?_, ?_, by simp; omega⟩, Or.inr ⟨rfl, ((Chg.refl _ _).drew).alloc _, by simp⟩⟩
    · simp; omega
    · rw [zeroCells_one E, List.append_toArray, List.append_toArray]
      exact Blk.new w.drew (xs ++ news ++ List.replicate (grownCap w (xs.length + news.length) (xs.length + sp.length) e - (xs.length + news.length)) z) e

/-- The same for append. -/
theorem step_append_eq {ops : Array Oper} {o : Oper} {a : Act} {w : World} {K : Act → World → Prop} {Q : Exit → Act → World → Prop} {X : Prop}
    (hg : o.guard = none) (d x : Operand) (dT sT : TypeId) (hop : o.op = Op.call { callee := Callee.builtin Builtin.append, args := #[d, x], argTypes := #[dT, sT] })
    (v u : Value) (hd : a.eval d = v) (hx : a.eval x = u) {v' : Value} {w' : World} (hr : (Builtin.append_ #[dT, sT] o.type #[v, u]).run P w = .ok v' w') (hK : K (a.put o.dst v') w') :
    if Region.wanted o (yielded ops a.tmps) = true then Oper.wp P o a w K Q else X := by
  have hw : Region.wanted o (yielded ops a.tmps) = true := by simp [Region.wanted, hg]
  rw [if_pos hw]
  unfold Oper.wp
  simp [execOp, hop, resolve, invoke, builtin, hd, hx, hr, Result.andThen]
  exact hK

theorem EI : Elem Try.prog 22 3 (.int .i64 0) 8 := ⟨Try.underlying22, by kernel_rfl, fun _ => by kernel_rfl, rfl, rfl, fun _ => by kernel_rfl⟩

theorem Own.row {α : Type} {enc : α → Value} {w : World} {v : Value} {b : Nat} {xs : List Value} (h : Own w e v b xs) (f : Nat → α) (hf : ∀ k, k < xs.length → xs[k]? = some (enc (f k))) :
    ∃ cap, v = .slice (some ⟨b, 0, none⟩) xs.length cap ∧ Row e enc w b xs.length cap f := by
  obtain ⟨sp, hv, hb, _⟩ := h
  exact ⟨_, hv, xs ++ sp, hb, by simp, by omega, fun k hk => by rw [List.getElem?_append_left hk]; exact hf k hk⟩

/-- THE OPERATION 'append(d, s)' for the walk, where its run is known by an equation. -/
theorem wp_append_eq (w : World) {o : Oper} {a : Act} {K : Act → World → Prop} {Q : Exit → Act → World → Prop} (d s : Operand) (t t' : TypeId)
    (ho : o.op = .call { callee := .builtin .append, args := #[d, s], argTypes := #[t, t'] }) (v u : Value) (hd : a.eval d = v) (hs : a.eval s = u) {v' : Value} {w' : World}
    (hr : (Builtin.append_ #[t, t'] o.type #[v, u]).run P w = .ok v' w') (h : K (a.put o.dst v') w') : o.wp P a w K Q := by
  unfold Oper.wp execOp
  simp only [ho, resolve, invoke, builtin, Sem.run_bind, Sem.run_pure, Result.andThen_ok, List.map_toArray, List.map_cons, List.map_nil, hd, hs, hr]
  exact h

theorem wpList_append_eq (w : World) {ops : Array Oper} {rest : List Oper} {o : Oper} {a : Act} {Q : Exit → Act → World → Prop} (hgd : o.guard = none) (d s : Operand) (t t' : TypeId)
    (ho : o.op = .call { callee := .builtin .append, args := #[d, s], argTypes := #[t, t'] }) (v u : Value) (hd : a.eval d = v) (hs : a.eval s = u) {v' : Value} {w' : World}
    (hr : (Builtin.append_ #[t, t'] o.type #[v, u]).run P w = .ok v' w') (h : wpList P ops Q rest (a.put o.dst v') w') : wpList P ops Q (o :: rest) a w :=
  wpList_plain hgd fun _ hK => wp_append_eq w d s t t' ho v u hd hs hr (hK _ _ h)

/-- append(s, news...): s owned or nil. -/
theorem append_ints {w : World} {a : Option Addr} {cap n : Nat} {f : Nat → Int} (h : SR 3 int w a cap n f) (hcap : cap ≤ 9223372036854775807) (ad : Addr) (m c : Nat) (g : Nat → Int) (h0 : 0 < m)
    (hg : ∀ j, j < m → w.cell? (ad.add j) = some (.int .i64 (g j))) (hbig : (n + m) * 8 ≤ 140737488355328) :
    ∃ b' cap' w', (∀ ty, (Builtin.append_ #[22, 22] ty #[.slice a n cap, .slice (some ad) m c]).run Try.prog w = .ok (.slice (some ⟨b', 0, none⟩) (n + m) cap') w') ∧ Row 3 int w' b' (n + m) cap' (fun k => if k < n then f k else g (k - n)) ∧
      Chg (blkOf a) w w' ∧ (b' ∈ blkOf a ∨ b' = w.heap.size) ∧ cap' ≤ 9223372036854775807 := by
  obtain ⟨news, hnews⟩ : ∃ news, news = (List.range m).map (fun j => int (g j)) := ⟨_, rfl⟩
  have hnl : news.length = m := by rw [hnews]; simp
  have hn1 : ∀ j u, news[j]? = some u → w.cell? (ad.add j) = some u := fun j u hj => by
    rw [hnews, List.getElem?_map] at hj
    cases hr : (List.range m)[j]? with
    | none => rw [hr] at hj; cases hj
    | some q =>
      rw [hr] at hj
      obtain ⟨hlt, rfl⟩ := List.getElem?_eq_some_iff.1 hr
      simp at hlt hj
      rw [hg j hlt, ← hj]; rfl
  have hn2 : ∀ u ∈ news, u.oneCell' = true := fun u hu => by
    rw [hnews] at hu
    obtain ⟨_, _, rfl⟩ := List.mem_map.1 hu
    rfl
  have hn3 : ∀ k, k < m → news[k]? = some (int (g k)) := fun k hk => by rw [hnews]; simp [hk]
  rcases h with ⟨rfl, rfl, rfl⟩ | ⟨b, rfl, L, hb, hL, hn, hc⟩
  · obtain ⟨i, hi, hz, hs1, hby⟩ := info_parts Try.info3
    have hr := fun ty => run_append_nil (P := Try.prog) w 22 ty 3 i (.int .i64 0) Try.underlying22 hi hz ad m c news (by rw [hs1]; simpa using hnl) hn1 h0 (by omega) (by rw [hby]; omega)
    have hge := grownCap_ge w m 0 3
    have hle := grownCap_le_maxLen w m 0 3 (by unfold maxLen; omega)
    unfold maxLen at hle
    refine ⟨w.heap.size, _, _, by simpa using hr, ⟨news ++ List.replicate (grownCap w m 0 3 - m) (.int .i64 0), ?_, by simp; omega, by omega, fun k hk => ?_⟩, ((Chg.refl _ _).drew).alloc _, Or.inr rfl, hle⟩
    · rw [zeroCells_one EI, List.append_toArray]
      exact Blk.new w.drew _ 3
    · rw [List.getElem?_append_left (by omega)]
      simpa using hn3 k (by omega)
  · have hx : (L.take n).length = n := by simp; omega
    have hsp : n + (L.drop n).length = cap := by simp; omega
    obtain ⟨v', b', w', hr, hown, hch⟩ := append_blk EI (xs := L.take n) (sp := L.drop n) (by rw [List.take_append_drop]; exact hb) (by omega) ad m c news hnl hn1 hn2 (by omega) (by omega)
    have hown' := hown
    obtain ⟨cap', hv', hrow⟩ := hown.row (enc := int) (fun k => if k < n then f k else g (k - n)) (fun k hk => by
      simp only [List.length_append, hx, hnl] at hk
      by_cases e : k < n
      · rw [List.getElem?_append_left (by omega), List.getElem?_take, if_pos e, if_pos e]; exact hc k e
      · rw [List.getElem?_append_right (by omega), hx, if_neg e]; exact hn3 _ (by omega))
    simp only [List.length_append, hx, hnl] at hv' hrow
    rw [hx, hsp] at hr
    have hcl : cap' ≤ 9223372036854775807 := by
      obtain ⟨sp', hv2, _, hm⟩ := hown'
      rw [hv'] at hv2
      simp at hv2
      simp at hm
      omega
    refine ⟨b', cap', w', fun ty => by rw [hr ty, hv'], hrow, ?_, ?_, hcl⟩
    · rcases hch with ⟨_, h, _⟩ | ⟨_, h, _⟩
      · exact h
      · exact h.sub (by simp)
    · rcases hch with ⟨h, _, _⟩ | ⟨h, _, _⟩
      · exact Or.inl (by simp [blkOf, h])
      · exact Or.inr h

/-- One integer more, in a world that has at most new blocks. -/
theorem append_int1 {w W : World} {a : Option Addr} {cap n : Nat} {f : Nat → Int} (h : SR 3 int w a cap n f) (hcap : cap ≤ 9223372036854775807) (hn : n ≤ 100000000) (hc : Chg [] w W) (g : Nat) (v : Int) (hv : W.cell? ⟨g, 0, none⟩ = some (.int .i64 v)) :
    ∃ b' cap' w', (∀ ty, (Builtin.append_ #[22, 22] ty #[.slice a n cap, .slice (some ⟨g, 0, none⟩) 1 1]).run Try.prog W = .ok (.slice (some ⟨b', 0, none⟩) (n + 1) cap') w') ∧ Row 3 int w' b' (n + 1) cap' (upd f n v) ∧
      Chg (blkOf a) w w' ∧ (b' ∈ blkOf a ∨ w.heap.size ≤ b') ∧ cap' ≤ 9223372036854775807 := by
  obtain ⟨b', cap', w', hr, hrow, hch, hb', hm⟩ := append_ints (h.chg hc (by simp)) hcap ⟨g, 0, none⟩ 1 1 (fun _ => v) (by omega) (fun j hj => by
    obtain rfl : j = 0 := by omega
    exact hv) (by omega)
  refine ⟨b', cap', w', hr, hrow.congr (fun k hk => ?_), (hc.sub (by simp)).trans hch, ?_, hm⟩
  · by_cases e : k = n
    · subst e; rw [upd_same, if_neg (by omega)]
    · rw [upd_ne _ _ e, if_pos (by omega)]
  · rcases hb' with h | h
    · exact Or.inl h
    · exact Or.inr (by have := hc.size; omega)

theorem append_nat1 {w W : World} {b cap n : Nat} {f : Nat → Nat} (h : Row 3 nat w b n cap f) (hcap : cap ≤ 9223372036854775807) (hn : n ≤ 100000000) (hc : Chg [] w W) (g v : Nat) (hv : W.cell? ⟨g, 0, none⟩ = some (.int .i64 v)) :
    ∃ b' cap' w', (∀ ty, (Builtin.append_ #[22, 22] ty #[.slice (some ⟨b, 0, none⟩) n cap, .slice (some ⟨g, 0, none⟩) 1 1]).run Try.prog W = .ok (.slice (some ⟨b', 0, none⟩) (n + 1) cap') w') ∧ Row 3 nat w' b' (n + 1) cap' (upd f n v) ∧
      Chg [b] w w' ∧ (b' = b ∨ w.heap.size ≤ b') ∧ cap' ≤ 9223372036854775807 := by
  have h' : SR 3 int w (some ⟨b, 0, none⟩) cap n (fun k => (f k : Int)) := by
    obtain ⟨L, q1, q2, q3, q4⟩ := h
    exact Or.inr ⟨b, rfl, L, q1, q2, q3, q4⟩
  obtain ⟨b', cap', w', hr, hrow, hch, hb', hm⟩ := append_int1 h' hcap hn hc g v hv
  refine ⟨b', cap', w', hr, hrow.toNat (fun k _ => ?_), hch, ?_, hm⟩
  · unfold upd; split <;> rfl
  · rcases hb' with h | h
    · exact Or.inl (by simpa [blkOf] using h)
    · exact Or.inr h

set_option maxHeartbeats 1000000 in
/-- slices.Clone of a row of integers. -/
theorem sliceClone (w : World) (b n cap : Nat) (f : Nat → Nat) (h : Row 3 nat w b n cap f) (h0 : 0 < n) (hn : n ≤ 1000000) :
    Calls Try.prog 22 #[.slice (some ⟨b, 0, none⟩) n cap] w fun e w' => ∃ b' cap', e = .returned (.slice (some ⟨b', 0, none⟩) n cap') ∧ Row 3 nat w' b' n cap' f ∧ w.heap.size ≤ b' ∧ Chg [] w w' := by
  have hne := fun w a n c n2 c2 => Lib.run_eql_slice_nil (P := Try.prog) w 22 3 a n c n2 c2 Try.underlying22
  have e0 : Row 3 int (w.alloc (.cells #[] 3)) w.heap.size 0 0 (fun _ => 0) := ⟨[], Blk.new w [] 3, rfl, Nat.le_refl _, fun k hk => by omega⟩
  obtain ⟨b', cap', w', hr, hrow, hch, hb', _⟩ := append_ints (w := w.alloc (.cells #[] 3)) (a := some ⟨w.heap.size, 0, none⟩) e0.sr (by omega) ⟨b, 0, none⟩ n cap (fun k => (f k : Int)) h0 (fun j hj => by
    rw [Addr.add_lit, Nat.zero_add]; exact (h.alloc _).read hj) (by omega)
  have R : Hid (Row 3 nat w' b' n cap' f ∧ w.heap.size ≤ b' ∧ Chg [] w w') := by
    refine ⟨?_, ?_, ((Chg.refl [] w).alloc _).then hch (by simp [blkOf])⟩
    · rw [Nat.zero_add] at hrow; exact hrow.toNat (fun k hk => by simp)
    · rcases hb' with h | h
      · simp [blkOf] at h; omega
      · rw [h]; simp
  rw [Nat.zero_add] at hr
  clear hrow hch hb' h e0
  go_enter Try.func22, Try.ntmps22
  go_wp2_with (at_builtin; refine wpList_append_eq _ rfl (.tmp 5) (.tmp 6) 22 22 rfl _ _ rfl rfl (hr _) ?_)
  go_wp2_with fail
  go_ret
  exact ⟨_, _, rfl, R.out⟩
end Go.Proofs.Qxb6601951a
