import Derived.Test.Qxb6602120aRow
namespace Go.Proofs.Qxb6602120a
open Go.RowKit

/-- An element type of one cell: what the laws on slices ask of the program's tables. -/
structure Elem (P : Program) (t e : TypeId) (z : Value) (bytes : Nat) : Prop where
  und : P.underlying t = some (.slice e)
  info : (P.info? e).map (fun i => (i.zero, i.size, i.bytes)) = some (some z, 1, bytes)
  zero : ∀ w, (zeroValue e).run P w = .ok z w
  zc : z.cells = #[z]
  z1 : z.oneCell' = true
  size : ∀ w, (Go.sizeOf e).run P w = .ok 1 w

/-- v is a slice over the head of block b, which holds its elements xs and then spare cells. -/
def Own (w : World) (e : TypeId) (v : Value) (b : Nat) (xs : List Value) : Prop :=
  ∃ sp : List Value, v = .slice (some ⟨b, 0, none⟩) xs.length (xs.length + sp.length) ∧ Blk w b e (xs ++ sp) ∧ xs.length + sp.length ≤ 9223372036854775807

section
variable {P : Program} {t e : TypeId} {z : Value} {bytes : Nat}

theorem zeroCells_one (E : Elem P t e z bytes) (n : Nat) : Builtin.zeroCells z.cells n = (List.replicate n z).toArray := by
  rw [E.zc]
  apply Array.ext'
  apply List.ext_getElem
  · simp [Builtin.zeroCells]
  · intro i h1 h2; simp [Builtin.zeroCells, Nat.mod_one]

/-- append(s, news...), s the head of block b: there is room, or a new block is made. -/
theorem append_blk (E : Elem P t e z bytes) {w : World} {b : Nat} {xs sp : List Value} (hb : Blk w b e (xs ++ sp)) (hcap : xs.length + sp.length ≤ 9223372036854775807)
    (ad : Addr) (m c : Nat) (news : List Value) (hl : news.length = m) (hnews : ∀ j u, news[j]? = some u → w.cell? (ad.add j) = some u) (h1 : ∀ u ∈ news, u.oneCell' = true)
    (hbig : (xs.length + m) * bytes ≤ 140737488355328) (hsm : xs.length + m ≤ 9223372036854775807) :
    ∃ v' b' w', (∀ ty, (Builtin.append_ #[t, t] ty #[.slice (some ⟨b, 0, none⟩) xs.length (xs.length + sp.length), .slice (some ad) m c]).run P w = .ok v' w') ∧ Own w' e v' b' (xs ++ news) ∧
      ((b' = b ∧ Chg [b] w w' ∧ w'.heap.size = w.heap.size) ∨ (b' = w.heap.size ∧ Chg [] w w' ∧ w'.heap.size = w.heap.size + 1)) := by
  obtain ⟨i, hi, hz, hs1, hby⟩ := info_parts E.info
  subst hl
  by_cases hroom : xs.length + news.length ≤ xs.length + sp.length
  · have hr := fun ty => run_append_room (P := P) w t ty e i E.und hi b xs.length (xs.length + sp.length) (xs ++ sp).toArray hb ad news.length c news (by rw [hs1]; simp) hnews h1 hroom (by rw [hs1]; simp; omega)
    refine ⟨_, b, _, hr, ⟨sp.drop news.length, ?_, ?_, by simp; omega⟩, Or.inl ⟨rfl, ?_, ?_⟩⟩
    · simp; omega
    · rw [hs1]
      have e1 : ((xs ++ sp).toArray.toList.take (xs.length * 1) ++ news ++ (xs ++ sp).toArray.toList.drop (xs.length * 1 + news.length)) = xs ++ news ++ sp.drop news.length := by
        simp [List.drop_append, Nat.add_sub_cancel_left]
      rw [e1]
      exact setRow_heap w b _ _ e _ hb
    · exact ⟨rfl, rfl, rfl, by simp, fun k _ hk => setRow_other w b k _ (by simpa using hk)⟩
    · simp
  · have hr := fun ty => run_append_grow (P := P) w t ty e i z E.und hi hz ⟨b, 0, none⟩ xs.length (xs.length + sp.length) xs (by rw [hs1]; simp) (fun j u hj => by
        rw [Addr.add_lit, Nat.zero_add]; exact hb.cell (by rw [List.getElem?_append_left (List.getElem?_eq_some_iff.1 hj).1]; exact hj)) ad news.length c news (by rw [hs1]; simp) hnews (by omega) (by omega) (growslice_fits (by omega) (by rw [hby]; exact hbig))
    have hge := grownCap_ge w (xs.length + news.length) (xs.length + sp.length) e
    have hle := grownCap_le_maxLen w (xs.length + news.length) (xs.length + sp.length) e (by unfold maxLen; omega)
    unfold maxLen at hle
    refine ⟨_, w.heap.size, _, hr, ⟨List.replicate (grownCap w (xs.length + news.length) (xs.length + sp.length) e - (xs.length + news.length)) z, ?_, ?_, by simp; omega⟩, Or.inr ⟨rfl, ((Chg.refl _ _).drew).alloc _, by simp⟩⟩
    · simp; omega
    · rw [zeroCells_one E, List.append_toArray, List.append_toArray]
      exact Blk.new w.drew (xs ++ news ++ List.replicate (grownCap w (xs.length + news.length) (xs.length + sp.length) e - (xs.length + news.length)) z) e

/-- The same for append. -/
theorem step_append_eq {ops : Array Oper} {o : Oper} {a : Act} {w : World} {K : Act → World → Prop} {Q : Exit → Act → World → Prop} {X : Prop}
    (hg : o.guard = none) (d x : Operand) (dT sT : TypeId) (hop : o.op = Op.call { callee := Callee.builtin Builtin.append, args := #[d, x], argTypes := #[dT, sT] })
    (v u : Value) (hd : a.eval d = v) (hx : a.eval x = u) {v' : Value} {w' : World} (hr : (Builtin.append_ #[dT, sT] o.type #[v, u]).run P w = .ok v' w') (hK : K (a.put o.dst v') w') :
    if Region.wanted o (yielded ops a.tmps) = true then Oper.wp P o a w K Q else X := by
  have hw : Region.wanted o (yielded ops a.tmps) = true := by simp [Region.wanted, hg]
  rw [if_pos hw]
  unfold Oper.wp
  simp [execOp, hop, resolve, invoke, builtin, hd, hx, hr, Result.andThen]
  exact hK

theorem Own.row {α : Type} {enc : α → Value} {w : World} {v : Value} {b : Nat} {xs : List Value} (h : Own w e v b xs) (f : Nat → α) (hf : ∀ k, k < xs.length → xs[k]? = some (enc (f k))) :
    ∃ cap, v = .slice (some ⟨b, 0, none⟩) xs.length cap ∧ Row e enc w b xs.length cap f := by
  obtain ⟨sp, hv, hb, _⟩ := h
  exact ⟨_, hv, xs ++ sp, hb, by simp, by omega, fun k hk => by rw [List.getElem?_append_left hk]; exact hf k hk⟩

/-- THE OPERATION 'append(d, s)' for the walk, where its run is known by an equation. -/
theorem wp_append_eq (w : World) {o : Oper} {a : Act} {K : Act → World → Prop} {Q : Exit → Act → World → Prop} (d s : Operand) (t t' : TypeId)
    (ho : o.op = .call { callee := .builtin .append, args := #[d, s], argTypes := #[t, t'] }) (v u : Value) (hd : a.eval d = v) (hs : a.eval s = u) {v' : Value} {w' : World}
    (hr : (Builtin.append_ #[t, t'] o.type #[v, u]).run P w = .ok v' w') (h : K (a.put o.dst v') w') : o.wp P a w K Q := by
  unfold Oper.wp execOp
  simp only [ho, resolve, invoke, builtin, Sem.run_bind, Sem.run_pure, Result.andThen_ok, List.map_toArray, List.map_cons, List.map_nil, hd, hs, hr]
  exact h

theorem wpList_append_eq (w : World) {ops : Array Oper} {rest : List Oper} {o : Oper} {a : Act} {Q : Exit → Act → World → Prop} (hgd : o.guard = none) (d s : Operand) (t t' : TypeId)
    (ho : o.op = .call { callee := .builtin .append, args := #[d, s], argTypes := #[t, t'] }) (v u : Value) (hd : a.eval d = v) (hs : a.eval s = u) {v' : Value} {w' : World}
    (hr : (Builtin.append_ #[t, t'] o.type #[v, u]).run P w = .ok v' w') (h : wpList P ops Q rest (a.put o.dst v') w') : wpList P ops Q (o :: rest) a w :=
  wpList_plain hgd fun _ hK => wp_append_eq w d s t t' ho v u hd hs hr (hK _ _ h)

end

theorem EI : Elem Try.prog 28 3 (.int .i64 0) 8 := ⟨Try.underlying28, by kernel_rfl, fun _ => by kernel_rfl, rfl, rfl, fun _ => by kernel_rfl⟩
theorem EU : Elem Try.prog 25 5 (.int .u8 0) 1 := ⟨Try.underlying25, by kernel_rfl, fun _ => by kernel_rfl, rfl, rfl, fun _ => by kernel_rfl⟩

/-- One value more, in a world that has at most new blocks; the slice is owned or nil. -/
theorem append_one {α : Type} {enc : α → Value} {t e : TypeId} {z : Value} {bytes : Nat} (E : Elem Try.prog t e z bytes) (hby8 : bytes ≤ 8) (h1c : ∀ x, (enc x).oneCell' = true) {w W : World} {a : Option Addr} {cap n : Nat} {f : Nat → α} (h : SR e enc w a cap n f) (hcap : cap ≤ 9223372036854775807) (hn : n ≤ 100000000)
    (hc : Chg [] w W) (g : Nat) (v : α) (hv : W.cell? ⟨g, 0, none⟩ = some (enc v)) :
    ∃ b' cap' w', (∀ ty, (Builtin.append_ #[t, t] ty #[.slice a n cap, .slice (some ⟨g, 0, none⟩) 1 1]).run Try.prog W = .ok (.slice (some ⟨b', 0, none⟩) (n + 1) cap') w') ∧ Row e enc w' b' (n + 1) cap' (upd f n v) ∧
      Chg (blkOf a) w w' ∧ (b' ∈ blkOf a ∨ w.heap.size ≤ b') ∧ cap' ≤ 9223372036854775807 := by
  have hn1 : ∀ j u, ([enc v] : List Value)[j]? = some u → W.cell? ((⟨g, 0, none⟩ : Addr).add j) = some u := fun j u hj => by
    cases j with
    | zero => rw [Addr.add_lit]; rw [← hj]; exact hv
    | succ j => simp at hj
  have hn2 : ∀ u ∈ [enc v], u.oneCell' = true := fun u hu => by
    obtain rfl : u = enc v := by simpa using hu
    exact h1c v
  have hbb : (n + 1) * bytes ≤ 140737488355328 := by
    have := Nat.mul_le_mul (show n + 1 ≤ 100000001 by omega) hby8
    omega
  have h' := h.chg hc (by simp)
  rcases h' with ⟨rfl, rfl, rfl⟩ | ⟨b, rfl, L, hb, hL, hn', hcx⟩
  · obtain ⟨i, hi, hz, hs1, hby⟩ := info_parts E.info
    have hr := fun ty => run_append_nil (P := Try.prog) W t ty e i z E.und hi hz ⟨g, 0, none⟩ 1 1 [enc v] (by rw [hs1]; rfl) hn1 (by omega) (by omega) (by rw [hby]; omega)
    have hge := grownCap_ge W 1 0 e
    have hle := grownCap_le_maxLen W 1 0 e (by unfold maxLen; omega)
    unfold maxLen at hle
    refine ⟨W.heap.size, _, _, by simpa using hr, ⟨[enc v] ++ List.replicate (grownCap W 1 0 e - 1) z, ?_, by simp; omega, by omega, fun k hk => ?_⟩, hc.trans (((Chg.refl _ _).drew).alloc _), Or.inr hc.size, hle⟩
    · rw [zeroCells_one E, List.append_toArray]
      exact Blk.new W.drew _ e
    · obtain rfl : k = 0 := by omega
      rw [upd_same]; rfl
  · have hx : (L.take n).length = n := by simp; omega
    have hsp : n + (L.drop n).length = cap := by simp; omega
    obtain ⟨v', b', w', hr, hown, hch⟩ := append_blk E (xs := L.take n) (sp := L.drop n) (by rw [List.take_append_drop]; exact hb) (by omega) ⟨g, 0, none⟩ 1 1 [enc v] rfl hn1 hn2 (by rw [hx]; exact hbb) (by omega)
    have hown' := hown
    obtain ⟨cap', hv', hrow⟩ := hown.row (enc := enc) (upd f n v) (fun k hk => by
      simp only [List.length_append, hx, List.length_singleton] at hk
      by_cases e : k < n
      · rw [List.getElem?_append_left (by omega), List.getElem?_take, if_pos e, upd_ne _ _ (by omega)]; exact hcx k e
      · obtain rfl : k = n := by omega
        rw [List.getElem?_append_right (by omega), hx, Nat.sub_self, upd_same]; rfl)
    simp only [List.length_append, hx, List.length_singleton] at hv' hrow
    rw [hx, hsp] at hr
    have hcl : cap' ≤ 9223372036854775807 := by
      obtain ⟨sp', hv2, _, hm⟩ := hown'
      rw [hv'] at hv2
      simp at hv2
      simp at hm
      omega
    refine ⟨b', cap', w', fun ty => by rw [hr ty, hv'], hrow, ?_, ?_, hcl⟩
    · rcases hch with ⟨_, h, _⟩ | ⟨_, h, _⟩
      · exact (hc.sub (by simp)).trans h
      · exact hc.sub (by simp) |>.trans (h.sub (by simp))
    · rcases hch with ⟨h, _, _⟩ | ⟨h, _, _⟩
      · exact Or.inl (by simp [blkOf, h])
      · exact Or.inr (by rw [h]; exact hc.size)

def u8 (x : Nat) : Value := .int .u8 (x : Int)

/-- Pairs of cells: where, and which closer. -/
def PRow (w : World) (b m cap : Nat) (ds : Nat → Nat) (cl : Nat → Int) : Prop :=
  ∃ L : List Value, Blk w b 37 L ∧ L.length = cap * 2 ∧ m ≤ cap ∧ ∀ j, j < m → L[j * 2]? = some (nat (ds j)) ∧ L[j * 2 + 1]? = some (int (cl j))
def PS (w : World) (a : Option Addr) (cap m : Nat) (ds : Nat → Nat) (cl : Nat → Int) : Prop := (a = none ∧ m = 0 ∧ cap = 0) ∨ ∃ b, a = some ⟨b, 0, none⟩ ∧ PRow w b m cap ds cl

theorem PRow.chg {w w' : World} {b m cap : Nat} {ds : Nat → Nat} {cl : Nat → Int} {S : List Nat} (h : PRow w b m cap ds cl) (c : Chg S w w') (hs : b ∉ S) : PRow w' b m cap ds cl := by
  obtain ⟨L, h, r⟩ := h; exact ⟨L, h.chg c hs, r⟩
theorem PRow.lt {w : World} {b m cap : Nat} {ds : Nat → Nat} {cl : Nat → Int} (h : PRow w b m cap ds cl) : b < w.heap.size := by obtain ⟨L, h, _⟩ := h; exact h.lt
theorem PRow.r0 {w : World} {b m cap : Nat} {ds : Nat → Nat} {cl : Nat → Int} (h : PRow w b m cap ds cl) {j : Nat} (hj : j < m) : w.cell? ⟨b, j * 2, none⟩ = some (.int .i64 (ds j)) := by
  obtain ⟨L, h, _, _, hc⟩ := h; exact h.cell (hc j hj).1
theorem PRow.r1 {w : World} {b m cap : Nat} {ds : Nat → Nat} {cl : Nat → Int} (h : PRow w b m cap ds cl) {j : Nat} (hj : j < m) : w.cell? ⟨b, j * 2 + 1, none⟩ = some (.int .i64 (cl j)) := by
  obtain ⟨L, h, _, _, hc⟩ := h; exact h.cell (hc j hj).2
theorem PRow.frozen {w : World} {b m cap : Nat} {ds : Nat → Nat} {cl : Nat → Int} (h : PRow w b m cap ds cl) (k : Nat) : w.frozen? ⟨b, k, none⟩ = false := by
  obtain ⟨L, h, _⟩ := h; exact h.frozen k
theorem PRow.set1 {w : World} {b m cap : Nat} {ds : Nat → Nat} {cl : Nat → Int} (h : PRow w b m cap ds cl) (j : Nat) (v : Int) : PRow (w.setCell ⟨b, j * 2 + 1, none⟩ (.int .i64 v)) b m cap ds (upd cl j v) := by
  obtain ⟨L, h, hl, hm, hc⟩ := h
  refine ⟨_, h.set (j * 2 + 1) (.int .i64 v), by simpa using hl, hm, fun x hx => ?_⟩
  have := hc x hx
  refine ⟨by rw [List.getElem?_set_ne (by omega)]; exact this.1, ?_⟩
  by_cases e : x = j
  · subst e; rw [List.getElem?_set_self (by omega), upd_same]; rfl
  · rw [List.getElem?_set_ne (by omega), upd_ne _ _ e]; exact this.2
theorem PS.at {w : World} {a : Option Addr} {cap m : Nat} {ds : Nat → Nat} {cl : Nat → Int} (h : PS w a cap m ds cl) {j : Nat} (hj : j < m) : ∃ b, a = some ⟨b, 0, none⟩ ∧ PRow w b m cap ds cl := by
  rcases h with ⟨_, h, _⟩ | h
  · omega
  · exact h
theorem PS.chg {w w' : World} {a : Option Addr} {cap m : Nat} {ds : Nat → Nat} {cl : Nat → Int} {S : List Nat} (h : PS w a cap m ds cl) (c : Chg S w w') (hs : ∀ b ∈ blkOf a, b ∉ S) : PS w' a cap m ds cl := by
  rcases h with h | ⟨b, rfl, h⟩
  · exact Or.inl h
  · exact Or.inr ⟨b, rfl, h.chg c (hs b (by simp [blkOf]))⟩
theorem PS.lt {w : World} {a : Option Addr} {cap m : Nat} {ds : Nat → Nat} {cl : Nat → Int} (h : PS w a cap m ds cl) : ∀ b ∈ blkOf a, b < w.heap.size := by
  rcases h with ⟨rfl, _⟩ | ⟨b, rfl, h⟩
  · simp [blkOf]
  · simpa [blkOf] using h.lt

theorem Try.info37 : ∃ z, (Try.prog.info? 37).map (fun i => (i.zero, i.size, i.bytes)) = some (some z, 2, 16) ∧ z.cells = #[.int .i64 0, .int .i64 0] := ⟨_, rfl, rfl⟩

theorem zeroCells_len (cs : Array Value) (n : Nat) : (Builtin.zeroCells cs n).size = n * cs.size := by simp [Builtin.zeroCells]

/-- One pair more. -/
theorem append_pair {w W : World} {a : Option Addr} {cap m : Nat} {ds : Nat → Nat} {cl : Nat → Int} (h : PS w a cap m ds cl) (hcap : cap ≤ 9223372036854775807) (hn : m ≤ 100000000)
    (hc : Chg [] w W) (g : Nat) (d : Nat) (c : Int) (hv0 : W.cell? ⟨g, 0, none⟩ = some (.int .i64 d)) (hv1 : W.cell? ⟨g, 1, none⟩ = some (.int .i64 c)) :
    ∃ b' cap' w', (∀ ty, (Builtin.append_ #[34, 34] ty #[.slice a m cap, .slice (some ⟨g, 0, none⟩) 1 1]).run Try.prog W = .ok (.slice (some ⟨b', 0, none⟩) (m + 1) cap') w') ∧ PRow w' b' (m + 1) cap' (upd ds m d) (upd cl m c) ∧
      Chg (blkOf a) w w' ∧ (b' ∈ blkOf a ∨ w.heap.size ≤ b') ∧ cap' ≤ 9223372036854775807 := by
  obtain ⟨z, hinfo, hzc⟩ := Try.info37
  obtain ⟨i, hi, hz, hs2, hby⟩ := info_parts hinfo
  have hn1 : ∀ j u, ([nat d, int c] : List Value)[j]? = some u → W.cell? ((⟨g, 0, none⟩ : Addr).add j) = some u := fun j u hj => by
    rcases j with _ | _ | j
    · rw [Addr.add_lit, ← hj]; exact hv0
    · rw [Addr.add_lit, ← hj]; exact hv1
    · simp at hj
  have hn2 : ∀ u ∈ [nat d, int c], u.oneCell' = true := fun u hu => by
    simp at hu
    rcases hu with rfl | rfl <;> rfl
  have pcell : ∀ (L0 rest : List Value), L0.length = m * 2 → (∀ j, j < m → L0[j * 2]? = some (nat (ds j)) ∧ L0[j * 2 + 1]? = some (int (cl j))) → ∀ j, j < m + 1 →
      (L0 ++ [nat d, int c] ++ rest)[j * 2]? = some (nat (upd ds m d j)) ∧ (L0 ++ [nat d, int c] ++ rest)[j * 2 + 1]? = some (int (upd cl m c j)) := fun L0 rest hl hc0 j hj => by
    rw [List.append_assoc]
    by_cases e : j = m
    · subst e
      rw [upd_same, upd_same]
      refine ⟨?_, ?_⟩
      · rw [List.getElem?_append_right (by omega), hl, Nat.sub_self]; rfl
      · rw [List.getElem?_append_right (by omega), hl, show j * 2 + 1 - j * 2 = 1 by omega]; rfl
    · have := hc0 j (by omega)
      rw [upd_ne _ _ e, upd_ne _ _ e, List.getElem?_append_left (by omega), List.getElem?_append_left (by omega)]
      exact this
  rcases h.chg hc (by simp) with ⟨rfl, rfl, rfl⟩ | ⟨b, rfl, L, hb, hL, hm, hcx⟩
  · have hr := fun ty => run_append_nil (P := Try.prog) W 34 ty 37 i z Try.underlying34 hi hz ⟨g, 0, none⟩ 1 1 [nat d, int c] (by rw [hs2]; rfl) hn1 (by omega) (by omega) (by rw [hby]; omega)
    have hge := grownCap_ge W 1 0 37
    have hle := grownCap_le_maxLen W 1 0 37 (by unfold maxLen; omega)
    unfold maxLen at hle
    refine ⟨W.heap.size, _, _, by simpa using hr, ⟨[] ++ [nat d, int c] ++ (Builtin.zeroCells z.cells (grownCap W 1 0 37 - 1)).toList, ?_, ?_, by omega, pcell [] _ rfl (fun j hj => by omega)⟩, hc.trans (((Chg.refl _ _).drew).alloc _), Or.inr hc.size, hle⟩
    · rw [show ([nat d, int c] : List Value).toArray ++ Builtin.zeroCells z.cells (grownCap W 1 0 37 - 1) = ([] ++ [nat d, int c] ++ (Builtin.zeroCells z.cells (grownCap W 1 0 37 - 1)).toList).toArray by apply Array.ext'; simp]
      exact Blk.new W.drew _ 37
    · have e1 := zeroCells_len z.cells (grownCap W 1 0 37 - 1)
      rw [hzc] at e1 ⊢
      simp at e1 ⊢
      omega
  · by_cases hroom : m + 1 ≤ cap
    · have hr := fun ty => run_append_room (P := Try.prog) W 34 ty 37 i Try.underlying34 hi b m cap L.toArray hb ⟨g, 0, none⟩ 1 1 [nat d, int c] (by rw [hs2]; rfl) hn1 hn2 hroom (by rw [hs2]; simp; omega)
      refine ⟨b, cap, _, hr, ⟨L.take (m * 2) ++ [nat d, int c] ++ L.drop (m * 2 + 2), ?_, by simp; omega, hroom, pcell _ _ (by simp; omega) (fun j hj => ?_)⟩, ?_, Or.inl (by simp [blkOf]), hcap⟩
      · rw [hs2]
        exact setRow_heap W b _ _ 37 _ hb
      · have := hcx j hj
        rw [List.getElem?_take, if_pos (by omega), List.getElem?_take, if_pos (by omega)]; exact this
      · refine (hc.sub (by simp)).trans ⟨rfl, rfl, rfl, by simp, fun k _ hk => setRow_other W b k _ (by simpa [blkOf] using hk)⟩
    · have hcm : cap = m := by omega
      have hr := fun ty => run_append_grow (P := Try.prog) W 34 ty 37 i z Try.underlying34 hi hz ⟨b, 0, none⟩ m cap L (by rw [hs2]; omega) (fun j u hj => by
        rw [Addr.add_lit, Nat.zero_add]; exact hb.cell hj) ⟨g, 0, none⟩ 1 1 [nat d, int c] (by rw [hs2]; rfl) hn1 (by omega) (by omega) (growslice_fits (by omega) (by rw [hby]; omega))
      have hge := grownCap_ge W (m + 1) cap 37
      have hle := grownCap_le_maxLen W (m + 1) cap 37 (by unfold maxLen; omega)
      unfold maxLen at hle
      refine ⟨W.heap.size, _, _, hr, ⟨L ++ [nat d, int c] ++ (Builtin.zeroCells z.cells (grownCap W (m + 1) cap 37 - (m + 1))).toList, ?_, ?_, by omega, pcell L _ (by omega) hcx⟩, (hc.sub (by simp)).trans ((((Chg.refl [] W).drew).alloc _).sub (by simp)), Or.inr hc.size, hle⟩
      · rw [show L.toArray ++ ([nat d, int c] : List Value).toArray ++ Builtin.zeroCells z.cells (grownCap W (m + 1) cap 37 - (m + 1)) = (L ++ [nat d, int c] ++ (Builtin.zeroCells z.cells (grownCap W (m + 1) cap 37 - (m + 1))).toList).toArray by apply Array.ext'; simp]
        exact Blk.new W.drew _ 37
      · have e1 := zeroCells_len z.cells (grownCap W (m + 1) cap 37 - (m + 1))
        rw [hzc] at e1 ⊢
        simp at e1 ⊢
        omega
end Go.Proofs.Qxb6602120a
