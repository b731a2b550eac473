import Derived.Test.Qxb6601743aHeap
import Derived.Lib.Overlaps
import Derived.Lib.SliceRun
import Derived.Laws.Externs
import Derived.Laws.IdiomCopy
import Derived.Lib.AppendZerosOnto
import Derived.Deep.RegionLaw
namespace Go.Proofs.Qxb6601743a
open Go.RowKit

/-- An element type of one cell: what the laws on slices ask of the program's tables. -/
structure Elem (P : Program) (t e : TypeId) (z : Value) (bytes : Nat) : Prop where
  und : P.underlying t = some (.slice e)
  info : (P.info? e).map (fun i => (i.zero, i.size, i.bytes)) = some (some z, 1, bytes)
  zero : ∀ w, (zeroValue e).run P w = .ok z w
  zc : z.cells = #[z]
  z1 : z.oneCell' = true
  size : ∀ w, (Go.sizeOf e).run P w = .ok 1 w

/-- v is a slice over the head of block b, which holds its elements xs and then spare cells. -/
def Own (w : World) (e : TypeId) (v : Value) (b : Nat) (xs : List Value) : Prop :=
  ∃ sp : List Value, v = .slice (some ⟨b, 0, none⟩) xs.length (xs.length + sp.length) ∧ Blk w b e (xs ++ sp) ∧ xs.length + sp.length ≤ 9223372036854775807

theorem Own.lt {w e v b xs} (h : Own w e v b xs) : b < w.heap.size := by obtain ⟨_, _, h, _⟩ := h; exact h.lt
theorem Own.chg {S : List Nat} {w w' : World} {e v b xs} (h : Own w e v b xs) (c : Chg S w w') (hs : b ∉ S) : Own w' e v b xs := by
  obtain ⟨sp, hv, h, hm⟩ := h; exact ⟨sp, hv, h.chg c hs, hm⟩

def over (L : List Value) (o : Nat) (vs : List Value) : List Value := L.take o ++ vs ++ L.drop (o + vs.length)

theorem over_nil (L : List Value) (o : Nat) : over L o [] = L := by simp [over]

theorem over_cons (L : List Value) (o : Nat) (v : Value) (vs : List Value) (h : o < L.length) : over (L.set o v) (o + 1) vs = over L o (v :: vs) := by
  unfold over
  rw [List.take_succ_eq_append_getElem (by simpa using h), List.getElem_set_self, List.take_set_of_le (Nat.le_refl _)]
  rw [List.drop_set_of_lt (by omega), show o + 1 + vs.length = o + (v :: vs).length by simp; omega]
  simp

theorem Blk.setCells {b : Nat} {e : TypeId} : ∀ (vs : List Value) {w : World} {L : List Value} (o : Nat), Blk w b e L → o + vs.length ≤ L.length → Blk (w.setCells b o vs) b e (over L o vs)
  | [], w, L, o, h, _ => by rw [over_nil]; exact h
  | v :: vs, w, L, o, h, hl => by
    simp only [List.length_cons] at hl
    rw [← over_cons L o v vs (by omega)]
    exact Blk.setCells vs (o + 1) (h.set o v) (by simp; omega)

theorem size_setCells (b : Nat) : ∀ (vs : List Value) (w : World) (o : Nat), (w.setCells b o vs).heap.size = w.heap.size
  | [], _, _ => rfl
  | v :: vs, w, o => by rw [World.setCells, size_setCells b vs]; simp [World.setCell]

theorem Chg.setCells {S : List Nat} {a : World} {b : Nat} (hb : b ∈ S ∨ a.heap.size ≤ b) : ∀ (vs : List Value) {w : World} (o : Nat), Chg S a w → Chg S a (w.setCells b o vs)
  | [], _, _, h => h
  | v :: vs, _, o, h => Chg.setCells hb vs (o + 1) (h.setCell (p := ⟨b, o, none⟩) hb v)

theorem Blk.cells {w : World} {b e L} (h : Blk w b e L) (o : Nat) (cs : List Value) (hc : ∀ j v, cs[j]? = some v → L[o + j]? = some v) : ∀ j v, cs[j]? = some v → w.cell? ((⟨b, o, none⟩ : Addr).add j) = some v := fun j v hj => by
  rw [Addr.add_lit]; exact h.cell (hc j v hj)

theorem Blk.isSome {w : World} {b e L} (h : Blk w b e L) {k : Nat} (hk : k < L.length) : (w.cell? ⟨b, k, none⟩).isSome = true := by
  rw [h.cell (List.getElem?_eq_getElem hk)]; rfl

theorem over_get (L : List Value) (o : Nat) (vs : List Value) (h : o + vs.length ≤ L.length) (k : Nat) : (over L o vs)[k]? = if k < o then L[k]? else if k < o + vs.length then vs[k - o]? else L[k]? := by
  unfold over
  have l1 : (L.take o).length = o := by simp; omega
  by_cases c1 : k < o
  · rw [if_pos c1, List.append_assoc, List.getElem?_append_left (by omega), List.getElem?_take, if_pos c1]
  · rw [if_neg c1, List.append_assoc, List.getElem?_append_right (by omega), l1]
    by_cases c2 : k < o + vs.length
    · rw [if_pos c2, List.getElem?_append_left (by omega)]
    · rw [if_neg c2, List.getElem?_append_right (by omega), List.getElem?_drop, show o + vs.length + (k - o - vs.length) = k by omega]

theorem over_len (L : List Value) (o : Nat) (vs : List Value) (h : o + vs.length ≤ L.length) : (over L o vs).length = L.length := by simp [over]; omega

theorem over_shift (xs sp : List Value) (i : Nat) (x : Value) (hi : i < xs.length) (hr : 0 < sp.length) : over (over (xs ++ sp) (i + 1) (xs.drop i)) i [x] = (xs.take i ++ x :: xs.drop i) ++ sp.drop 1 := by
  have h1 : i + 1 + (xs.drop i).length ≤ (xs ++ sp).length := by simp; omega
  apply List.ext_getElem?
  intro k
  rw [over_get _ _ _ (by rw [over_len _ _ _ h1]; simp; omega), over_get _ _ _ h1]
  have l1 : (xs.take i).length = i := by simp; omega
  have l2 : (xs.drop i).length = xs.length - i := by simp
  simp only [List.length_singleton, l2]
  by_cases c1 : k < i
  · rw [if_pos c1, if_pos (show k < i + 1 by omega), List.append_assoc, List.getElem?_append_left (by omega), List.getElem?_append_left (by omega), List.getElem?_take, if_pos c1]
  · rw [if_neg c1, List.append_assoc, List.getElem?_append_right (l₁ := xs.take i) (by omega), l1]
    by_cases c2 : k = i
    · subst c2; simp
    · have a1 : ¬ k < i + 1 := by omega
      rw [if_neg a1, if_neg a1, show k - i = (k - i - 1) + 1 by omega, List.cons_append, List.getElem?_cons_succ]
      by_cases c3 : k < i + 1 + (xs.length - i)
      · rw [if_pos c3, List.getElem?_append_left (by omega), show k - (i + 1) = k - i - 1 by omega]
      · rw [if_neg c3, List.getElem?_append_right (l₁ := xs) (by omega), List.getElem?_append_right (l₁ := xs.drop i) (by omega), List.getElem?_drop, l2, show 1 + (k - i - 1 - (xs.length - i)) = k - xs.length by omega]

theorem over_grow {z : Value} (xs : List Value) (i : Nat) (x : Value) (G : Nat) (hi : i < xs.length) (hG : xs.length + 1 ≤ G) : over (over (xs.take i ++ List.replicate (G - i) z) i [x]) (i + 1) (xs.drop i) = (xs.take i ++ x :: xs.drop i) ++ List.replicate (G - (xs.length + 1)) z := by
  have l1 : (xs.take i).length = i := by simp; omega
  have l2 : (xs.drop i).length = xs.length - i := by simp
  have h1 : i + ([x] : List Value).length ≤ (xs.take i ++ List.replicate (G - i) z).length := by simp; omega
  have h2 : i + 1 + (xs.drop i).length ≤ (over (xs.take i ++ List.replicate (G - i) z) i [x]).length := by rw [over_len _ _ _ h1]; simp; omega
  apply List.ext_getElem?
  intro k
  rw [over_get _ _ _ h2, over_get _ _ _ h1]
  simp only [List.length_singleton, l2]
  by_cases c1 : k < i
  · rw [if_pos (show k < i + 1 by omega), if_pos c1, List.append_assoc, List.getElem?_append_left (by omega), List.getElem?_append_left (by omega)]
  · rw [List.append_assoc, if_neg c1, List.getElem?_append_right (l₁ := xs.take i) (l₂ := x :: xs.drop i ++ List.replicate (G - (xs.length + 1)) z) (by omega), l1]
    by_cases c2 : k = i
    · subst c2; simp
    · have a1 : ¬ k < i + 1 := by omega
      rw [if_neg a1, if_neg a1, show k - i = (k - i - 1) + 1 by omega, List.cons_append, List.getElem?_cons_succ]
      by_cases c3 : k < i + 1 + (xs.length - i)
      · rw [if_pos c3, List.getElem?_append_left (by omega), show k - (i + 1) = k - i - 1 by omega]
      · rw [if_neg c3, List.getElem?_append_right (l₁ := xs.take i) (by omega), List.getElem?_append_right (l₁ := xs.drop i) (by omega), l1, l2, List.getElem?_replicate, List.getElem?_replicate]
        by_cases c4 : k < G
        · rw [if_pos (show k - i < G - i by omega), if_pos (show k - i - 1 - (xs.length - i) < G - (xs.length + 1) by omega)]
        · rw [if_neg (show ¬ k - i < G - i by omega), if_neg (show ¬ k - i - 1 - (xs.length - i) < G - (xs.length + 1) by omega)]

variable {P : Program} {t e : TypeId} {z : Value} {bytes : Nat}

theorem zeroCells_one (E : Elem P t e z bytes) (n : Nat) : Builtin.zeroCells z.cells n = (List.replicate n z).toArray := by
  rw [E.zc]
  apply Array.ext'
  apply List.ext_getElem
  · simp [Builtin.zeroCells]
  · intro i h1 h2; simp [Builtin.zeroCells, Nat.mod_one]

/-- append(s, news...), s the head of block b: there is room, or a new block is made. -/
theorem append_blk (E : Elem P t e z bytes) {w : World} {b : Nat} {xs sp : List Value} (hb : Blk w b e (xs ++ sp)) (hcap : xs.length + sp.length ≤ 9223372036854775807)
    (ad : Addr) (m c : Nat) (news : List Value) (hl : news.length = m) (hnews : ∀ j u, news[j]? = some u → w.cell? (ad.add j) = some u) (h1 : ∀ u ∈ news, u.oneCell' = true)
    (hbig : (xs.length + m) * bytes ≤ 140737488355328) (hsm : xs.length + m ≤ 9223372036854775807) :
    ∃ v' b' w', (∀ ty, (Builtin.append_ #[t, t] ty #[.slice (some ⟨b, 0, none⟩) xs.length (xs.length + sp.length), .slice (some ad) m c]).run P w = .ok v' w') ∧ Own w' e v' b' (xs ++ news) ∧
      ((b' = b ∧ Chg [b] w w' ∧ w'.heap.size = w.heap.size) ∨ (b' = w.heap.size ∧ Chg [] w w' ∧ w'.heap.size = w.heap.size + 1)) := by
  obtain ⟨i, hi, hz, hs1, hby⟩ := info_parts E.info
  subst hl
  by_cases hroom : xs.length + news.length ≤ xs.length + sp.length
  · have hr := fun ty => run_append_room (P := P) w t ty e i E.und hi b xs.length (xs.length + sp.length) (xs ++ sp).toArray hb ad news.length c news (by rw [hs1]; simp) hnews h1 hroom (by rw [hs1]; simp; omega)
    refine ⟨_, b, _, hr, ⟨sp.drop news.length, ?_, ?_, by simp; omega⟩, Or.inl ⟨rfl, ?_, ?_⟩⟩
    · simp; omega
    · rw [hs1]
      have e1 : ((xs ++ sp).toArray.toList.take (xs.length * 1) ++ news ++ (xs ++ sp).toArray.toList.drop (xs.length * 1 + news.length)) = xs ++ news ++ sp.drop news.length := by
        simp [List.drop_append, Nat.add_sub_cancel_left]
      rw [e1]
      exact setRow_heap w b _ _ e _ hb
    · exact ⟨rfl, rfl, rfl, by simp, fun k _ hk => setRow_other w b k _ (by simpa using hk)⟩
    · simp
  · have hr := fun ty => run_append_grow (P := P) w t ty e i z E.und hi hz ⟨b, 0, none⟩ xs.length (xs.length + sp.length) xs (by rw [hs1]; simp) (fun j u hj => by
        rw [Addr.add_lit, Nat.zero_add]; exact hb.cell (by rw [List.getElem?_append_left (List.getElem?_eq_some_iff.1 hj).1]; exact hj)) ad news.length c news (by rw [hs1]; simp) hnews (by omega) (by omega) (growslice_fits (by omega) (by rw [hby]; exact hbig))
    have hge := grownCap_ge w (xs.length + news.length) (xs.length + sp.length) e
    have hle := grownCap_le_maxLen w (xs.length + news.length) (xs.length + sp.length) e (by unfold maxLen; omega)
    unfold maxLen at hle
    refine ⟨_, w.heap.size, _, hr, ⟨List.replicate (grownCap w (xs.length + news.length) (xs.length + sp.length) e - (xs.length + news.length)) z, ?_, ?_, by simp; omega⟩, Or.inr ⟨rfl, ((Chg.refl _ _).drew).alloc _, by simp⟩⟩
    · simp; omega
    · rw [zeroCells_one E, List.append_toArray, List.append_toArray]
      exact Blk.new w.drew (xs ++ news ++ List.replicate (grownCap w (xs.length + news.length) (xs.length + sp.length) e - (xs.length + news.length)) z) e

/-- THE OPERATION 'copy(d, s)' for the walk, where its run is known by an equation. -/
theorem wp_copy_eq (w : World) {o : Oper} {a : Act} {K : Act → World → Prop} {Q : Exit → Act → World → Prop} (d s : Operand) (t t' : TypeId)
    (ho : o.op = .call { callee := .builtin .copy, args := #[d, s], argTypes := #[t, t'] }) (v u : Value) (hd : a.eval d = v) (hs : a.eval s = u) {v' : Value} {w' : World}
    (hr : (Builtin.copy_ #[t, t'] o.type #[v, u]).run P w = .ok v' w') (h : K (a.put o.dst v') w') : o.wp P a w K Q := by
  unfold Oper.wp execOp
  simp only [ho, resolve, invoke, builtin, Sem.run_bind, Sem.run_pure, Result.andThen_ok, List.map_toArray, List.map_cons, List.map_nil, hd, hs, hr]
  exact h

theorem wpList_copy_eq (w : World) {ops : Array Oper} {rest : List Oper} {o : Oper} {a : Act} {Q : Exit → Act → World → Prop} (hgd : o.guard = none) (d s : Operand) (t t' : TypeId)
    (ho : o.op = .call { callee := .builtin .copy, args := #[d, s], argTypes := #[t, t'] }) (v u : Value) (hd : a.eval d = v) (hs : a.eval s = u) {v' : Value} {w' : World}
    (hr : (Builtin.copy_ #[t, t'] o.type #[v, u]).run P w = .ok v' w') (h : wpList P ops Q rest (a.put o.dst v') w') : wpList P ops Q (o :: rest) a w :=
  wpList_plain hgd fun _ hK => wp_copy_eq w d s t t' ho v u hd hs hr (hK _ _ h)

/-- .. and as one step of a region that draws. -/
theorem step_copy_eq {ops : Array Oper} {o : Oper} {a : Act} {w : World} {K : Act → World → Prop} {Q : Exit → Act → World → Prop} {X : Prop}
    (hg : o.guard = none) (d x : Operand) (dT sT : TypeId) (hop : o.op = Op.call { callee := Callee.builtin Builtin.copy, args := #[d, x], argTypes := #[dT, sT] })
    (v u : Value) (hd : a.eval d = v) (hx : a.eval x = u) {v' : Value} {w' : World} (hr : (Builtin.copy_ #[dT, sT] o.type #[v, u]).run P w = .ok v' w') (hK : K (a.put o.dst v') w') :
    if Region.wanted o (yielded ops a.tmps) = true then Oper.wp P o a w K Q else X := by
  have hw : Region.wanted o (yielded ops a.tmps) = true := by simp [Region.wanted, hg]
  rw [if_pos hw]
  exact wp_copy_eq w d x dT sT hop v u hd hx hr hK

/-- The same for append. -/
theorem step_append_eq {ops : Array Oper} {o : Oper} {a : Act} {w : World} {K : Act → World → Prop} {Q : Exit → Act → World → Prop} {X : Prop}
    (hg : o.guard = none) (d x : Operand) (dT sT : TypeId) (hop : o.op = Op.call { callee := Callee.builtin Builtin.append, args := #[d, x], argTypes := #[dT, sT] })
    (v u : Value) (hd : a.eval d = v) (hx : a.eval x = u) {v' : Value} {w' : World} (hr : (Builtin.append_ #[dT, sT] o.type #[v, u]).run P w = .ok v' w') (hK : K (a.put o.dst v') w') :
    if Region.wanted o (yielded ops a.tmps) = true then Oper.wp P o a w K Q else X := by
  have hw : Region.wanted o (yielded ops a.tmps) = true := by simp [Region.wanted, hg]
  rw [if_pos hw]
  unfold Oper.wp
  simp [execOp, hop, resolve, invoke, builtin, hd, hx, hr, Result.andThen]
  exact hK
end Go.Proofs.Qxb6601743a
