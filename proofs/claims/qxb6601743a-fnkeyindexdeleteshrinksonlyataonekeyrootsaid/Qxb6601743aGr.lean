import Derived.Test.Qxb6601743aFlf
namespace Go.Proofs.Qxb6601743a
open Go.RowKit

/-- What is known of one node: its two fields, the blocks behind them, its keys, its children, its level (a leaf lies at 0). -/
structure Nd where
  kv : Value
  cv : Value
  g : Nat
  d : List Nat
  ks : List ByteArray
  kids : List Nat
  lv : Nat

def At (nd : Nat → Option Nd) (L c : Nat) : Prop := ∃ j, nd c = some j ∧ j.lv = L

structure Loc (w : World) (nd : Nat → Option Nd) (b : Nat) (i : Nd) : Prop where
  blk : Blk w b 59 [i.kv, i.cv]
  key : Own w 9 i.kv i.g (i.ks.map Value.string)
  kid : Kids w i.cv i.d (i.kids.map ptr)
  hi : i.ks.length ≤ 63
  leaf : i.lv = 0 → i.d = []
  inner : ∀ L, i.lv = L + 1 → i.d ≠ [] ∧ i.kids.length = i.ks.length + 1 ∧ ∀ c ∈ i.kids, At nd L c

/-- A world of nodes, none of which shares memory with another. -/
structure Gr (w : World) (nd : Nat → Option Nd) : Prop where
  loc : ∀ b i, nd b = some i → Loc w nd b i
  gI : ∀ b b' i i', nd b = some i → nd b' = some i' → i.g = i'.g → b = b'
  dI : ∀ b b' i i' x, nd b = some i → nd b' = some i' → x ∈ i.d → x ∈ i'.d → b = b'
  kI : ∀ b b' i i' x, nd b = some i → nd b' = some i' → x ∈ i.kids → x ∈ i'.kids → b = b'
  kN : ∀ b i, nd b = some i → i.kids.Nodup

theorem Kids.own {w : World} {v : Value} {ds : List Nat} {xs : List Value} (h : Kids w v ds xs) {x : Nat} (hx : x ∈ ds) : Own w 34 v x xs ∧ ds = [x] := by
  rcases h with ⟨_, rfl, _⟩ | ⟨b, rfl, ho⟩
  · simp at hx
  · obtain rfl : x = b := by simpa using hx
    exact ⟨ho, rfl⟩
theorem Kids.nodup {w : World} {v : Value} {ds : List Nat} {xs : List Value} (h : Kids w v ds xs) : ds.Nodup := by
  rcases h with ⟨_, rfl, _⟩ | ⟨b, rfl, _⟩ <;> simp
theorem Kids.one {w : World} {v : Value} {ds : List Nat} {xs : List Value} (h : Kids w v ds xs) (hn : ds ≠ []) : ∃ x, ds = [x] ∧ Own w 34 v x xs := by
  rcases h with ⟨_, rfl, _⟩ | ⟨b, rfl, ho⟩
  · exact absurd rfl hn
  · exact ⟨b, rfl, ho⟩

def upd (nd : Nat → Option Nd) (O : List Nat) (N : List (Nat × Nd)) (b : Nat) : Option Nd :=
  match N.lookup b with
  | some i => some i
  | none => if b ∈ O then none else nd b

theorem lookup_mem {N : List (Nat × Nd)} {b : Nat} {i : Nd} (h : N.lookup b = some i) : (b, i) ∈ N := by
  induction N with
  | nil => simp at h
  | cons p N ih =>
    obtain ⟨q, j⟩ := p
    rw [List.lookup_cons] at h
    by_cases hb : b = q
    · subst hb
      simp at h
      subst h
      simp
    · have hb' : (b == q) = false := by simp [hb]
      rw [hb'] at h
      exact List.mem_cons_of_mem _ (ih h)

theorem lookup_of {N : List (Nat × Nd)} (hN : (N.map (·.1)).Nodup) {b : Nat} {i : Nd} (h : (b, i) ∈ N) : N.lookup b = some i := by
  induction N with
  | nil => simp at h
  | cons p N ih =>
    obtain ⟨q, j⟩ := p
    rw [List.map_cons, List.nodup_cons] at hN
    rw [List.lookup_cons]
    rcases List.mem_cons.1 h with h | h
    · cases h
      simp
    · have hne : b ≠ q := fun e => hN.1 (List.mem_map.2 ⟨(b, i), h, e⟩)
      have hb' : (b == q) = false := by simp [hne]
      rw [hb']
      exact ih hN.2 h

theorem lookup_none {N : List (Nat × Nd)} {b : Nat} (h : b ∉ N.map (·.1)) : N.lookup b = none := by
  cases hl : N.lookup b with
  | none => rfl
  | some i => exact absurd (List.mem_map.2 ⟨_, lookup_mem hl, rfl⟩) h

theorem upd_new {nd : Nat → Option Nd} {O : List Nat} {N : List (Nat × Nd)} (hN : (N.map (·.1)).Nodup) {b : Nat} {i : Nd} (h : (b, i) ∈ N) : upd nd O N b = some i := by
  unfold upd; rw [lookup_of hN h]
theorem upd_old {nd : Nat → Option Nd} {O : List Nat} {N : List (Nat × Nd)} {b : Nat} (h : b ∉ N.map (·.1)) (ho : b ∉ O) : upd nd O N b = nd b := by
  unfold upd; rw [lookup_none h, if_neg ho]
theorem upd_cases {nd : Nat → Option Nd} {O : List Nat} {N : List (Nat × Nd)} {b : Nat} {i : Nd} (h : upd nd O N b = some i) : (b, i) ∈ N ∨ (nd b = some i ∧ b ∉ O ∧ b ∉ N.map (·.1)) := by
  unfold upd at h
  cases hl : N.lookup b with
  | some j =>
    rw [hl] at h
    obtain rfl : j = i := by simpa using h
    exact Or.inl (lookup_mem hl)
  | none =>
    rw [hl] at h
    by_cases ho : b ∈ O
    · simp [ho] at h
    · simp only [ho, if_false] at h
      refine Or.inr ⟨h, ho, fun hm => ?_⟩
      obtain ⟨p, hp, rfl⟩ := List.mem_map.1 hm
      have : ∀ M : List (Nat × Nd), p ∈ M → M.lookup p.1 ≠ none := by
        intro M
        induction M with
        | nil => intro h; simp at h
        | cons q M ih =>
          intro h
          rw [List.lookup_cons]
          rcases List.mem_cons.1 h with rfl | h
          · simp
          · cases hq : (p.1 == q.1) with
            | true => simp
            | false => exact ih h
      exact this N hp hl

theorem Gr.lt {w : World} {nd : Nat → Option Nd} (G : Gr w nd) {b : Nat} {i : Nd} (h : nd b = some i) : b < w.heap.size ∧ i.g < w.heap.size ∧ ∀ x ∈ i.d, x < w.heap.size :=
  ⟨(G.loc b i h).blk.lt, (G.loc b i h).key.lt, fun _ hx => ((G.loc b i h).kid.own hx).1.lt⟩

theorem Gr.kid_lt {w : World} {nd : Nat → Option Nd} (G : Gr w nd) {b : Nat} {i : Nd} (h : nd b = some i) {x : Nat} (hx : x ∈ i.kids) : ∃ L, i.lv = L + 1 ∧ At nd L x := by
  cases hl : i.lv with
  | zero =>
    have hd := (G.loc b i h).leaf hl
    have hk := (G.loc b i h).kid
    rw [hd] at hk
    rcases hk with ⟨_, _, hm⟩ | ⟨_, hc, _⟩
    · rw [List.map_eq_nil_iff.1 hm] at hx; simp at hx
    · simp at hc
  | succ L => exact ⟨L, rfl, ((G.loc b i h).inner L hl).2.2 x hx⟩

theorem flat_inj {α : Type} {f : α → List Nat} {l : List α} (h : (l.flatMap f).Nodup) {a b : α} {x : Nat} (ha : a ∈ l) (hb : b ∈ l) (hxa : x ∈ f a) (hxb : x ∈ f b) : a = b := by
  induction l with
  | nil => simp at ha
  | cons c l ih =>
    rw [List.flatMap_cons, List.nodup_append] at h
    rcases List.mem_cons.1 ha with rfl | ha' <;> rcases List.mem_cons.1 hb with rfl | hb'
    · rfl
    · exact absurd rfl (h.2.2 x hxa x (List.mem_flatMap.2 ⟨b, hb', hxb⟩))
    · exact absurd rfl (h.2.2 x hxb x (List.mem_flatMap.2 ⟨a, ha', hxa⟩))
    · exact ih h.2.1 ha' hb'

/-- Some nodes (O) give way to others (N): all the rest stands. -/
theorem Gr.update {w w' : World} {nd : Nat → Option Nd} (G : Gr w nd) (O N : List (Nat × Nd)) {S : List Nat} (hc : Chg S w w') (hO : ∀ p ∈ O, nd p.1 = some p.2)
    (hS : ∀ s ∈ S, s ∈ O.map (·.1) ∨ s ∈ O.map (·.2.g) ∨ s ∈ O.flatMap (·.2.d)) (hNk : (N.map (·.1)).Nodup) (hN1 : ∀ p ∈ N, p.1 ∈ O.map (·.1) ∨ w.heap.size ≤ p.1)
    (hloc : ∀ p ∈ N, Loc w' (upd nd (O.map (·.1)) N) p.1 p.2)
    (hg : (N.map (·.2.g)).Nodup) (hg' : ∀ p ∈ N, p.2.g ∈ O.map (·.2.g) ∨ w.heap.size ≤ p.2.g)
    (hd : (N.flatMap (·.2.d)).Nodup) (hd' : ∀ p ∈ N, ∀ x ∈ p.2.d, x ∈ O.flatMap (·.2.d) ∨ w.heap.size ≤ x)
    (hk : (N.flatMap (·.2.kids)).Nodup) (hk' : ∀ p ∈ N, ∀ x ∈ p.2.kids, x ∈ O.flatMap (·.2.kids) ∨ w.heap.size ≤ x ∨ ∀ b i, nd b = some i → x ∉ i.kids)
    (hL : ∀ p ∈ O, (∃ q ∈ N, q.1 = p.1 ∧ q.2.lv = p.2.lv) ∨ (p.1 ∈ O.flatMap (·.2.kids)) ∨ ∀ b i, nd b = some i → p.1 ∉ i.kids) : Gr w' (upd nd (O.map (·.1)) N) := by
  have far : ∀ b i, nd b = some i → b ∉ O.map (·.1) → b ∉ S ∧ i.g ∉ S ∧ ∀ x ∈ i.d, x ∉ S := by
    intro b i hb hn
    have lb := G.loc b i hb
    refine ⟨fun hs => ?_, fun hs => ?_, fun x hx hs => ?_⟩
    · rcases hS _ hs with h | h | h
      · exact hn h
      · obtain ⟨p, hp, e⟩ := List.mem_map.1 h
        exact (G.loc _ _ (hO p hp)).key.ne lb.blk (by decide) e
      · obtain ⟨p, hp, e⟩ := List.mem_flatMap.1 h
        exact ((G.loc _ _ (hO p hp)).kid.own e).1.ne lb.blk (by decide) rfl
    · rcases hS _ hs with h | h | h
      · obtain ⟨p, hp, e⟩ := List.mem_map.1 h
        exact lb.key.ne (G.loc _ _ (hO p hp)).blk (by decide) e.symm
      · obtain ⟨p, hp, e⟩ := List.mem_map.1 h
        exact hn (List.mem_map.2 ⟨p, hp, G.gI _ _ _ _ (hO p hp) hb e⟩)
      · obtain ⟨p, hp, e⟩ := List.mem_flatMap.1 h
        exact ((G.loc _ _ (hO p hp)).kid.own e).1.ne2 lb.key (by decide) rfl
    · rcases hS _ hs with h | h | h
      · obtain ⟨p, hp, e⟩ := List.mem_map.1 h
        exact (lb.kid.own hx).1.ne (G.loc _ _ (hO p hp)).blk (by decide) e.symm
      · obtain ⟨p, hp, e⟩ := List.mem_map.1 h
        exact (lb.kid.own hx).1.ne2 (G.loc _ _ (hO p hp)).key (by decide) e.symm
      · obtain ⟨p, hp, e⟩ := List.mem_flatMap.1 h
        exact hn (List.mem_map.2 ⟨p, hp, G.dI _ _ _ _ _ (hO p hp) hb e hx⟩)
  have inO : ∀ x, x ∈ O.flatMap (·.2.kids) → ∀ b i, nd b = some i → x ∈ i.kids → b ∈ O.map (·.1) := by
    intro x hx b i hb hxi
    obtain ⟨p, hp, e⟩ := List.mem_flatMap.1 hx
    exact List.mem_map.2 ⟨p, hp, G.kI _ _ _ _ x (hO p hp) hb e hxi⟩
  have new_g : ∀ p ∈ N, ∀ b i, nd b = some i → b ∉ O.map (·.1) → p.2.g ≠ i.g := by
    intro p hp b i hb hn e
    rcases hg' p hp with h | h
    · obtain ⟨q, hq, e2⟩ := List.mem_map.1 h
      exact hn (List.mem_map.2 ⟨q, hq, G.gI _ _ _ _ (hO q hq) hb (e2.trans e)⟩)
    · have := (G.lt hb).2.1
      omega
  have new_d : ∀ p ∈ N, ∀ b i, nd b = some i → b ∉ O.map (·.1) → ∀ x ∈ p.2.d, x ∉ i.d := by
    intro p hp b i hb hn x hx hxi
    rcases hd' p hp x hx with h | h
    · obtain ⟨q, hq, e2⟩ := List.mem_flatMap.1 h
      exact hn (List.mem_map.2 ⟨q, hq, G.dI _ _ _ _ x (hO q hq) hb e2 hxi⟩)
    · have := (G.lt hb).2.2 x hxi
      omega
  have new_k : ∀ p ∈ N, ∀ b i, nd b = some i → b ∉ O.map (·.1) → ∀ x ∈ p.2.kids, x ∉ i.kids := by
    intro p hp b i hb hn x hx hxi
    rcases hk' p hp x hx with h | h | h
    · exact hn (inO x h b i hb hxi)
    · obtain ⟨L, _, j, hj, _⟩ := G.kid_lt hb hxi
      have := (G.lt hj).1
      omega
    · exact h b i hb hxi
  refine ⟨?_, ?_, ?_, ?_, ?_⟩
  · intro b i h
    rcases upd_cases h with h | ⟨hb, ho, hn⟩
    · exact hloc _ h
    · obtain ⟨f1, f2, f3⟩ := far b i hb ho
      have lb := G.loc b i hb
      refine ⟨lb.blk.chg hc f1, lb.key.chg hc f2, lb.kid.chg hc f3, lb.hi, lb.leaf, fun L hl => ⟨(lb.inner L hl).1, (lb.inner L hl).2.1, fun c hci => ?_⟩⟩
      obtain ⟨j, hj, hjl⟩ := (lb.inner L hl).2.2 c hci
      by_cases hco : c ∈ O.map (·.1)
      · obtain ⟨p, hp, rfl⟩ := List.mem_map.1 hco
        have hpj : p.2 = j := by have := hO p hp; rw [hj] at this; simpa using this.symm
        rcases hL p hp with ⟨q, hq, e1, e2⟩ | h | h
        · refine ⟨q.2, ?_, by rw [e2, hpj, hjl]⟩
          rw [← e1]
          exact upd_new hNk hq
        · exact absurd (inO _ h b i hb hci) ho
        · exact absurd hci (h b i hb)
      · refine ⟨j, ?_, hjl⟩
        rw [upd_old ?_ hco, hj]
        intro hcn
        obtain ⟨q, hq, rfl⟩ := List.mem_map.1 hcn
        rcases hN1 q hq with h | h
        · exact hco h
        · have := (G.lt hj).1
          omega
  · intro b b' i i' h h' e
    rcases upd_cases h with h | ⟨hb, ho, hn⟩ <;> rcases upd_cases h' with h' | ⟨hb', ho', hn'⟩
    · by_cases hbb : (b, i) = (b', i')
      · cases hbb; rfl
      · obtain ⟨x, hx⟩ := List.mem_iff_getElem?.1 h
        obtain ⟨y, hy⟩ := List.mem_iff_getElem?.1 h'
        have hxy : x = y := inj_of hg (x := i.g) (by rw [List.getElem?_map, hx]; rfl) (by rw [List.getElem?_map, hy, e]; rfl)
        subst hxy
        rw [hx] at hy
        exact absurd (by simpa using hy) hbb
    · exact absurd e (new_g _ h _ _ hb' ho')
    · exact absurd e.symm (new_g _ h' _ _ hb ho)
    · exact G.gI _ _ _ _ hb hb' e
  · intro b b' i i' x h h' e e'
    rcases upd_cases h with h | ⟨hb, ho, hn⟩ <;> rcases upd_cases h' with h' | ⟨hb', ho', hn'⟩
    · exact congrArg (·.1) (flat_inj hd h h' e e')
    · exact absurd e' (new_d _ h _ _ hb' ho' x e)
    · exact absurd e (new_d _ h' _ _ hb ho x e')
    · exact G.dI _ _ _ _ _ hb hb' e e'
  · intro b b' i i' x h h' e e'
    rcases upd_cases h with h | ⟨hb, ho, hn⟩ <;> rcases upd_cases h' with h' | ⟨hb', ho', hn'⟩
    · exact congrArg (·.1) (flat_inj hk h h' e e')
    · exact absurd e' (new_k _ h _ _ hb' ho' x e)
    · exact absurd e (new_k _ h' _ _ hb ho x e')
    · exact G.kI _ _ _ _ _ hb hb' e e'
  · intro b i h
    rcases upd_cases h with h | ⟨hb, ho, hn⟩
    · exact (List.pairwise_flatMap.1 hk).1 _ h
    · exact G.kN _ _ hb
end Go.Proofs.Qxb6601743a
