import Derived.Test.Qxb6601743aFl
import Derived.Test.Qxb6601743aBs
namespace Go.Proofs.Qxb6601743a
open Go.RowKit

/-- A tree of height H + 1: its nodes, its root; every other node has enough keys. -/
structure Tr (B : Nat) (w : World) (nd : Nat → Option Nd) (root H : Nat) : Prop where
  gr : Gr w nd
  lo : Lo B nd
  sz : B ≤ w.heap.size
  rt : At nd H root
  mx : ∀ b i, nd b = some i → b ≠ root → i.lv < H
  mn : ∀ b i, nd b = some i → b ≠ root → 31 ≤ i.ks.length

section
variable {B : Nat} {w w' : World} {nd : Nat → Option Nd} {root H : Nat}

theorem Tr.lv_le (T : Tr B w nd root H) {b : Nat} {i : Nd} (hb : nd b = some i) : i.lv ≤ H := by
  by_cases h : b = root
  · subst h
    obtain ⟨j, hj, hl⟩ := T.rt
    rw [hb] at hj; cases hj
    omega
  · exact Nat.le_of_lt (T.mx b i hb h)

theorem Tr.ne_root (T : Tr B w nd root H) {b : Nat} {i : Nd} (hb : nd b = some i) (hl : i.lv < H) : b ≠ root := fun h => by
  subst h
  obtain ⟨j, hj, hl'⟩ := T.rt
  rw [hb] at hj; cases hj
  omega

theorem Tr.root_no (T : Tr B w nd root H) : ∀ b i, nd b = some i → root ∉ i.kids := fun b i hb hm => by
  obtain ⟨L, hL, j, hj, hjl⟩ := T.gr.kid_lt hb hm
  have := T.lv_le hb
  exact T.ne_root hj (by omega) rfl

theorem Tr.cut (T : Tr B w nd root H) {O N : List (Nat × Nd)} {S : List Nat} (C : Cut w w' nd O N S) (h1 : ∀ p ∈ N, p.1 ≠ root → p.2.lv < H ∧ 31 ≤ p.2.ks.length) (h2 : (∃ p ∈ N, p.1 = root ∧ p.2.lv = H) ∨ root ∉ O.map (·.1)) :
    Tr B w' (upd nd (O.map (·.1)) N) root H := by
  refine ⟨C.gr T.gr, C.lo T.lo T.sz, Nat.le_trans T.sz C.hc.size, ?_, ?_, ?_⟩
  · rcases h2 with ⟨p, hp, e, hl⟩ | h2
    · exact ⟨p.2, by rw [← e]; exact upd_new C.hNk hp, hl⟩
    · obtain ⟨j, hj, hl⟩ := T.rt
      refine ⟨j, ?_, hl⟩
      rw [upd_old ?_ h2, hj]
      intro hm
      obtain ⟨p, hp, e⟩ := List.mem_map.1 hm
      rcases C.hN1 p hp with h | h
      · exact h2 (e ▸ h)
      · have := (T.gr.lt hj).1
        omega
  · intro b i hb hne
    rcases upd_cases hb with hb | ⟨hb, _, _⟩
    · exact (h1 _ hb hne).1
    · exact T.mx b i hb hne
  · intro b i hb hne
    rcases upd_cases hb with hb | ⟨hb, _, _⟩
    · exact (h1 _ hb hne).2
    · exact T.mn b i hb hne

theorem Tr.kept (T : Tr B w nd root H) {O N : List (Nat × Nd)} {S : List Nat} (C : Cut w w' nd O N S) : Kept B w w' := C.kept T.gr T.lo T.sz

theorem Tr.chg (T : Tr B w nd root H) (c : Chg [] w w') : Tr B w' nd root H := ⟨T.gr.chg c, T.lo, Nat.le_trans T.sz c.size, T.rt, T.mx, T.mn⟩

theorem Kept.of_chg (c : Chg [] w w') (h : B ≤ w.heap.size) : Kept B w w' := ⟨⟨c.os, c.tape, c.output, c.size, fun k hk => c.block k (by omega) (by simp)⟩, fun _ _ hb => hb.chg c (by simp)⟩

/-- A store into the key index itself. -/
theorem Tr.setIdx (T : Tr B w nd root H) {bx : Nat} {L : List Value} (hx : Blk w bx 55 L) (k : Nat) (v : Value) : Tr B (w.setCell ⟨bx, k, none⟩ v) nd root H := by
  have G := T.gr
  refine ⟨⟨fun b i h => ⟨(G.loc b i h).blk.setOther ((G.loc b i h).blk.ne hx) _, (G.loc b i h).key.setOther ((G.loc b i h).key.ne hx) _, ?_, (G.loc b i h).hi, (G.loc b i h).leaf, (G.loc b i h).inner⟩, G.gI, G.dI, G.kI, G.kN⟩, T.lo, ?_, T.rt, T.mx, T.mn⟩
  · rcases (G.loc b i h).kid with hk | ⟨d, e, ho⟩
    · exact Or.inl hk
    · exact Or.inr ⟨d, e, ho.setOther (ho.ne hx) _⟩
  · have := T.sz
    simpa [World.setCell] using this

/-- A step at the node n by which its child j becomes fit to lose a key. -/
theorem Tr.step (T : Tr B w nd root H) {n L j : Nat} {ni ri : Nd} (hn : nd n = some ni) (hl : ni.lv = L + 1) (hri : nd root = some ri) {O N : List (Nat × Nd)} {S : List Nat} (C : Cut w w' nd O N S) (D : Ch O N n ni L j) (h32 : n ≠ root → 32 ≤ ni.ks.length) :
    ∃ nd' ni' c ci ri', Tr B w' nd' root H ∧ nd' n = some ni' ∧ ni'.lv = L + 1 ∧ ni'.kids[j]? = some c ∧ nd' c = some ci ∧ ci.lv = L ∧ 32 ≤ ci.ks.length ∧ c ≠ root ∧ nd' root = some ri' ∧ (if n = root then ri.ks.length ≤ ri'.ks.length + 1 else ri' = ri) := by
  obtain ⟨ni', c', ci', m1, hl', hk', hj, m2, hcl, h32'⟩ := D.at_
  have hn' : upd nd (O.map (·.1)) N n = some ni' := upd_new C.hNk m1
  have hc' : upd nd (O.map (·.1)) N c' = some ci' := upd_new C.hNk m2
  have hLH : L < H := by have := T.lv_le hn; omega
  have hroot : n ≠ root → root ∉ O.map (·.1) := fun hne hm => by
    obtain ⟨q, hq, e⟩ := List.mem_map.1 hm
    rcases D.low q hq with h | h
    · exact hne (h.symm.trans e)
    · exact T.ne_root (C.hO q hq) (by omega) e
  have T' : Tr B w' (upd nd (O.map (·.1)) N) root H := by
    refine T.cut C (fun p hp hne => ⟨?_, ?_⟩) ?_
    · obtain ⟨q, hq, e1, e2⟩ := D.lev p hp
      have := T.mx q.1 q.2 (C.hO q hq) (by rw [e1]; exact hne)
      omega
    · by_cases hpn : p.1 = n
      · have h1 : upd nd (O.map (·.1)) N p.1 = some p.2 := upd_new C.hNk hp
        rw [hpn, hn'] at h1
        obtain rfl : ni' = p.2 := by simpa using h1
        have := h32 (by rw [← hpn]; exact hne)
        omega
      · exact D.min p hp hpn
    · by_cases hnr : n = root
      · refine Or.inl ⟨_, m1, hnr, ?_⟩
        obtain ⟨i, hi, hil⟩ := T.rt
        rw [← hnr, hn] at hi
        cases hi
        simp only
        omega
      · exact Or.inr (hroot hnr)
  obtain ⟨ri', hri', _⟩ := T'.rt
  refine ⟨_, ni', c', ci', ri', T', hn', hl', hj, hc', hcl, h32', T'.ne_root hc' (by omega), hri', ?_⟩
  by_cases hnr : n = root
  · subst hnr
    rw [if_pos rfl]
    rw [hn'] at hri'
    rw [hn] at hri
    cases hri; cases hri'
    exact hk'
  · rw [if_neg hnr]
    have h1 : upd nd (O.map (·.1)) N root = nd root := upd_old (fun hm => ?_) (hroot hnr)
    · rw [h1, hri] at hri'
      simpa using hri'.symm
    · obtain ⟨p, hp, e⟩ := List.mem_map.1 hm
      obtain ⟨q, hq, e1, _⟩ := D.lev p hp
      exact hroot hnr (List.mem_map.2 ⟨q, hq, e1.trans e⟩)

/-- One node is given other keys. -/
theorem Tr.one (T : Tr B w nd root H) {n : Nat} {ni ni' : Nd} (hn : nd n = some ni) {S : List Nat} (C : Cut w w' nd [(n, ni)] [(n, ni')] S) (hl : ni'.lv = ni.lv) (h31 : n ≠ root → 31 ≤ ni'.ks.length) :
    ∃ nd', Tr B w' nd' root H ∧ nd' n = some ni' ∧ ∀ b, b ≠ n → nd' b = nd b := by
  refine ⟨_, T.cut C ?_ ?_, upd_new C.hNk (by simp), fun b hb => upd_old (by simpa using hb) (by simpa using hb)⟩
  · intro p hp hne
    obtain rfl : p = (n, ni') := by simpa using hp
    have := T.mx n ni hn hne
    exact ⟨by simp only; omega, h31 hne⟩
  · by_cases hnr : n = root
    · refine Or.inl ⟨(n, ni'), by simp, hnr, ?_⟩
      obtain ⟨i, hi, hil⟩ := T.rt
      rw [← hnr, hn] at hi
      cases hi
      simp only
      omega
    · exact Or.inr (by simpa using fun h => hnr h.symm)

/-- The root gives way to its only child. -/
theorem Tr.shrink (T : Tr B w nd root (H + 1)) {ri ci : Nd} {c : Nat} (hr : nd root = some ri) (hk : ri.kids = [c]) (hc : nd c = some ci) : ∃ nd', Tr B w nd' c H ∧ nd' c = some ci := by
  have G := T.gr
  have hrl : ri.lv = H + 1 := by
    obtain ⟨j, hj, hl⟩ := T.rt
    rw [hr] at hj; cases hj; exact hl
  have hcl : ci.lv = H := by
    obtain ⟨_, e, h, _⟩ := G.kid hr hrl (c := c) (by rw [hk]; simp)
    rw [hc] at e; cases e; exact h
  obtain ⟨nd', hnd'⟩ : ∃ nd' : Nat → Option Nd, ∀ b i, nd' b = some i ↔ nd b = some i ∧ (b = c ∨ i.lv < H) := by
    exact ⟨fun b => (nd b).filter (fun i => decide (b = c ∨ i.lv < H)), fun b i => by rw [Option.filter_eq_some_iff, decide_eq_true_eq]⟩
  have sub : ∀ b i, nd' b = some i → nd b = some i := fun b i h => ((hnd' b i).1 h).1
  have hc' : nd' c = some ci := (hnd' c ci).2 ⟨hc, Or.inl rfl⟩
  have lvle : ∀ b i, nd' b = some i → i.lv ≤ H := fun b i h => by
    obtain ⟨h1, h2⟩ := (hnd' b i).1 h
    rcases h2 with rfl | h2
    · rw [hc] at h1; cases h1; omega
    · omega
  refine ⟨nd', ⟨⟨fun b i h => ?_, fun b b' i i' h h' => G.gI b b' i i' (sub _ _ h) (sub _ _ h'), fun b b' i i' x h h' => G.dI b b' i i' x (sub _ _ h) (sub _ _ h'), fun b b' i i' x h h' => G.kI b b' i i' x (sub _ _ h) (sub _ _ h'), fun b i h => G.kN b i (sub _ _ h)⟩,
    fun b i h => T.lo b i (sub _ _ h), T.sz, ⟨ci, hc', hcl⟩, ?_, ?_⟩, hc'⟩
  · have lb := G.loc b i (sub _ _ h)
    refine ⟨lb.blk, lb.key, lb.kid, lb.hi, lb.leaf, fun L hL => ⟨(lb.inner L hL).1, (lb.inner L hL).2.1, fun x hx => ?_⟩⟩
    obtain ⟨j, hj, hjl⟩ := (lb.inner L hL).2.2 x hx
    have := lvle b i h
    exact ⟨j, (hnd' x j).2 ⟨hj, Or.inr (by omega)⟩, hjl⟩
  · intro b i h hne
    obtain ⟨_, h2⟩ := (hnd' b i).1 h
    rcases h2 with h2 | h2
    · exact absurd h2 hne
    · exact h2
  · intro b i h hne
    have := lvle b i h
    refine T.mn b i (sub _ _ h) (T.ne_root (sub _ _ h) (by omega))
end
end Go.Proofs.Qxb6601743a
