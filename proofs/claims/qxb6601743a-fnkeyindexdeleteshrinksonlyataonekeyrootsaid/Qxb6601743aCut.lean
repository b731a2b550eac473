import Derived.Test.Qxb6601743aGr
namespace Go.Proofs.Qxb6601743a
open Go.RowKit

/-- All that is asked of a step that turns the nodes O into the nodes N. -/
structure Cut (w w' : World) (nd : Nat → Option Nd) (O N : List (Nat × Nd)) (S : List Nat) : Prop where
  hc : Chg S w w'
  hO : ∀ p ∈ O, nd p.1 = some p.2
  hS : ∀ s ∈ S, s ∈ O.map (·.1) ∨ s ∈ O.map (·.2.g) ∨ s ∈ O.flatMap (·.2.d)
  hNk : (N.map (·.1)).Nodup
  hN1 : ∀ p ∈ N, p.1 ∈ O.map (·.1) ∨ w.heap.size ≤ p.1
  hloc : ∀ p ∈ N, Loc w' (upd nd (O.map (·.1)) N) p.1 p.2
  hg : (N.map (·.2.g)).Nodup
  hg' : ∀ p ∈ N, p.2.g ∈ O.map (·.2.g) ∨ w.heap.size ≤ p.2.g
  hd : (N.flatMap (·.2.d)).Nodup
  hd' : ∀ p ∈ N, ∀ x ∈ p.2.d, x ∈ O.flatMap (·.2.d) ∨ w.heap.size ≤ x
  hk : (N.flatMap (·.2.kids)).Nodup
  hk' : ∀ p ∈ N, ∀ x ∈ p.2.kids, x ∈ O.flatMap (·.2.kids) ∨ w.heap.size ≤ x ∨ ∀ b i, nd b = some i → x ∉ i.kids
  hL : ∀ p ∈ O, (∃ q ∈ N, q.1 = p.1 ∧ q.2.lv = p.2.lv) ∨ (p.1 ∈ O.flatMap (·.2.kids)) ∨ ∀ b i, nd b = some i → p.1 ∉ i.kids

theorem Cut.gr {w w' : World} {nd : Nat → Option Nd} {O N : List (Nat × Nd)} {S : List Nat} (C : Cut w w' nd O N S) (G : Gr w nd) : Gr w' (upd nd (O.map (·.1)) N) :=
  G.update O N C.hc C.hO C.hS C.hNk C.hN1 C.hloc C.hg C.hg' C.hd C.hd' C.hk C.hk' C.hL

/-- All blocks of the graph lie behind B. -/
def Lo (B : Nat) (nd : Nat → Option Nd) : Prop := ∀ b i, nd b = some i → B ≤ b ∧ B ≤ i.g ∧ ∀ x ∈ i.d, B ≤ x

theorem Cut.lo {w w' : World} {nd : Nat → Option Nd} {O N : List (Nat × Nd)} {S : List Nat} (C : Cut w w' nd O N S) {B : Nat} (h : Lo B nd) (hB : B ≤ w.heap.size) : Lo B (upd nd (O.map (·.1)) N) := by
  intro b i hb
  rcases upd_cases hb with hb | ⟨hb, _, _⟩
  · refine ⟨?_, ?_, fun x hx => ?_⟩
    · rcases C.hN1 _ hb with h1 | h1
      · obtain ⟨p, hp, e⟩ := List.mem_map.1 h1
        have := (h _ _ (C.hO p hp)).1
        simp at e h1; omega
      · simp at h1; omega
    · rcases C.hg' _ hb with h1 | h1
      · obtain ⟨p, hp, e⟩ := List.mem_map.1 h1
        have := (h _ _ (C.hO p hp)).2.1
        simp at e; omega
      · simp at h1; omega
    · rcases C.hd' _ hb x hx with h1 | h1
      · obtain ⟨p, hp, e⟩ := List.mem_flatMap.1 h1
        exact (h _ _ (C.hO p hp)).2.2 x e
      · omega
  · exact h b i hb

/-- Below B nothing changes, nor does a block of a key index. -/
structure Kept (B : Nat) (w w' : World) : Prop where
  bel : Below B w w'
  idx : ∀ b L, Blk w b 55 L → Blk w' b 55 L

theorem Kept.refl (B : Nat) (w : World) : Kept B w w := ⟨Below.refl _ _, fun _ _ h => h⟩
theorem Kept.trans {B : Nat} {a b c : World} (h : Kept B a b) (k : Kept B b c) : Kept B a c := ⟨h.bel.trans k.bel, fun x L hx => k.idx x L (h.idx x L hx)⟩

theorem Cut.kept {w w' : World} {nd : Nat → Option Nd} {O N : List (Nat × Nd)} {S : List Nat} (C : Cut w w' nd O N S) (G : Gr w nd) {B : Nat} (h : Lo B nd) (hB : B ≤ w.heap.size) : Kept B w w' := by
  refine ⟨⟨C.hc.os, C.hc.tape, C.hc.output, C.hc.size, fun k hk => C.hc.block k (by omega) (fun hs => ?_)⟩, fun b L hb => hb.chg C.hc (fun hs => ?_)⟩
  · rcases C.hS _ hs with h1 | h1 | h1
    · obtain ⟨p, hp, e⟩ := List.mem_map.1 h1
      have := (h _ _ (C.hO p hp)).1
      omega
    · obtain ⟨p, hp, e⟩ := List.mem_map.1 h1
      have := (h _ _ (C.hO p hp)).2.1
      omega
    · obtain ⟨p, hp, e⟩ := List.mem_flatMap.1 h1
      have := (h _ _ (C.hO p hp)).2.2 _ e
      omega
  · rcases C.hS _ hs with h1 | h1 | h1
    · obtain ⟨p, hp, e⟩ := List.mem_map.1 h1
      exact (G.loc _ _ (C.hO p hp)).blk.ne hb (by decide) e
    · obtain ⟨p, hp, e⟩ := List.mem_map.1 h1
      exact (G.loc _ _ (C.hO p hp)).key.ne hb (by decide) e
    · obtain ⟨p, hp, e⟩ := List.mem_flatMap.1 h1
      exact ((G.loc _ _ (C.hO p hp)).kid.own e).1.ne hb (by decide) rfl

theorem at_keep {w : World} {nd : Nat → Option Nd} (G : Gr w nd) {O N : List (Nat × Nd)} (hO : ∀ p ∈ O, nd p.1 = some p.2) (hNk : (N.map (·.1)).Nodup) (hN1 : ∀ p ∈ N, p.1 ∈ O.map (·.1) ∨ w.heap.size ≤ p.1) {L c : Nat} (h : At nd L c)
    (hr : ∀ p ∈ O, p.1 = c → ∃ q ∈ N, q.1 = p.1 ∧ q.2.lv = p.2.lv) : At (upd nd (O.map (·.1)) N) L c := by
  obtain ⟨j, hj, hjl⟩ := h
  by_cases hco : c ∈ O.map (·.1)
  · obtain ⟨p, hp, rfl⟩ := List.mem_map.1 hco
    have hpj : p.2 = j := by have := hO p hp; rw [hj] at this; simpa using this.symm
    obtain ⟨q, hq, e1, e2⟩ := hr p hp rfl
    refine ⟨q.2, ?_, by rw [e2, hpj, hjl]⟩
    rw [← e1]
    exact upd_new hNk hq
  · refine ⟨j, ?_, hjl⟩
    rw [upd_old ?_ hco, hj]
    intro hcn
    obtain ⟨q, hq, rfl⟩ := List.mem_map.1 hcn
    rcases hN1 q hq with h | h
    · exact hco h
    · have := (G.lt hj).1
      omega

section
variable {w w' : World} {nd : Nat → Option Nd}

theorem Gr.ne_g (G : Gr w nd) {b c : Nat} {bi ci : Nd} (hb : nd b = some bi) (hc : nd c = some ci) (hne : b ≠ c) : bi.g ≠ ci.g := fun e => hne (G.gI _ _ _ _ hb hc e)
theorem Gr.ne_d (G : Gr w nd) {b c : Nat} {bi ci : Nd} (hb : nd b = some bi) (hc : nd c = some ci) (hne : b ≠ c) : ∀ x ∈ bi.d, x ∉ ci.d := fun _ h1 h2 => hne (G.dI _ _ _ _ _ hb hc h1 h2)
theorem Gr.ne_k (G : Gr w nd) {b c : Nat} {bi ci : Nd} (hb : nd b = some bi) (hc : nd c = some ci) (hne : b ≠ c) : ∀ x ∈ bi.kids, x ∉ ci.kids := fun _ h1 h2 => hne (G.kI _ _ _ _ _ hb hc h1 h2)
theorem Gr.kid (G : Gr w nd) {b c : Nat} {bi : Nd} {L : Nat} (hb : nd b = some bi) (hl : bi.lv = L + 1) (hc : c ∈ bi.kids) : ∃ ci, nd c = some ci ∧ ci.lv = L ∧ b ≠ c := by
  obtain ⟨ci, hci, hcl⟩ := ((G.loc b bi hb).inner L hl).2.2 c hc
  refine ⟨ci, hci, hcl, fun e => ?_⟩
  subst e
  rw [hb] at hci
  cases hci
  omega
theorem Gr.d_nil (G : Gr w nd) {b : Nat} {bi : Nd} (hb : nd b = some bi) : bi.d = [] ↔ bi.lv = 0 := by
  constructor
  · intro h
    cases hl : bi.lv with
    | zero => rfl
    | succ L => exact absurd h ((G.loc b bi hb).inner L hl).1
  · exact (G.loc b bi hb).leaf
theorem Gr.kids_nil (G : Gr w nd) {b : Nat} {bi : Nd} (hb : nd b = some bi) (hl : bi.lv = 0) : bi.kids = [] := by
  have hk := (G.loc b bi hb).kid
  rw [(G.d_nil hb).2 hl] at hk
  rcases hk with ⟨_, _, h⟩ | ⟨_, h, _⟩
  · exact List.map_eq_nil_iff.1 h
  · cases h
theorem Gr.kids_len (G : Gr w nd) {b : Nat} {bi : Nd} (hb : nd b = some bi) (hl : bi.lv ≠ 0) : bi.kids.length = bi.ks.length + 1 := by
  cases hl' : bi.lv with
  | zero => exact absurd hl' hl
  | succ L => exact ((G.loc b bi hb).inner L hl').2.1

/-- One node is given other keys. -/
theorem cut_one (G : Gr w nd) {n : Nat} {ni : Nd} (hn : nd n = some ni) {kv : Value} {g : Nat} {ks : List ByteArray} {S : List Nat} (hc : Chg S w w') (hS : ∀ s ∈ S, s = n ∨ s = ni.g)
    (hN : Blk w' n 59 [kv, ni.cv]) (hk : Own w' 9 kv g (ks.map Value.string)) (hg : g = ni.g ∨ w.heap.size ≤ g) (h63 : ks.length ≤ 63) (hlen : ni.lv = 0 ∨ ks.length = ni.ks.length) :
    Cut w w' nd [(n, ni)] [(n, { ni with kv := kv, g := g, ks := ks })] S := by
  have ln := G.loc n ni hn
  have hfar : ∀ x ∈ ni.d, x ∉ S := fun x hx hs => by
    rcases hS x hs with h | h
    · exact (ln.kid.own hx).1.ne ln.blk (by decide) h
    · exact (ln.kid.own hx).1.ne2 ln.key (by decide) h
  have hN1 : ∀ p ∈ [(n, { ni with kv := kv, g := g, ks := ks })], p.1 ∈ [(n, ni)].map (·.1) ∨ w.heap.size ≤ p.1 := by simp
  refine ⟨hc, by simpa using hn, fun s hs => ?_, by simp, hN1, ?_, by simp, by simpa using hg, by simpa using ln.kid.nodup, by simp; intro x hx; exact Or.inl hx, by simpa using G.kN n ni hn, by simp; intro x hx; exact Or.inl hx, by simp⟩
  · rcases hS s hs with h | h <;> simp [h]
  · simp only [List.mem_singleton, forall_eq]
    refine ⟨hN, hk, ln.kid.chg hc hfar, h63, ln.leaf, fun L hl => ?_⟩
    obtain ⟨h1, h2, h3⟩ := ln.inner L hl
    refine ⟨h1, ?_, fun c hcc => at_keep G (by simpa using hn) (by simp) hN1 (h3 c hcc) (by simp)⟩
    rcases hlen with h | h
    · simp at hl; omega
    · show ni.kids.length = ks.length + 1
      omega
end
end Go.Proofs.Qxb6601743a
