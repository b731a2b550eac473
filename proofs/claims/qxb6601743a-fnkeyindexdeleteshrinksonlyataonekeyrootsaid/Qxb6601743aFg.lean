import Derived.Test.Qxb6601743aCut2
import Derived.Test.Qxb6601743aFil4
namespace Go.Proofs.Qxb6601743a
open Go.RowKit

/-- What a step at the node n leaves: no new node, the levels as they were, every other node with enough keys; n has lost a key at most; its child j may lose one. -/
structure Ch (O N : List (Nat × Nd)) (n : Nat) (ni : Nd) (L j : Nat) : Prop where
  lev : ∀ p ∈ N, ∃ q ∈ O, q.1 = p.1 ∧ q.2.lv = p.2.lv
  low : ∀ q ∈ O, q.1 = n ∨ q.2.lv = L
  min : ∀ p ∈ N, p.1 ≠ n → 31 ≤ p.2.ks.length
  at_ : ∃ ni' c' ci', (n, ni') ∈ N ∧ ni'.lv = L + 1 ∧ ni.ks.length ≤ ni'.ks.length + 1 ∧ ni'.kids[j]? = some c' ∧ (c', ci') ∈ N ∧ ci'.lv = L ∧ 32 ≤ ci'.ks.length

theorem ptrs (bs : List Nat) : ∀ u ∈ bs.map ptr, ∃ q, u = Value.pointer q := fun u hu => by
  obtain ⟨b, _, rfl⟩ := List.mem_map.1 hu
  exact ⟨_, rfl⟩

theorem map_at {bs : List Nat} {k b : Nat} (h : bs[k]? = some b) : (bs.map ptr)[k]? = some (ptr b) := by rw [List.getElem?_map, h]; rfl
theorem str_at {ks : List ByteArray} {k : Nat} {s : ByteArray} (h : ks[k]? = some s) : (ks.map Value.string)[k]? = some (.string s) := by rw [List.getElem?_map, h]; rfl

theorem snoc_of {ks : List ByteArray} (h : 0 < ks.length) : ∃ k0 y, ks = k0 ++ [y] := ⟨ks.dropLast, ks.getLast (List.ne_nil_of_length_pos h), (List.dropLast_concat_getLast _).symm⟩

section
variable {w : World} {nd : Nat → Option Nd}

theorem Gr.kids64 (G : Gr w nd) {b : Nat} {bi : Nd} (hb : nd b = some bi) : bi.kids.length ≤ 64 := by
  by_cases h : bi.lv = 0
  · rw [G.kids_nil hb h]; simp
  · rw [G.kids_len hb h]; have := (G.loc _ _ hb).hi; omega

/-- From the left sibling. -/
theorem fill_gr_left (G : Gr w nd) {n L i c l : Nat} {ni ci li : Nd} (hn : nd n = some ni) (hl : ni.lv = L + 1) (hc0 : ni.kids[i]? = some c) (hl0 : ni.kids[i - 1]? = some l) (hi0 : 0 < i) (hci : nd c = some ci) (hli : nd l = some li)
    (hc31 : ci.ks.length = 31) (hl31 : 31 < li.ks.length) :
    Calls Try.prog 42 #[ptr n, .int .i64 i] w fun e w' => ∃ j : Nat, e = .returned (.int .i64 j) ∧ ∃ O N S, Cut w w' nd O N S ∧ Ch O N n ni L j := by
  have ln := G.loc n ni hn
  have lc := G.loc c ci hci
  have ll := G.loc l li hli
  have hcm := List.mem_of_getElem? hc0
  have hlm := List.mem_of_getElem? hl0
  obtain ⟨_, e, hcL, hnc⟩ := G.kid hn hl hcm
  rw [hci] at e; cases e
  obtain ⟨_, e, hlL, hnl⟩ := G.kid hn hl hlm
  rw [hli] at e; cases e
  have hcl : c ≠ l := fun e => by
    subst e
    have := inj_of (G.kN _ _ hn) hc0 hl0
    omega
  obtain ⟨hdn, hkl, _⟩ := ln.inner L hl
  obtain ⟨cn, hcn, hnc2⟩ := ln.kid.one hdn
  have hik := (List.getElem?_eq_some_iff.1 hc0).1
  obtain ⟨k0, y, hy⟩ := snoc_of (ks := li.ks) (by omega)
  obtain ⟨x, hx⟩ : ∃ x, ni.ks[i - 1]? = some x := ⟨ni.ks[i - 1]'(by omega), by simp⟩
  have hk0 : li.ks.length = k0.length + 1 := by rw [hy]; simp
  have hnh := ln.hi
  have hch := lc.hi
  have hlh := ll.hi
  have hlk := ll.key
  rw [hy, List.map_append] at hlk
  have hlk63 := G.kids64 hli
  have hck63 := G.kids64 hci
  refine (fill_left w n ni.g cn c ci.g l li.g i ci.d li.d ni.kv ni.cv ci.kv ci.cv li.kv li.cv x y (ni.ks.map Value.string) (ni.kids.map ptr) (ci.ks.map Value.string) (k0.map Value.string) (ci.kids.map ptr) (li.kids.map ptr)
    ln.blk ln.key hnc2 lc.blk lc.key ll.blk hlk lc.kid ll.kid (by rw [G.d_nil hci, G.d_nil hli, hcL, hlL]) hi0 (map_at hc0) (map_at hl0) (str_at hx) (by simp; omega) hnc hnl hcl (G.ne_g hn hci hnc) (G.ne_g hn hli hnl) (G.ne_g hci hli hcl)
    (G.ne_d hli hci hcl.symm) (str_one _) (str_one _) (ptrs _) (ptrs _) (fun h => by
      have : li.lv ≠ 0 := fun h0 => h ((G.d_nil hli).2 h0)
      rw [List.length_map, G.kids_len hli this]; omega) (by simp; omega) (by simp; omega) (by simp; omega) (by simp; omega) (by simp; omega) (by simp; omega)).mono ?_
  rintro e w' ⟨rfl, ckv', ccv', kc', dcs', lkv', lcv', hN', hnk', hC', hck', hcc', hL', hlk', hlc', hg', hd', hdi', hch'⟩
  refine ⟨i, rfl, _, _, _, cut_three G hn hl hcm hlm hcl hci hli hch' (fun x hx => hx) (nk := ni.ks.set (i - 1) y) (ck := x :: ci.ks) (sk := k0) (ckids := li.kids.drop (li.kids.length - 1) ++ ci.kids) (skids := li.kids.take (li.kids.length - 1))
    hN' (by rw [List.map_set]; exact hnk') (by simp) hC' hck' (by simpa [List.map_drop] using hcc') hL' hlk' (by simpa [List.map_take] using hlc') hg' hd' hdi' (by simp; omega) (by omega) ?_ ?_ ?_, ?_⟩
  · have h1 : (li.kids.drop (li.kids.length - 1) ++ ci.kids).Perm (ci.kids ++ li.kids.drop (li.kids.length - 1)) := List.perm_append_comm
    refine (h1.append_right _).trans ?_
    rw [List.append_assoc]
    refine List.Perm.append_left _ ?_
    refine List.perm_append_comm.trans ?_
    rw [List.take_append_drop]
  · intro h
    have h1 := G.kids_len hci h
    have h2 := G.kids_len hli (by omega)
    simp; omega
  · intro h
    have h2 := G.kids_len hli h
    simp; omega
  · refine ⟨by simp, by simp [hcL, hlL], ?_, { ni with ks := ni.ks.set (i - 1) y }, c, { ci with kv := ckv', cv := ccv', g := kc', d := dcs', ks := x :: ci.ks, kids := li.kids.drop (li.kids.length - 1) ++ ci.kids }, by simp, hl, by simp, hc0, by simp, hcL, by simp; omega⟩
    intro p hp hne
    simp at hp
    rcases hp with rfl | rfl | rfl
    · exact absurd rfl hne
    · simp; omega
    · simp only; omega

/-- What the right sibling's gift leaves. -/
theorem fill_gr_right (G : Gr w nd) {n L i c r : Nat} {ni ci ri : Nd} (hn : nd n = some ni) (hl : ni.lv = L + 1) (hc0 : ni.kids[i]? = some c) (hr0 : ni.kids[i + 1]? = some r) (hci : nd c = some ci) (hri : nd r = some ri)
    (hc31 : ci.ks.length = 31) (hr31 : 31 < ri.ks.length) (hleft : i = 0 ∨ (0 < i ∧ ∃ l li, ni.kids[i - 1]? = some l ∧ nd l = some li ∧ li.ks.length ≤ 31)) :
    Calls Try.prog 42 #[ptr n, .int .i64 i] w fun e w' => ∃ j : Nat, e = .returned (.int .i64 j) ∧ ∃ O N S, Cut w w' nd O N S ∧ Ch O N n ni L j := by
  have ln := G.loc n ni hn
  have lc := G.loc c ci hci
  have lr := G.loc r ri hri
  have hcm := List.mem_of_getElem? hc0
  have hrm := List.mem_of_getElem? hr0
  obtain ⟨_, e, hcL, hnc⟩ := G.kid hn hl hcm
  rw [hci] at e; cases e
  obtain ⟨_, e, hrL, hnr⟩ := G.kid hn hl hrm
  rw [hri] at e; cases e
  have hcr : c ≠ r := fun e => by
    subst e
    have := inj_of (G.kN _ _ hn) hc0 hr0
    omega
  obtain ⟨hdn, hkl, _⟩ := ln.inner L hl
  obtain ⟨cn, hcn, hnc2⟩ := ln.kid.one hdn
  have hik := (List.getElem?_eq_some_iff.1 hr0).1
  obtain ⟨y, k0, hy⟩ : ∃ y k0, ri.ks = y :: k0 := List.exists_cons_of_length_pos (by omega)
  obtain ⟨x, hx⟩ : ∃ x, ni.ks[i]? = some x := ⟨ni.ks[i]'(by omega), by simp⟩
  have hk0 : ri.ks.length = k0.length + 1 := by rw [hy]; simp
  have hnh := ln.hi
  have hch := lc.hi
  have hrh := lr.hi
  have hrk := lr.key
  rw [hy, List.map_cons] at hrk
  have hrk63 := G.kids64 hri
  have hck63 := G.kids64 hci
  have hrne : ri.d ≠ [] → 0 < (ri.kids.map ptr).length := fun h => by
    have : ri.lv ≠ 0 := fun h0 => h ((G.d_nil hri).2 h0)
    rw [List.length_map, G.kids_len hri this]; omega
  have fin : ∀ (e : Ending) (w' : World), (e = .returned (.int .i64 i) ∧ ∃ ckv' ccv' kc' dcs' rkv' rcv', Blk w' n 59 [ni.kv, ni.cv] ∧ Own w' 9 ni.kv ni.g ((ni.ks.map Value.string).set i (.string y)) ∧
      Blk w' c 59 [ckv', ccv'] ∧ Own w' 9 ckv' kc' (ci.ks.map Value.string ++ [.string x]) ∧ Kids w' ccv' dcs' (ci.kids.map ptr ++ (ri.kids.map ptr).take 1) ∧ Blk w' r 59 [rkv', rcv'] ∧ Own w' 9 rkv' ri.g (k0.map Value.string) ∧ Kids w' rcv' ri.d ((ri.kids.map ptr).drop 1) ∧
      (kc' = ci.g ∨ w.heap.size ≤ kc') ∧ (∀ d ∈ dcs', d ∈ ci.d ∨ w.heap.size ≤ d) ∧ (dcs' = [] ↔ ci.d = []) ∧ Chg ([c, ci.g, ni.g, r, ri.g] ++ ci.d ++ ri.d) w w') →
      ∃ j : Nat, e = .returned (.int .i64 j) ∧ ∃ O N S, Cut w w' nd O N S ∧ Ch O N n ni L j := by
    rintro e w' ⟨rfl, ckv', ccv', kc', dcs', rkv', rcv', hN', hnk', hC', hck', hcc', hR', hrk', hrc', hg', hd', hdi', hch'⟩
    refine ⟨i, rfl, _, _, _, cut_three G hn hl hcm hrm hcr hci hri hch' (fun x hx => hx) (nk := ni.ks.set i y) (ck := ci.ks ++ [x]) (sk := k0) (ckids := ci.kids ++ ri.kids.take 1) (skids := ri.kids.drop 1)
      hN' (by rw [List.map_set]; exact hnk') (by simp) hC' (by simpa using hck') (by simpa [List.map_take] using hcc') hR' hrk' (by simpa [List.map_drop] using hrc') hg' hd' hdi' (by simp; omega) (by omega) ?_ ?_ ?_, ?_⟩
    · rw [List.append_assoc, List.take_append_drop]
    · intro h
      have h1 := G.kids_len hci h
      have h2 := G.kids_len hri (by omega)
      simp; omega
    · intro h
      have h2 := G.kids_len hri h
      simp; omega
    · refine ⟨by simp, by simp [hcL, hrL], ?_, { ni with ks := ni.ks.set i y }, c, { ci with kv := ckv', cv := ccv', g := kc', d := dcs', ks := ci.ks ++ [x], kids := ci.kids ++ ri.kids.take 1 }, by simp, hl, by simp, hc0, by simp, hcL, by simp; omega⟩
      intro p hp hne
      simp at hp
      rcases hp with rfl | rfl | rfl
      · exact absurd rfl hne
      · simp; omega
      · simp only; omega
  rcases hleft with h0 | ⟨h0, l, li, hl0, hli, hl31⟩
  · exact (fill_right0 w n ni.g cn c ci.g r ri.g i ci.d ri.d ni.kv ni.cv ci.kv ci.cv ri.kv ri.cv x y (ni.ks.map Value.string) (ni.kids.map ptr) (ci.ks.map Value.string) (k0.map Value.string) (ci.kids.map ptr) (ri.kids.map ptr)
      ln.blk ln.key hnc2 lc.blk lc.key lr.blk hrk lc.kid lr.kid (by rw [G.d_nil hci, G.d_nil hri, hcL, hrL]) h0 (map_at hc0) (map_at hr0) (str_at hx) (by simp; omega) hnc hnr hcr (G.ne_g hn hci hnc) (G.ne_g hn hri hnr) (G.ne_g hci hri hcr)
      (G.ne_d hri hci hcr.symm) (str_one _) (ptrs _) hrne (by simp; omega) (by simp; omega) (by simp; omega) (by simp; omega) (by simp; omega)).mono fin
  · obtain ⟨lkc, hlv⟩ := (G.loc l li hli).key.form
    have hlb := (G.loc l li hli).blk
    rw [hlv] at hlb
    exact (fill_right1 w n ni.g cn c ci.g r ri.g i ci.d ri.d ni.kv ni.cv ci.kv ci.cv ri.kv ri.cv x y (ni.ks.map Value.string) (ni.kids.map ptr) (ci.ks.map Value.string) (k0.map Value.string) (ci.kids.map ptr) (ri.kids.map ptr)
      ln.blk ln.key hnc2 lc.blk lc.key lr.blk hrk lc.kid lr.kid (by rw [G.d_nil hci, G.d_nil hri, hcL, hrL]) h0 l _ _ _ _ hlb (map_at hl0) (by simpa using hl31) (map_at hc0) (map_at hr0) (str_at hx) (by simp; omega) hnc hnr hcr (G.ne_g hn hci hnc) (G.ne_g hn hri hnr) (G.ne_g hci hri hcr)
      (G.ne_d hri hci hcr.symm) (str_one _) (ptrs _) hrne (by simp; omega) (by simp; omega) (by simp; omega) (by simp; omega) (by simp; omega)).mono fin

/-- What a merge of the children i and i + 1 leaves. -/
theorem merge_fin (G : Gr w nd) {n L i c r : Nat} {ni ci ri : Nd} (hn : nd n = some ni) (hl : ni.lv = L + 1) (hc0 : ni.kids[i]? = some c) (hr0 : ni.kids[i + 1]? = some r) (hci : nd c = some ci) (hri : nd r = some ri)
    (hc31 : ci.ks.length = 31) (hr31 : ri.ks.length = 31) {cn : Nat} (hcn : ni.d = [cn]) {x : ByteArray} {w' : World}
    (h : ∃ nkv' ncv' ckv' ccv' kc' dcs', Blk w' n 59 [nkv', ncv'] ∧ Own w' 9 nkv' ni.g ((ni.ks.map Value.string).take i ++ (ni.ks.map Value.string).drop (i + 1)) ∧ Own w' 34 ncv' cn ((ni.kids.map ptr).take (i + 1) ++ (ni.kids.map ptr).drop (i + 2)) ∧
      Blk w' c 59 [ckv', ccv'] ∧ Own w' 9 ckv' kc' (ci.ks.map Value.string ++ [.string x] ++ ri.ks.map Value.string) ∧ Kids w' ccv' dcs' (ci.kids.map ptr ++ ri.kids.map ptr) ∧
      (kc' = ci.g ∨ w.heap.size ≤ kc') ∧ (∀ d ∈ dcs', d ∈ ci.d ∨ w.heap.size ≤ d) ∧ (dcs' = [] ↔ ci.d = []) ∧ Chg ([n, ni.g, cn, c, ci.g] ++ ci.d) w w') : ∃ O N S, Cut w w' nd O N S ∧ Ch O N n ni L i := by
  obtain ⟨nkv', ncv', ckv', ccv', kc', dcs', hN', hnk', hnc', hC', hck', hcc', hg', hd', hdi', hch'⟩ := h
  obtain ⟨hdn, hkl, _⟩ := (G.loc n ni hn).inner L hl
  have hik := (List.getElem?_eq_some_iff.1 hr0).1
  obtain ⟨_, e, hcL, hnc⟩ := G.kid hn hl (List.mem_of_getElem? hc0)
  rw [hci] at e; cases e
  obtain ⟨_, e, hrL, hnr⟩ := G.kid hn hl (List.mem_of_getElem? hr0)
  rw [hri] at e; cases e
  refine ⟨_, _, _, cut_merge G hn hl hc0 hr0 hci hri hch' (fun x hx => by rw [hcn]; simpa [or_assoc] using hx) (nk := ni.ks.take i ++ ni.ks.drop (i + 1)) (ck := ci.ks ++ [x] ++ ri.ks) hN' (by simpa [List.map_take, List.map_drop] using hnk') (Or.inr ⟨cn, hcn, by simpa [List.map_take, List.map_drop] using hnc'⟩) (by simp; omega) hC'
    (by simpa using hck') (by simpa using hcc') hg' hd' hdi' (by simp; omega) (by simp; omega), ?_⟩
  refine ⟨by simp, by simp [hcL, hrL], ?_, { ni with kv := nkv', cv := ncv', ks := ni.ks.take i ++ ni.ks.drop (i + 1), kids := ni.kids.take (i + 1) ++ ni.kids.drop (i + 2) }, c, { ci with kv := ckv', cv := ccv', g := kc', d := dcs', ks := ci.ks ++ [x] ++ ri.ks, kids := ci.kids ++ ri.kids }, by simp, hl, by simp; omega, ?_, by simp, hcL, by simp; omega⟩
  · intro p hp hne
    simp at hp
    rcases hp with rfl | rfl
    · exact absurd rfl hne
    · simp; omega
  · show (ni.kids.take (i + 1) ++ ni.kids.drop (i + 2))[i]? = some c
    rw [List.getElem?_append_left (by rw [List.length_take]; omega), List.getElem?_take, if_pos (by omega)]
    exact hc0
end
end Go.Proofs.Qxb6601743a
