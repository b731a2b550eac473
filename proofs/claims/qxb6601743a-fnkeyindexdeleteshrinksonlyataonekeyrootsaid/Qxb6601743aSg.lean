import Derived.Test.Qxb6601743aTre
import Derived.Test.Qxb6601743aSpl
namespace Go.Proofs.Qxb6601743a
open Go.RowKit

/-- What a split of n's child i leaves. -/
structure Sp (O N : List (Nat × Nd)) (n c i L : Nat) (ni : Nd) : Prop where
  old : ∀ q ∈ O, q.1 = n ∨ q.1 = c
  lev : ∀ p ∈ N, p.1 ≠ n → p.2.lv = L ∧ p.2.ks.length = 31
  at_ : ∃ ni' ci' r ri', (n, ni') ∈ N ∧ (c, ci') ∈ N ∧ (r, ri') ∈ N ∧ ni'.lv = L + 1 ∧ ni'.ks.length = ni.ks.length + 1 ∧ ni'.kids[i]? = some c ∧ ni'.kids[i + 1]? = some r ∧ c ≠ n ∧ r ≠ n

section
variable {w : World} {nd : Nat → Option Nd}

theorem split_gr (G : Gr w nd) {n L i c : Nat} {ni ci : Nd} (hn : nd n = some ni) (hl : ni.lv = L + 1) (hc0 : ni.kids[i]? = some c) (hci : nd c = some ci) (hc63 : ci.ks.length = 63) (hn62 : ni.ks.length ≤ 62) :
    Calls Try.prog 43 #[ptr n, .int .i64 i] w fun e w' => e = .returned (.tuple #[]) ∧ ∃ O N S, Cut w w' nd O N S ∧ Sp O N n c i L ni := by
  have ln := G.loc n ni hn
  have lc := G.loc c ci hci
  have hcm := List.mem_of_getElem? hc0
  obtain ⟨_, e, hcL, hnc⟩ := G.kid hn hl hcm
  rw [hci] at e; cases e
  obtain ⟨hdn, hkl, _⟩ := ln.inner L hl
  obtain ⟨cn, hcn, hnc2⟩ := ln.kid.one hdn
  have hik := (List.getElem?_eq_some_iff.1 hc0).1
  obtain ⟨x, hx⟩ : ∃ x, ci.ks[31]? = some x := ⟨ci.ks[31]'(by omega), by simp⟩
  have hsp : ci.ks = ci.ks.take 31 ++ x :: ci.ks.drop 32 := by
    obtain ⟨h31, rfl⟩ := List.getElem?_eq_some_iff.1 hx
    have := List.take_append_drop 31 ci.ks
    rw [List.drop_eq_getElem_cons h31] at this
    exact this.symm
  have hA : (ci.ks.take 31).length = 31 := by rw [List.length_take, hc63]; rfl
  have hB : (ci.ks.drop 32).length = 31 := by rw [List.length_drop, hc63]
  have hck := lc.key
  rw [hsp, List.map_append, List.map_cons] at hck
  refine (split_any w n ni.g cn c ci.g i ci.d ni.kv ni.cv ci.kv ci.cv x (ni.ks.map Value.string) (ni.kids.map ptr) ((ci.ks.take 31).map Value.string) ((ci.ks.drop 32).map Value.string) (ci.kids.map ptr)
    ln.blk ln.key hnc2 lc.blk hck lc.kid (by rw [List.length_map, hA]) (by rw [List.length_map, hB]) (fun h => ?_) (map_at hc0) (by simp; omega) hnc (G.ne_g hn hci hnc) (G.ne_d hn hci hnc cn (by rw [hcn]; simp)) (str_one _) (ptr_one _) (str_one _) (str_one _) (ptr_one _) (by simp; omega) (by simp; omega)).mono ?_
  · have : ci.lv ≠ 0 := fun h0 => h ((G.d_nil hci).2 h0)
    rw [List.length_map, G.kids_len hci this, hc63]
  rintro e w' ⟨rfl, nkv', ncv', kn', cn', ckv', ccv', br, kr, rkv, rcv, drs, hN', hnk', hnc', hC', hck', hcc', hR', hrk', hrc', hkn, hcn', hbr, hkr, hdr, hdi, hkrn, hcnd, hch⟩
  refine ⟨rfl, _, _, _, cut_split G hn hl hc0 hci hbr hch (fun x hx => by rw [hcn]; simpa [or_assoc] using hx) (nk := ni.ks.take i ++ x :: ni.ks.drop i) (ck := ci.ks.take 31) (rk := ci.ks.drop 32) (dn := [cn']) hN' (by simpa [List.map_take, List.map_drop] using hnk')
    (Or.inr ⟨cn', rfl, by simpa [List.map_take, List.map_drop] using hnc'⟩) (by simp; omega) (by simp; omega) hC' hck' (by simpa [List.map_take] using hcc') hR' hrk' (by simpa [List.map_drop] using hrc') hkn hkr hkrn
    (by rw [hcn]; simpa using hcn') (by simp) hdr hdi (by simpa using hcnd) hA hB hc63, ?_⟩
  have ltn := (G.lt hn).1
  have hrn : br ≠ n := by omega
  refine ⟨by simp, ?_, { ni with kv := nkv', cv := ncv', g := kn', d := [cn'], ks := ni.ks.take i ++ x :: ni.ks.drop i, kids := ni.kids.take (i + 1) ++ br :: ni.kids.drop (i + 1) }, { ci with kv := ckv', cv := ccv', ks := ci.ks.take 31, kids := ci.kids.take 32 }, br, { kv := rkv, cv := rcv, g := kr, d := drs, ks := ci.ks.drop 32, kids := ci.kids.drop 32, lv := ci.lv }, by simp, by simp, by simp, hl, by simp; omega, ?_, ?_, hnc.symm, hrn⟩
  · intro p hp hne
    simp at hp
    rcases hp with rfl | rfl | rfl
    · exact absurd rfl hne
    · exact ⟨hcL, hA⟩
    · exact ⟨hcL, hB⟩
  · show (ni.kids.take (i + 1) ++ br :: ni.kids.drop (i + 1))[i]? = some c
    rw [List.getElem?_append_left (by rw [List.length_take]; omega), List.getElem?_take, if_pos (by omega)]
    exact hc0
  · show (ni.kids.take (i + 1) ++ br :: ni.kids.drop (i + 1))[i + 1]? = some br
    have hlt : (ni.kids.take (i + 1)).length = i + 1 := by rw [List.length_take]; omega
    rw [List.getElem?_append_right (by omega), hlt, Nat.sub_self]
    rfl
end

section
variable {B : Nat} {w w' : World} {nd : Nat → Option Nd} {root H : Nat}

theorem Tr.split (T : Tr B w nd root H) {n L i c : Nat} {ni ri : Nd} (hn : nd n = some ni) (hl : ni.lv = L + 1) (hc0 : ni.kids[i]? = some c) (hri : nd root = some ri) {O N : List (Nat × Nd)} {S : List Nat} (C : Cut w w' nd O N S) (D : Sp O N n c i L ni) :
    ∃ nd' ni' ci' r' qi' ri', Tr B w' nd' root H ∧ nd' n = some ni' ∧ ni'.lv = L + 1 ∧ ni'.ks.length = ni.ks.length + 1 ∧ ni'.kids[i]? = some c ∧ nd' c = some ci' ∧ ci'.lv = L ∧ ci'.ks.length = 31 ∧ ni'.kids[i + 1]? = some r' ∧ nd' r' = some qi' ∧ qi'.lv = L ∧ qi'.ks.length = 31 ∧
      nd' root = some ri' ∧ ri.ks.length ≤ ri'.ks.length := by
  obtain ⟨ni', ci', r', qi', m1, m2, m3, hl', hk', hj1, hj2, hcn, hrn⟩ := D.at_
  have hn' : upd nd (O.map (·.1)) N n = some ni' := upd_new C.hNk m1
  have hLH : L < H := by have := T.lv_le hn; omega
  have hcr : c ≠ root := fun e => T.root_no n ni hn (e ▸ List.mem_of_getElem? hc0)
  have hroot : n ≠ root → root ∉ O.map (·.1) := fun hne hm => by
    obtain ⟨q, hq, e⟩ := List.mem_map.1 hm
    rcases D.old q hq with h | h
    · exact hne (h.symm.trans e)
    · exact hcr (h.symm.trans e)
  have T' : Tr B w' (upd nd (O.map (·.1)) N) root H := by
    refine T.cut C (fun p hp hne => ?_) ?_
    · by_cases hpn : p.1 = n
      · have h1 : upd nd (O.map (·.1)) N p.1 = some p.2 := upd_new C.hNk hp
        rw [hpn, hn'] at h1
        obtain rfl : ni' = p.2 := by simpa using h1
        have h2 := T.mx n ni hn (by rw [← hpn]; exact hne)
        have h3 := T.mn n ni hn (by rw [← hpn]; exact hne)
        exact ⟨by omega, by omega⟩
      · have := D.lev p hp hpn
        exact ⟨by omega, by omega⟩
    · by_cases hnr : n = root
      · refine Or.inl ⟨_, m1, hnr, ?_⟩
        obtain ⟨j, hj, hjl⟩ := T.rt
        rw [← hnr, hn] at hj
        cases hj
        simp only
        omega
      · exact Or.inr (hroot hnr)
  have l2 := D.lev _ m2 hcn
  have l3 := D.lev _ m3 hrn
  obtain ⟨ri', hri', _⟩ := T'.rt
  refine ⟨_, ni', ci', r', qi', ri', T', hn', hl', hk', hj1, upd_new C.hNk m2, l2.1, l2.2, hj2, upd_new C.hNk m3, l3.1, l3.2, hri', ?_⟩
  by_cases hnr : n = root
  · subst hnr
    rw [hn'] at hri'
    rw [hn] at hri
    cases hri; cases hri'
    omega
  · have h1 : upd nd (O.map (·.1)) N root = nd root := upd_old (fun hm => ?_) (hroot hnr)
    · rw [h1, hri] at hri'
      cases hri'
      exact Nat.le_refl _
    · obtain ⟨p, hp, e⟩ := List.mem_map.1 hm
      rcases C.hN1 p hp with h | h
      · exact hroot hnr (by rw [e] at h; exact h)
      · have := (T.gr.lt hri).1
        omega

/-- A new root over a root that has keys enough. -/
theorem Tr.grow (T : Tr B w nd root H) {ri : Nd} (hri : nd root = some ri) (h31 : 31 ≤ ri.ks.length) {n : Nat} {ni : Nd} (hn : w.heap.size ≤ n) (C : Cut w w' nd [] [(n, ni)] []) (hl : ni.lv = H + 1) : ∃ nd', Tr B w' nd' n (H + 1) ∧ nd' n = some ni ∧ nd' root = some ri := by
  have hne : root ≠ n := by have := (T.gr.lt hri).1; omega
  have hr' : upd nd (([] : List (Nat × Nd)).map (·.1)) [(n, ni)] root = some ri := by rw [upd_old (by simpa using hne) (by simp), hri]
  refine ⟨_, ⟨C.gr T.gr, C.lo T.lo T.sz, Nat.le_trans T.sz C.hc.size, ⟨ni, upd_new C.hNk (by simp), hl⟩, ?_, ?_⟩, upd_new C.hNk (by simp), hr'⟩
  · intro b i hb hbn
    rcases upd_cases hb with hb | ⟨hb, _, _⟩
    · obtain ⟨rfl, rfl⟩ : b = n ∧ i = ni := by simpa using hb
      exact absurd rfl hbn
    · have := T.lv_le hb
      omega
  · intro b i hb hbn
    rcases upd_cases hb with hb | ⟨hb, _, _⟩
    · obtain ⟨rfl, rfl⟩ : b = n ∧ i = ni := by simpa using hb
      exact absurd rfl hbn
    · by_cases hbr : b = root
      · subst hbr
        rw [hri] at hb
        cases hb
        exact h31
      · exact T.mn b i hb hbr

/-- The first root. -/
theorem Tr.first {n : Nat} {ni : Nd} (hsz : B ≤ w.heap.size) (C : Cut w w' (fun _ => none) [] [(n, ni)] []) (hl : ni.lv = 0) : ∃ nd', Tr B w' nd' n 0 ∧ nd' n = some ni := by
  have G : Gr w (fun _ => none) := ⟨by simp, by simp, by simp, by simp, by simp⟩
  have only : ∀ b i, upd (fun _ => none) (([] : List (Nat × Nd)).map (·.1)) [(n, ni)] b = some i → b = n := fun b i hb => by
    rcases upd_cases hb with hb | ⟨hb, _, _⟩
    · have : b = n ∧ i = ni := by simpa using hb
      exact this.1
    · cases hb
  exact ⟨_, ⟨C.gr G, C.lo (fun b i h => by cases h) hsz, Nat.le_trans hsz C.hc.size, ⟨ni, upd_new C.hNk (by simp), hl⟩, fun b i hb hne => absurd (only b i hb) hne, fun b i hb hne => absurd (only b i hb) hne⟩, upd_new C.hNk (by simp)⟩
end
end Go.Proofs.Qxb6601743a
