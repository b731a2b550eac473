import Derived.Test.Qxb6601743aCut
namespace Go.Proofs.Qxb6601743a
open Go.RowKit

section
variable {w w' : World} {nd : Nat → Option Nd}

/-- A key, and a child, pass from one child of n (s) to another (c). -/
theorem cut_three (G : Gr w nd) {n c s L : Nat} {ni ci si : Nd} (hn : nd n = some ni) (hl : ni.lv = L + 1) (hcm : c ∈ ni.kids) (hsm : s ∈ ni.kids) (hcs : c ≠ s) (hci : nd c = some ci) (hsi : nd s = some si)
    {S : List Nat} (hc : Chg S w w') (hS : ∀ x ∈ S, x ∈ [c, ci.g, ni.g, s, si.g] ++ ci.d ++ si.d) {nk ck sk : List ByteArray} {ckv ccv skv scv : Value} {gc : Nat} {dc : List Nat} {ckids skids : List Nat}
    (hN : Blk w' n 59 [ni.kv, ni.cv]) (hnk : Own w' 9 ni.kv ni.g (nk.map Value.string)) (hnl : nk.length = ni.ks.length)
    (hC : Blk w' c 59 [ckv, ccv]) (hck : Own w' 9 ckv gc (ck.map Value.string)) (hcc : Kids w' ccv dc (ckids.map ptr)) (hT : Blk w' s 59 [skv, scv]) (hsk : Own w' 9 skv si.g (sk.map Value.string)) (hsc : Kids w' scv si.d (skids.map ptr))
    (hgc : gc = ci.g ∨ w.heap.size ≤ gc) (hdc : ∀ d ∈ dc, d ∈ ci.d ∨ w.heap.size ≤ d) (hdi : dc = [] ↔ ci.d = []) (hck63 : ck.length ≤ 63) (hsk63 : sk.length ≤ 63)
    (hp : (ckids ++ skids).Perm (ci.kids ++ si.kids)) (hcl : ci.lv ≠ 0 → ckids.length = ck.length + 1) (hsl : si.lv ≠ 0 → skids.length = sk.length + 1) :
    Cut w w' nd [(n, ni), (c, ci), (s, si)] [(n, { ni with ks := nk }), (c, { ci with kv := ckv, cv := ccv, g := gc, d := dc, ks := ck, kids := ckids }), (s, { si with kv := skv, cv := scv, ks := sk, kids := skids })] S := by
  have ln := G.loc n ni hn
  have lc := G.loc c ci hci
  have ls := G.loc s si hsi
  obtain ⟨ci', e, hcL, hnc⟩ := G.kid hn hl hcm
  obtain rfl : ci' = ci := by rw [hci] at e; simpa using e.symm
  obtain ⟨si', e', hsL, hns⟩ := G.kid hn hl hsm
  obtain rfl : si' = si := by rw [hsi] at e'; simpa using e'.symm
  have gnc := G.ne_g hn hci hnc
  have gns := G.ne_g hn hsi hns
  have gcs := G.ne_g hci hsi hcs
  have dnc := G.ne_d hn hci hnc
  have dns := G.ne_d hn hsi hns
  have dcs := G.ne_d hci hsi hcs
  have knc := G.ne_k hn hci hnc
  have kns := G.ne_k hn hsi hns
  have kcs := G.ne_k hci hsi hcs
  have ltn := G.lt hn
  have lts := G.lt hsi
  have ltc := G.lt hci
  have hsub : ∀ x, x ∈ ckids ++ skids ↔ x ∈ ci'.kids ++ si'.kids := fun x => hp.mem_iff
  have hcsn : (ckids ++ skids).Nodup := by
    rw [hp.nodup_iff, List.nodup_append]
    exact ⟨G.kN _ _ hci, G.kN _ _ hsi, fun a ha b hb e => kcs a ha (e ▸ hb)⟩
  have hO : ∀ p ∈ [(n, ni), (c, ci'), (s, si')], nd p.1 = some p.2 := by simp [hn, hci, hsi]
  have hNk : ([(n, { ni with ks := nk }), (c, { ci' with kv := ckv, cv := ccv, g := gc, d := dc, ks := ck, kids := ckids }), (s, { si' with kv := skv, cv := scv, ks := sk, kids := skids })].map (·.1)).Nodup := by simp [hnc, hns, hcs]
  have hN1 : ∀ p ∈ [(n, { ni with ks := nk }), (c, { ci' with kv := ckv, cv := ccv, g := gc, d := dc, ks := ck, kids := ckids }), (s, { si' with kv := skv, cv := scv, ks := sk, kids := skids })], p.1 ∈ [(n, ni), (c, ci'), (s, si')].map (·.1) ∨ w.heap.size ≤ p.1 := by simp
  have keep : ∀ {L x : Nat}, At nd L x → At (upd nd ([(n, ni), (c, ci'), (s, si')].map (·.1)) [(n, { ni with ks := nk }), (c, { ci' with kv := ckv, cv := ccv, g := gc, d := dc, ks := ck, kids := ckids }), (s, { si' with kv := skv, cv := scv, ks := sk, kids := skids })]) L x :=
    fun h => at_keep G hO hNk hN1 h (fun p hp' _ => by simp at hp'; rcases hp' with rfl | rfl | rfl <;> simp)
  have kd : ∀ x ∈ ckids ++ skids, ∀ M, ci'.lv = M + 1 → At nd M x := fun x hx M hM => by
    rcases List.mem_append.1 ((hsub x).1 hx) with h | h
    · exact (lc.inner M hM).2.2 x h
    · exact (ls.inner M (by omega)).2.2 x h
  refine ⟨hc, hO, fun x hx => ?_, hNk, hN1, ?_, ?_, ?_, ?_, ?_, ?_, ?_, ?_⟩
  · have := hS x hx
    simp at this ⊢
    grind
  · intro p hp'
    simp only [List.mem_cons, List.not_mem_nil, or_false] at hp'
    rcases hp' with rfl | rfl | rfl
    · refine ⟨hN, hnk, ln.kid.chg hc (fun x hx hs => ?_), by rw [hnl]; exact ln.hi, ln.leaf, fun M hM => ?_⟩
      · have h1 := (ln.kid.own hx).1
        have := hS x hs
        simp at this
        rcases this with rfl | rfl | rfl | rfl | rfl | h | h
        · exact h1.ne lc.blk (by decide) rfl
        · exact h1.ne2 lc.key (by decide) rfl
        · exact h1.ne2 ln.key (by decide) rfl
        · exact h1.ne ls.blk (by decide) rfl
        · exact h1.ne2 ls.key (by decide) rfl
        · exact dnc x hx h
        · exact dns x hx h
      · obtain ⟨h1, h2, h3⟩ := ln.inner M hM
        exact ⟨h1, by simp only; omega, fun x hx => keep (h3 x hx)⟩
    · refine ⟨hC, hck, hcc, hck63, fun h => hdi.2 (lc.leaf h), fun M hM => ⟨fun h => (lc.inner M hM).1 (hdi.1 h), hcl (by simp at hM; omega), fun x hx => keep (kd x (by simp at hx; simp [hx]) M hM)⟩⟩
    · refine ⟨hT, hsk, hsc, hsk63, ls.leaf, fun M hM => ⟨(ls.inner M hM).1, hsl (by simp at hM; omega), fun x hx => keep (kd x (by simp at hx; simp [hx]) M (by simp at hM; omega))⟩⟩
  · simp
    rcases hgc with rfl | h <;> (refine ⟨⟨?_, ?_⟩, ?_⟩ <;> first | assumption | omega)
  · simp
    rcases hgc with rfl | h
    · simp
    · simp [h]
  · have h1 := ln.kid.nodup
    have h2 := hcc.nodup
    have h3 := hsc.nodup
    simp [List.nodup_append]
    grind
  · simp
    grind
  · have h1 := G.kN _ _ hn
    have hm := fun x => hsub x
    simp [List.nodup_append] at hm hcsn ⊢
    grind
  · have hm := fun x => hsub x
    simp at hm ⊢
    grind
  · simp

theorem nodup_split {l : List Nat} (h : l.Nodup) (i : Nat) {a b : Nat} (ha : l[i]? = some a) (hb : l[i + 1]? = some b) : l = l.take (i + 1) ++ b :: l.drop (i + 2) ∧ a ∈ l.take (i + 1) ∧ a ≠ b := by
  have h1 := (List.getElem?_eq_some_iff.1 hb)
  obtain ⟨hlt, rfl⟩ := h1
  refine ⟨?_, ?_, fun e => ?_⟩
  · have := List.take_append_drop (i + 1) l
    rw [List.drop_eq_getElem_cons hlt] at this
    exact this.symm
  · rw [List.mem_iff_getElem?]
    exact ⟨i, by rw [List.getElem?_take, if_pos (by omega)]; exact ha⟩
  · have := inj_of h ha (hb.trans (by rw [e]))
    omega

/-- Child i + 1 of n (r) goes into child i (c). -/
theorem cut_merge (G : Gr w nd) {n c r L i : Nat} {ni ci ri : Nd} (hn : nd n = some ni) (hl : ni.lv = L + 1) (hci0 : ni.kids[i]? = some c) (hri0 : ni.kids[i + 1]? = some r) (hci : nd c = some ci) (hri : nd r = some ri)
    {S : List Nat} (hc : Chg S w w') (hS : ∀ x ∈ S, x ∈ [n, ni.g] ++ ni.d ++ [c, ci.g] ++ ci.d) {nk ck : List ByteArray} {nkv ncv ckv ccv : Value} {gc : Nat} {dc : List Nat}
    (hN : Blk w' n 59 [nkv, ncv]) (hnk : Own w' 9 nkv ni.g (nk.map Value.string)) (hnc' : Kids w' ncv ni.d ((ni.kids.take (i + 1) ++ ni.kids.drop (i + 2)).map ptr)) (hnl : nk.length + 1 = ni.ks.length)
    (hC : Blk w' c 59 [ckv, ccv]) (hck : Own w' 9 ckv gc (ck.map Value.string)) (hcc : Kids w' ccv dc ((ci.kids ++ ri.kids).map ptr))
    (hgc : gc = ci.g ∨ w.heap.size ≤ gc) (hdc : ∀ d ∈ dc, d ∈ ci.d ∨ w.heap.size ≤ d) (hdi : dc = [] ↔ ci.d = []) (hck63 : ck.length ≤ 63) (hckl : ck.length = ci.ks.length + ri.ks.length + 1) :
    Cut w w' nd [(n, ni), (c, ci), (r, ri)] [(n, { ni with kv := nkv, cv := ncv, ks := nk, kids := ni.kids.take (i + 1) ++ ni.kids.drop (i + 2) }), (c, { ci with kv := ckv, cv := ccv, g := gc, d := dc, ks := ck, kids := ci.kids ++ ri.kids })] S := by
  have ln := G.loc n ni hn
  have lc := G.loc c ci hci
  have lr := G.loc r ri hri
  have hNd := G.kN _ _ hn
  obtain ⟨hsplit, hcin, hcr⟩ := nodup_split hNd i hci0 hri0
  have hcm : c ∈ ni.kids := List.mem_of_getElem? hci0
  have hrm : r ∈ ni.kids := List.mem_of_getElem? hri0
  obtain ⟨ci', e, hcL, hnc⟩ := G.kid hn hl hcm
  obtain rfl : ci' = ci := by rw [hci] at e; simpa using e.symm
  obtain ⟨ri', e', hrL, hnr⟩ := G.kid hn hl hrm
  obtain rfl : ri' = ri := by rw [hri] at e'; simpa using e'.symm
  have gnc := G.ne_g hn hci hnc
  have dnc := G.ne_d hn hci hnc
  have knc := G.ne_k hn hci hnc
  have knr := G.ne_k hn hri hnr
  have kcr := G.ne_k hci hri hcr
  have ltn := G.lt hn
  have ltc := G.lt hci
  obtain ⟨A, hA⟩ : ∃ A, A = ni.kids.take (i + 1) := ⟨_, rfl⟩
  obtain ⟨D, hD⟩ : ∃ D, D = ni.kids.drop (i + 2) := ⟨_, rfl⟩
  rw [← hA, ← hD] at hnc' hsplit ⊢
  rw [← hA] at hcin
  clear hA hD
  have hO : ∀ p ∈ [(n, ni), (c, ci'), (r, ri')], nd p.1 = some p.2 := by simp [hn, hci, hri]
  have hNk : ([(n, { ni with kv := nkv, cv := ncv, ks := nk, kids := A ++ D }), (c, { ci' with kv := ckv, cv := ccv, g := gc, d := dc, ks := ck, kids := ci'.kids ++ ri'.kids })].map (·.1)).Nodup := by simp [hnc]
  have hN1 : ∀ p ∈ [(n, { ni with kv := nkv, cv := ncv, ks := nk, kids := A ++ D }), (c, { ci' with kv := ckv, cv := ccv, g := gc, d := dc, ks := ck, kids := ci'.kids ++ ri'.kids })], p.1 ∈ [(n, ni), (c, ci'), (r, ri')].map (·.1) ∨ w.heap.size ≤ p.1 := by simp
  have keep : ∀ {L x : Nat}, At nd L x → x ≠ r → At (upd nd ([(n, ni), (c, ci'), (r, ri')].map (·.1)) [(n, { ni with kv := nkv, cv := ncv, ks := nk, kids := A ++ D }), (c, { ci' with kv := ckv, cv := ccv, g := gc, d := dc, ks := ck, kids := ci'.kids ++ ri'.kids })]) L x :=
    fun h hx => at_keep G hO hNk hN1 h (fun p hp' e => by
      simp at hp'
      rcases hp' with rfl | rfl | rfl
      · simp
      · simp
      · exact absurd e.symm hx)
  have hrA : r ∉ A ∧ r ∉ D := by
    rw [hsplit] at hNd
    simp [List.nodup_append] at hNd
    grind
  have hlenk : ni.kids.length = A.length + D.length + 1 := by rw [hsplit]; simp; omega
  refine ⟨hc, hO, fun x hx => ?_, hNk, hN1, ?_, ?_, ?_, ?_, ?_, ?_, ?_, ?_⟩
  · have := hS x hx
    simp at this ⊢
    grind
  · intro p hp'
    simp only [List.mem_cons, List.not_mem_nil, or_false] at hp'
    rcases hp' with rfl | rfl
    · refine ⟨hN, hnk, hnc', by have := ln.hi; simp only; omega, ln.leaf, fun M hM => ?_⟩
      obtain ⟨h1, h2, h3⟩ := ln.inner M hM
      refine ⟨h1, by simp only [List.length_append]; omega, fun x hx => keep (h3 x ?_) ?_⟩
      · rw [hsplit]; simp at hx ⊢; grind
      · rintro rfl
        simp at hx; grind
    · refine ⟨hC, hck, hcc, hck63, fun h => hdi.2 (lc.leaf h), fun M hM => ⟨fun h => (lc.inner M hM).1 (hdi.1 h), ?_, fun x hx => ?_⟩⟩
      · have h1 := (lc.inner M hM).2.1
        have h2 := (lr.inner M (by simp at hM; omega)).2.1
        simp only [List.length_append]
        omega
      · have hat : At nd M x := by
          simp only [List.mem_append] at hx
          rcases hx with h | h
          · exact (lc.inner M hM).2.2 x h
          · exact (lr.inner M (by simp at hM; omega)).2.2 x h
        refine keep hat ?_
        rintro rfl
        obtain ⟨j, hj, hjl⟩ := hat
        rw [hri] at hj
        cases hj
        simp at hM
        omega
  · simp
    rcases hgc with rfl | h
    · exact gnc
    · omega
  · simp
    rcases hgc with rfl | h
    · simp
    · simp [h]
  · have h1 := ln.kid.nodup
    have h2 := hcc.nodup
    simp [List.nodup_append]
    grind
  · simp
    grind
  · have h2 := G.kN _ _ hci
    have h3 := G.kN _ _ hri
    rw [hsplit] at hNd knc knr
    simp [List.nodup_append] at hNd knc knr ⊢
    grind
  · rw [show (List.flatMap (fun x : Nat × Nd => x.2.kids) [(n, ni), (c, ci'), (r, ri')]) = ni.kids ++ (ci'.kids ++ (ri'.kids ++ [])) from rfl, hsplit]
    simp
    grind
  · simp [hrm]

/-- The full child c of n gives its upper half to a new node r. -/
theorem cut_split (G : Gr w nd) {n c r L i : Nat} {ni ci : Nd} (hn : nd n = some ni) (hl : ni.lv = L + 1) (hci0 : ni.kids[i]? = some c) (hci : nd c = some ci) (hr : w.heap.size ≤ r)
    {S : List Nat} (hc : Chg S w w') (hS : ∀ x ∈ S, x ∈ [n, ni.g] ++ ni.d ++ [c, ci.g] ++ ci.d) {nk ck rk : List ByteArray} {nkv ncv ckv ccv rkv rcv : Value} {gn gr : Nat} {dn dr : List Nat}
    (hN : Blk w' n 59 [nkv, ncv]) (hnk : Own w' 9 nkv gn (nk.map Value.string)) (hnc' : Kids w' ncv dn ((ni.kids.take (i + 1) ++ r :: ni.kids.drop (i + 1)).map ptr)) (hnl : nk.length = ni.ks.length + 1) (hn63 : nk.length ≤ 63)
    (hC : Blk w' c 59 [ckv, ccv]) (hck : Own w' 9 ckv ci.g (ck.map Value.string)) (hcc : Kids w' ccv ci.d ((ci.kids.take 32).map ptr)) (hR : Blk w' r 59 [rkv, rcv]) (hrk : Own w' 9 rkv gr (rk.map Value.string)) (hrc : Kids w' rcv dr ((ci.kids.drop 32).map ptr))
    (hgn : gn = ni.g ∨ w.heap.size ≤ gn) (hgr : w.heap.size ≤ gr) (hgnr : gr ≠ gn) (hdn : ∀ d ∈ dn, d ∈ ni.d ∨ w.heap.size ≤ d) (hdne : dn ≠ []) (hdr : ∀ d ∈ dr, w.heap.size ≤ d) (hdi : dr = [] ↔ ci.d = []) (hdnr : ∀ d ∈ dn, d ∉ dr)
    (hckl : ck.length = 31) (hrkl : rk.length = 31) (hc63 : ci.ks.length = 63) :
    Cut w w' nd [(n, ni), (c, ci)] [(n, { ni with kv := nkv, cv := ncv, g := gn, d := dn, ks := nk, kids := ni.kids.take (i + 1) ++ r :: ni.kids.drop (i + 1) }), (c, { ci with kv := ckv, cv := ccv, ks := ck, kids := ci.kids.take 32 }), (r, { kv := rkv, cv := rcv, g := gr, d := dr, ks := rk, kids := ci.kids.drop 32, lv := ci.lv })] S := by
  have ln := G.loc n ni hn
  have lc := G.loc c ci hci
  have hNd := G.kN _ _ hn
  have hcm : c ∈ ni.kids := List.mem_of_getElem? hci0
  obtain ⟨ci', e, hcL, hnc⟩ := G.kid hn hl hcm
  obtain rfl : ci' = ci := by rw [hci] at e; simpa using e.symm
  have gnc := G.ne_g hn hci hnc
  have dnc := G.ne_d hn hci hnc
  have knc := G.ne_k hn hci hnc
  have ltn := G.lt hn
  have ltc := G.lt hci
  have hnr : n ≠ r := by omega
  have hcr : c ≠ r := by omega
  have hlt : ∀ {b : Nat} {j : Nd}, nd b = some j → ∀ x ∈ j.kids, x < w.heap.size := fun hb x hx => by
    obtain ⟨_, _, j, hj, _⟩ := G.kid_lt hb hx
    exact (G.lt hj).1
  have hknr : ∀ x ∈ ni.kids, x ≠ r := fun x hx e => by have := hlt hn x hx; omega
  have hkcr : ∀ x ∈ ci'.kids, x ≠ r := fun x hx e => by have := hlt hci x hx; omega
  have hkc : ci'.lv ≠ 0 → ci'.kids.length = 64 := fun h => by have := G.kids_len hci h; omega
  have hsplit := (List.take_append_drop (i + 1) ni.kids).symm
  have hspc := (List.take_append_drop 32 ci'.kids).symm
  have hlt32 : ci'.lv ≠ 0 → (ci'.kids.take 32).length = 32 := fun h => by rw [List.length_take, hkc h]; rfl
  have hld32 : ci'.lv ≠ 0 → (ci'.kids.drop 32).length = 32 := fun h => by rw [List.length_drop, hkc h]
  have hN2 := G.kN _ _ hci
  obtain ⟨A, hA⟩ : ∃ A, A = ni.kids.take (i + 1) := ⟨_, rfl⟩
  obtain ⟨D, hD⟩ : ∃ D, D = ni.kids.drop (i + 1) := ⟨_, rfl⟩
  obtain ⟨E, hE⟩ : ∃ E, E = ci'.kids.take 32 := ⟨_, rfl⟩
  obtain ⟨F, hF⟩ : ∃ F, F = ci'.kids.drop 32 := ⟨_, rfl⟩
  rw [← hA, ← hD] at hnc' hsplit
  rw [← hE] at hcc hlt32
  rw [← hF] at hrc hld32
  rw [← hE, ← hF] at hspc
  rw [← hA, ← hD, ← hE, ← hF]
  clear hA hD hE hF
  have hO : ∀ p ∈ [(n, ni), (c, ci')], nd p.1 = some p.2 := by simp [hn, hci]
  have hNk : ([(n, { ni with kv := nkv, cv := ncv, g := gn, d := dn, ks := nk, kids := A ++ r :: D }), (c, { ci' with kv := ckv, cv := ccv, ks := ck, kids := E }), (r, { kv := rkv, cv := rcv, g := gr, d := dr, ks := rk, kids := F, lv := ci'.lv })].map (·.1)).Nodup := by simp [hnc, hnr, hcr]
  have hN1 : ∀ p ∈ [(n, { ni with kv := nkv, cv := ncv, g := gn, d := dn, ks := nk, kids := A ++ r :: D }), (c, { ci' with kv := ckv, cv := ccv, ks := ck, kids := E }), (r, { kv := rkv, cv := rcv, g := gr, d := dr, ks := rk, kids := F, lv := ci'.lv })], p.1 ∈ [(n, ni), (c, ci')].map (·.1) ∨ w.heap.size ≤ p.1 := by simp [hr]
  have keep : ∀ {L x : Nat}, At nd L x → At (upd nd ([(n, ni), (c, ci')].map (·.1)) [(n, { ni with kv := nkv, cv := ncv, g := gn, d := dn, ks := nk, kids := A ++ r :: D }), (c, { ci' with kv := ckv, cv := ccv, ks := ck, kids := E }), (r, { kv := rkv, cv := rcv, g := gr, d := dr, ks := rk, kids := F, lv := ci'.lv })]) L x :=
    fun h => at_keep G hO hNk hN1 h (fun p hp' e => by
      simp at hp'
      rcases hp' with rfl | rfl <;> simp)
  refine ⟨hc, hO, fun x hx => ?_, hNk, hN1, ?_, ?_, ?_, ?_, ?_, ?_, ?_, ?_⟩
  · have := hS x hx
    simp at this ⊢
    grind
  · intro p hp'
    simp only [List.mem_cons, List.not_mem_nil, or_false] at hp'
    rcases hp' with rfl | rfl | rfl
    · refine ⟨hN, hnk, hnc', hn63, fun h => by simp at h; omega, fun M hM => ?_⟩
      obtain ⟨h1, h2, h3⟩ := ln.inner M hM
      have hlen : ni.kids.length = A.length + D.length := by rw [hsplit]; simp
      refine ⟨hdne, by simp only [List.length_append, List.length_cons]; omega, fun x hx => ?_⟩
      simp only [List.mem_append, List.mem_cons] at hx
      rcases hx with h | rfl | h
      · exact keep (h3 x (by rw [hsplit]; simp [h]))
      · refine ⟨{ kv := rkv, cv := rcv, g := gr, d := dr, ks := rk, kids := F, lv := ci'.lv }, upd_new hNk (by simp), ?_⟩
        show ci'.lv = M
        simp at hM
        omega
      · exact keep (h3 x (by rw [hsplit]; simp [h]))
    · refine ⟨hC, hck, hcc, by simp only; omega, lc.leaf, fun M hM => ⟨(lc.inner M hM).1, ?_, fun x hx => keep ((lc.inner M hM).2.2 x (by rw [hspc]; simp at hx; simp [hx]))⟩⟩
      simp only
      rw [hlt32 (by simp at hM; omega), hckl]
    · refine ⟨hR, hrk, hrc, by simp only; omega, fun h => hdi.2 (lc.leaf h), fun M hM => ⟨fun h => (lc.inner M hM).1 (hdi.1 h), ?_, fun x hx => keep ((lc.inner M hM).2.2 x (by rw [hspc]; simp at hx; simp [hx]))⟩⟩
      simp only
      rw [hld32 (by simp at hM; omega), hrkl]
  · simp
    rcases hgn with rfl | h
    · exact ⟨⟨gnc, by omega⟩, by omega⟩
    · exact ⟨⟨by omega, hgnr.symm⟩, by omega⟩
  · simp
    rcases hgn with rfl | h
    · simp [hgr]
    · simp [h, hgr]
  · have h1 := hnc'.nodup
    have h2 := hcc.nodup
    have h3 := hrc.nodup
    simp [List.nodup_append]
    grind
  · simp
    grind
  · rw [hsplit] at hNd knc hknr
    rw [hspc] at hN2 knc hkcr
    simp [List.nodup_append] at hNd knc hN2 hknr hkcr ⊢
    grind
  · rw [show (List.flatMap (fun x : Nat × Nd => x.2.kids) [(n, ni), (c, ci')]) = ni.kids ++ (ci'.kids ++ []) from rfl, hsplit, hspc]
    simp
    grind
  · simp

/-- A new root over the old one. -/
theorem cut_root (G : Gr w nd) {n r : Nat} {ri : Nd} (hr : nd r = some ri) (hn : w.heap.size ≤ n) (hno : ∀ b i, nd b = some i → r ∉ i.kids) (hc : Chg [] w w') {kv cv : Value} {g d : Nat}
    (hN : Blk w' n 59 [kv, cv]) (hk : Own w' 9 kv g (([] : List ByteArray).map Value.string)) (hcv : Own w' 34 cv d [ptr r]) (hg : w.heap.size ≤ g) (hd : w.heap.size ≤ d) :
    Cut w w' nd [] [(n, { kv := kv, cv := cv, g := g, d := [d], ks := [], kids := [r], lv := ri.lv + 1 })] [] := by
  have hN1 : ∀ p ∈ [(n, ({ kv := kv, cv := cv, g := g, d := [d], ks := [], kids := [r], lv := ri.lv + 1 } : Nd))], p.1 ∈ ([] : List (Nat × Nd)).map (·.1) ∨ w.heap.size ≤ p.1 := by simp [hn]
  refine ⟨hc, by simp, by simp, by simp, hN1, ?_, by simp, by simp [hg], by simp, by simp [hd], by simp, by simpa using Or.inr hno, by simp⟩
  simp only [List.mem_singleton, forall_eq]
  refine ⟨hN, hk, Or.inr ⟨d, rfl, hcv⟩, by simp, fun h => by simp at h, fun L hl => ⟨by simp, rfl, fun c hcc => ?_⟩⟩
  simp at hl hcc
  subst hcc
  exact at_keep G (by simp) (by simp) hN1 ⟨ri, hr, hl⟩ (by simp)

/-- The first root: a leaf. -/
theorem cut_leaf (G : Gr w nd) {n : Nat} (hn : w.heap.size ≤ n) (hc : Chg [] w w') {kv : Value} {g : Nat} (hN : Blk w' n 59 [kv, .slice none 0 0]) (hk : Own w' 9 kv g (([] : List ByteArray).map Value.string)) (hg : w.heap.size ≤ g) :
    Cut w w' nd [] [(n, { kv := kv, cv := .slice none 0 0, g := g, d := [], ks := [], kids := [], lv := 0 })] [] := by
  have hG := G
  refine ⟨hc, by simp, by simp, by simp, by simp [hn], ?_, by simp, by simp [hg], by simp, by simp, by simp, by simp, by simp⟩
  simp only [List.mem_singleton, forall_eq]
  exact ⟨hN, hk, kids_nil _, by simp, fun _ => rfl, fun L hl => by simp at hl⟩
end
end Go.Proofs.Qxb6601743a
