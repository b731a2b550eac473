import Derived.Test.Qxb6601743aDel
import Derived.Test.Qxb6601743aReg
namespace Go.Proofs.Qxb6601743a
open Go.RowKit

section
variable {P : Program}
/-- The builtin append, its run known by an equation. -/
theorem wp_append_eq {o : Oper} {a : Act} {w : World} {K : Act → World → Prop} {Q : Exit → Act → World → Prop} (d x : Operand) (dT sT : TypeId)
    (hop : o.op = Op.call { callee := Callee.builtin Builtin.append, args := #[d, x], argTypes := #[dT, sT] })
    (v u : Value) (hd : a.eval d = v) (hx : a.eval x = u) {v' : Value} {w' : World} (hr : ∀ ty, (Builtin.append_ #[dT, sT] ty #[v, u]).run P w = .ok v' w') (hK : K (a.put o.dst v') w') : Oper.wp P o a w K Q := by
  unfold Oper.wp
  simp [execOp, hop, resolve, invoke, builtin, hd, hx, hr, Result.andThen]
  exact hK
end

/-- The children of a node: nil, or a slice over the head of a block of their own. -/
def Kids (w : World) (v : Value) (bs : List Nat) (xs : List Value) : Prop := (v = .slice none 0 0 ∧ bs = [] ∧ xs = []) ∨ ∃ b, bs = [b] ∧ Own w 34 v b xs

theorem Kids.chg {S : List Nat} {w w' : World} {v : Value} {bs : List Nat} {xs : List Value} (h : Kids w v bs xs) (c : Chg S w w') (hs : ∀ b ∈ bs, b ∉ S) : Kids w' v bs xs := by
  rcases h with h | ⟨b, rfl, h⟩
  · exact Or.inl h
  · exact Or.inr ⟨b, rfl, h.chg c (hs b (by simp))⟩

theorem Own.form {w : World} {e : TypeId} {v : Value} {b : Nat} {xs : List Value} (h : Own w e v b xs) : ∃ c, v = .slice (some ⟨b, 0, none⟩) xs.length c := by
  obtain ⟨sp, rfl, _⟩ := h; exact ⟨_, rfl⟩

theorem Own.setOther {w : World} {e : TypeId} {v : Value} {b : Nat} {xs : List Value} (h : Own w e v b xs) {p : Addr} (hp : b ≠ p.block) (u : Value) : Own (w.setCell p u) e v b xs := by
  obtain ⟨sp, hv, hb, hm⟩ := h; exact ⟨sp, hv, hb.setOther hp u, hm⟩

theorem Kids.form {w : World} {v : Value} {bs : List Nat} {xs : List Value} (h : Kids w v bs xs) : ∃ a n c, v = .slice a n c := by
  rcases h with ⟨rfl, _⟩ | ⟨b, _, sp, rfl, _⟩
  · exact ⟨_, _, _, rfl⟩
  · exact ⟨_, _, _, rfl⟩

theorem append_kids {w : World} {v u : Value} {bs ds : List Nat} {xs ys : List Value} (hx : Kids w v bs xs) (hy : Kids w u ds ys) (hn : bs = [] ↔ ds = []) (h1 : ∀ u ∈ ys, u.oneCell' = true) (hsm : xs.length + ys.length ≤ 1073741824) :
    ∃ v' bs' w', (∀ ty, (Builtin.append_ #[45, 45] ty #[v, u]).run Try.prog w = .ok v' w') ∧ Kids w' v' bs' (xs ++ ys) ∧ (∀ b ∈ bs', b ∈ bs ∨ w.heap.size ≤ b) ∧ (bs' = [] ↔ bs = []) ∧ Chg bs w w' := by
  rcases hx with ⟨rfl, rfl, rfl⟩ | ⟨b, rfl, sp, rfl, hb, hcap⟩
  · rcases hy with ⟨rfl, rfl, rfl⟩ | ⟨b, rfl, _⟩
    · refine ⟨.slice none 0 0, [], w, fun ty => ?_, Or.inl ⟨rfl, rfl, rfl⟩, by simp, by simp, Chg.refl _ _⟩
      obtain ⟨i, hi, hz, hs1, hby⟩ := info_parts EN.info
      simp [Builtin.append_, run_underlying EN.und, sizeOf, typeInfo, hi, Builtin.lenOf, Builtin.firstCells]
    · simp at hn
  · rcases hy with ⟨rfl, rfl, rfl⟩ | ⟨d, rfl, sp', rfl, hd, hcap'⟩
    · simp at hn
    · obtain ⟨v', b', w', hr, ho, hor⟩ := append_blk EN hb hcap ⟨d, 0, none⟩ ys.length (ys.length + sp'.length) ys rfl (hd.cells 0 ys (fun j v hj => by
        rw [Nat.zero_add, List.getElem?_append_left (List.getElem?_eq_some_iff.1 hj).1]; exact hj)) h1 (by omega) (by omega)
      refine ⟨v', [b'], w', hr, Or.inr ⟨b', rfl, ho⟩, ?_, by simp, ?_⟩
      · intro k hk
        obtain rfl : k = b' := by simpa using hk
        rcases hor with ⟨rfl, _⟩ | ⟨rfl, _⟩
        · simp
        · exact Or.inr (Nat.le_refl _)
      · rcases hor with ⟨_, h, _⟩ | ⟨_, h, _⟩
        · exact h
        · exact h.mono (by simp)

theorem Blk.type {w : World} {b e e' : Nat} {xs ys : List Value} (h : Blk w b e xs) (h' : Blk w b e' ys) : e = e' := by
  unfold Blk at h h'; rw [h] at h'; simp at h'; exact h'.2

/-- Blocks of two types are two blocks. -/
theorem Blk.ne {w : World} {b c e e' : Nat} {xs ys : List Value} (h : Blk w b e xs) (h' : Blk w c e' ys) (hne : e ≠ e' := by decide) : b ≠ c := fun hb => hne (h.type (hb ▸ h'))

theorem Own.blk {w : World} {e v b xs} (h : Own w e v b xs) : ∃ L, Blk w b e L := by obtain ⟨sp, _, h, _⟩ := h; exact ⟨_, h⟩

theorem Own.ne {w : World} {b c e e' : Nat} {v : Value} {xs ys : List Value} (h : Own w e v b xs) (h' : Blk w c e' ys) (hne : e ≠ e' := by decide) : b ≠ c := by
  obtain ⟨L, hL⟩ := h.blk; exact hL.ne h' hne

theorem Own.ne2 {w : World} {b c e e' : Nat} {v u : Value} {xs ys : List Value} (h : Own w e v b xs) (h' : Own w e' u c ys) (hne : e ≠ e' := by decide) : b ≠ c := by
  obtain ⟨L, hL⟩ := h'.blk; exact h.ne hL hne

theorem Kids.far {w : World} {v u : Value} {bs : List Nat} {xs ys zs : List Value} {b k : Nat} (h : Kids w v bs xs) (hb : Blk w b 59 ys) (hk : Own w 9 u k zs) : ∀ d ∈ bs, d ∉ [b, k] := by
  rcases h with ⟨_, rfl, _⟩ | ⟨d, rfl, h⟩
  · simp
  · intro d' hd
    obtain rfl : d' = d := by simpa using hd
    simp [h.ne hb, h.ne2 hk]

/-- A pointer to a node at the head of block b. -/
abbrev ptr (b : Nat) : Value := .pointer (some ⟨b, 0, none⟩)

/-- The step that all takes share: see the region's own law. -/
theorem put_some (a : Act) (d : Nat) (v : Value) : a.put (some d) v = { a with tmps := a.tmps.setIfInBounds d v } := rfl

theorem deleteS' (w : World) (v : Value) (b i j : Nat) (xs : List Value) (I J : Int) (hI : I = i) (hJ : J = j) (h : Own w 9 v b xs) (hij : i < j) (hj : j ≤ xs.length) (h1 : ∀ u ∈ xs, u.oneCell' = true) :
    Calls Try.prog 47 #[v, .int .i64 I, .int .i64 J] w fun en w' => ∃ v', en = .returned v' ∧ Own w' 9 v' b (xs.take i ++ xs.drop j) ∧ Chg [b] w w' := by
  subst hI hJ; exact deleteS w v b i j xs h hij hj h1

theorem deleteN' (w : World) (v : Value) (b i j : Nat) (xs : List Value) (I J : Int) (hI : I = i) (hJ : J = j) (h : Own w 34 v b xs) (hij : i < j) (hj : j ≤ xs.length) (h1 : ∀ u ∈ xs, u.oneCell' = true) :
    Calls Try.prog 52 #[v, .int .i64 I, .int .i64 J] w fun en w' => ∃ v', en = .returned v' ∧ Own w' 34 v' b (xs.take i ++ xs.drop j) ∧ Chg [b] w w' := by
  subst hI hJ; exact deleteN w v b i j xs h hij hj h1

set_option maxHeartbeats 2000000 in
set_option maxRecDepth 100000 in
theorem merge_any (w : World) (bn kn cn bc kc br kr i : Nat) (dcs drs : List Nat) (nkv ncv ckv ccv rkv rcv : Value) (x : ByteArray) (ks cps kcs krs cc rc : List Value)
    (hN : Blk w bn 59 [nkv, ncv]) (hnk : Own w 9 nkv kn ks) (hnc : Own w 34 ncv cn cps) (hC : Blk w bc 59 [ckv, ccv]) (hck : Own w 9 ckv kc kcs) (hR : Blk w br 59 [rkv, rcv]) (hrk : Own w 9 rkv kr krs)
    (hcc : Kids w ccv dcs cc) (hrc : Kids w rcv drs rc) (hboth : dcs = [] ↔ drs = [])
    (h1 : cps[i]? = some (ptr bc)) (h2 : cps[i + 1]? = some (ptr br)) (hx : ks[i]? = some (.string x))
    (nbc : bn ≠ bc) (ncr : bc ≠ br) (kbc : kn ≠ kc) (kcr : kc ≠ kr) (dcn : cn ∉ dcs)
    (ok1 : ∀ u ∈ ks, u.oneCell' = true) (ok2 : ∀ u ∈ cps, u.oneCell' = true) (ok3 : ∀ u ∈ krs, u.oneCell' = true) (ok4 : ∀ u ∈ rc, u.oneCell' = true)
    (s1 : ks.length ≤ 1000000) (s2 : cps.length ≤ 1000000) (s3 : kcs.length ≤ 1000000) (s4 : krs.length ≤ 1000000) (s5 : cc.length ≤ 1000000) (s6 : rc.length ≤ 1000000) :
    Calls Try.prog 50 #[ptr bn, .int .i64 i] w fun en w' => en = .returned (.tuple #[]) ∧ ∃ nkv' ncv' ckv' ccv' kc' dcs',
      Blk w' bn 59 [nkv', ncv'] ∧ Own w' 9 nkv' kn (ks.take i ++ ks.drop (i + 1)) ∧ Own w' 34 ncv' cn (cps.take (i + 1) ++ cps.drop (i + 2)) ∧
      Blk w' bc 59 [ckv', ccv'] ∧ Own w' 9 ckv' kc' (kcs ++ [.string x] ++ krs) ∧ Kids w' ccv' dcs' (cc ++ rc) ∧
      (kc' = kc ∨ w.heap.size ≤ kc') ∧ (∀ d ∈ dcs', d ∈ dcs ∨ w.heap.size ≤ d) ∧ (dcs' = [] ↔ dcs = []) ∧ Chg ([bn, kn, cn, bc, kc] ++ dcs) w w' := by
  have li : i < ks.length := (List.getElem?_eq_some_iff.1 hx).1
  have lc : i + 1 < cps.length := (List.getElem?_eq_some_iff.1 h2).1
  have b1 : (i : Int) < (cps.length : Int) := by omega
  have b2 : (i : Int) + 1 < (cps.length : Int) := by omega
  have b3 : IntKind.i64.wrap ((i : Int) + 1) = (i : Int) + 1 := by rw [IntKind.wrap_i64]; omega
  have b4 : (0 : Int) ≤ (i : Int) + 1 := by omega
  have b5 : ((i : Int) + 1).toNat = i + 1 := by omega
  have b6 : (i : Int) < (ks.length : Int) := by omega
  obtain ⟨ca, cl, ck, rfl⟩ := hcc.form
  obtain ⟨ra, rl, rk, rfl⟩ := hrc.form
  obtain ⟨nsp, rfl, hnkB, hnkm⟩ := id hnk
  obtain ⟨csp, rfl, hncB, hncm⟩ := id hnc
  have c0 := hN.cell (k := 0) rfl
  have c1 := hN.cell (k := 1) rfl
  have c2 : w.cell? ⟨cn, i, none⟩ = some (ptr bc) := hncB.cell (by rw [List.getElem?_append_left (by omega)]; exact h1)
  have c3 : w.cell? ⟨cn, i + 1, none⟩ = some (ptr br) := hncB.cell (by rw [List.getElem?_append_left (by omega)]; exact h2)
  go_enter Try.func50, Try.ntmps50
  go_wp2
  refine wp_region_parts (fun w' => w'.cell? ⟨bn, 1, none⟩ = some (.slice (some ⟨cn, 0, none⟩) cps.length (cps.length + csp.length)) ∧ w'.cell? ⟨cn, i, none⟩ = some (ptr bc) ∧ w'.cell? ⟨cn, i + 1, none⟩ = some (ptr br))
    [(0, false), (1, false), (2, false), (3, true), (4, false), (5, false), (6, true), (7, false), (8, false), (9, false), (10, true), (11, false), (12, false), (13, false), (14, true), (15, false), (16, false)] [] (by kernel_rfl) (fun _ _ _ _ _ h => h) (by kernel_rfl) ⟨c1, c2, c3⟩ ?_
  simp only [pick, List.map_cons, List.map_nil, List.getElem?_toArray, List.getElem?_cons_zero, List.getElem?_cons_succ]
  repeat (refine Heads.cons (v := ?_) ?_ ?_; rotate_left 1; (· (intro w' hw'; (first | (obtain ⟨_, _, _⟩ := hw' rfl; clear hw') | clear hw'); go_simp; (try with_reducible rfl); done)); simp only [Act.put, List.setIfInBounds_toArray, List.set_cons_zero, List.set_cons_succ])
  refine Heads.nil (Rest.nil ?_)
  go_wp2
  -- c.keys = append(append(c.keys, n.keys[i]), r.keys...)
  obtain ⟨ksp, rfl, hckB, hckm⟩ := id hck
  obtain ⟨rsp, rfl, hrkB, hrkm⟩ := id hrk
  have e1 := hC.cell (k := 0) rfl
  have e2 := hR.cell (k := 0) rfl
  have e3 : w.cell? ⟨kn, i, none⟩ = some (.string x) := hnkB.cell (by rw [List.getElem?_append_left (by omega)]; exact hx)
  refine wp_region_parts (fun w' => w'.cell? ⟨bc, 0, none⟩ = some (.slice (some ⟨kc, 0, none⟩) kcs.length (kcs.length + ksp.length)) ∧ w'.cell? ⟨bn, 0, none⟩ = some (.slice (some ⟨kn, 0, none⟩) ks.length (ks.length + nsp.length)) ∧ w'.cell? ⟨kn, i, none⟩ = some (.string x) ∧ w'.cell? ⟨br, 0, none⟩ = some (.slice (some ⟨kr, 0, none⟩) krs.length (krs.length + rsp.length)))
    [(0, false), (1, false), (2, false), (3, false), (4, true), (5, false), (6, false), (7, false), (8, true), (9, false), (10, false), (11, true), (14, false), (15, false), (16, false), (17, true)] [(12, false), (13, false), (18, true), (19, true), (20, true), (21, true)] (by kernel_rfl) (fun _ _ _ _ _ h => h) (by kernel_rfl) ⟨e1, c0, e3, e2⟩ ?_
  simp only [pick, List.map_cons, List.map_nil, List.getElem?_toArray, List.getElem?_cons_zero, List.getElem?_cons_succ]
  repeat (refine Heads.cons (v := ?_) ?_ ?_; rotate_left 1; (· (intro w' hw'; (first | (obtain ⟨_, _, _, _⟩ := hw' rfl; clear hw') | clear hw'); go_simp; (try with_reducible rfl); done)); simp only [Act.put, List.setIfInBounds_toArray, List.set_cons_zero, List.set_cons_succ])
  refine Heads.nil ?_
  refine Rest.cons (fun K hK => ?_)
  go_simp
  have kcC : kc ≠ bc := hck.ne hC
  have kcN : kc ≠ bn := hck.ne hN
  have kcR : kc ≠ br := hck.ne hR
  have g1 : Chg [] w ((w.alloc (.cells #[.string x] 9)).drew.drew) := (((Chg.refl _ _).alloc _).drew).drew
  refine hK.out _ _ (fun _ _ => ⟨g1.cell e1, g1.cell c0, g1.cell e3, g1.cell e2⟩) ?_
  clear hK K
  have lx : Blk ((w.alloc (.cells #[.string x] 9)).drew.drew) w.heap.size 9 [.string x] := Blk.new w [.string x] 9
  obtain ⟨v1, k1, w1, hr1, ho1, hor1⟩ := append_blk ES (hckB.chg g1 (by simp)) hckm ⟨w.heap.size, 0, none⟩ 1 1 [.string x] rfl (lx.cells 0 [.string x] (fun j v hj => by simpa using hj)) (by simp [Value.oneCell']) (by omega) (by omega)
  have g2 : Chg [kc] ((w.alloc (.cells #[.string x] 9)).drew.drew) w1 := by
    rcases hor1 with ⟨_, h, _⟩ | ⟨_, h, _⟩
    · exact h
    · exact h.mono (by simp)
  have hk1 : k1 = kc ∨ w.heap.size ≤ k1 := by
    rcases hor1 with ⟨h, _⟩ | ⟨h, _⟩
    · exact Or.inl h
    · right; rw [h]; simp
  have g3 : Chg [kc] w w1 := (g1.mono (by simp)).trans g2
  clear hor1 g2
  refine Rest.cons (fun K hK => wp_append_eq _ _ 22 22 rfl _ _ rfl rfl hr1 ?_)
  refine hK.out _ _ (fun _ _ => ⟨g3.cell e1 (by simpa using kcC.symm), g3.cell c0 (by simpa using kcN.symm), g3.cell e3 (by simpa using kbc), g3.cell e2 (by simpa using kcR.symm)⟩) ?_
  clear hK K hr1
  simp only [Act.put, List.setIfInBounds_toArray, List.set_cons_zero, List.set_cons_succ]
  obtain ⟨sp1, rfl, hB1, hm1⟩ := ho1
  obtain ⟨v2, k2, w2, hr2, ho2, hor2⟩ := append_blk ES hB1 hm1 ⟨kr, 0, none⟩ krs.length (krs.length + rsp.length) krs rfl ((hrkB.chg g3 (by simpa using kcr.symm)).cells 0 krs (fun j v hj => by
        rw [Nat.zero_add, List.getElem?_append_left (List.getElem?_eq_some_iff.1 hj).1]; exact hj)) ok3 (by simp; omega) (by simp; omega)
  have g4 : Chg [kc] w w2 := by
    rcases hor2 with ⟨_, h, _⟩ | ⟨_, h, _⟩
    · exact g3.then h (by simpa using hk1)
    · exact g3.then h (by simp)
  have hk2 : k2 = kc ∨ w.heap.size ≤ k2 := by
    rcases hor2 with ⟨h, _⟩ | ⟨h, _⟩
    · rw [h]; exact hk1
    · right; rw [h]; exact g3.size
  refine Rest.cons (fun K hK => wp_append_eq _ _ 22 22 rfl _ _ rfl rfl hr2 ?_)
  refine hK.out _ _ (fun h => by cases h) ?_
  clear hK K hr2 hor2 hk1 g3 hm1 hB1 g1 lx
  obtain ⟨KL, hKL⟩ : ∃ KL, KL = kcs ++ [Value.string x] ++ krs := ⟨_, rfl⟩
  rw [← hKL] at ho2
  have HKL : Hid (KL = kcs ++ [Value.string x] ++ krs) := hKL
  clear hKL
  obtain ⟨p2, rfl⟩ := ho2.form
  simp only [Act.put, List.setIfInBounds_toArray, List.set_cons_zero, List.set_cons_succ]
  have f1 := g4.cell e1 (by simpa using kcC.symm)
  have f2 : w2.frozen? ⟨bc, 0, none⟩ = false := (hC.chg g4 (by simpa using kcC.symm)).frozen 0
  refine Rest.cons (fun K hK => ?_)
  go_simp
  refine hK.out _ _ (fun h => by cases h) ?_
  clear hK K
  refine Rest.cons (fun K hK => ?_)
  go_simp
  refine hK.out _ _ (fun h => by cases h) ?_
  clear hK K
  refine Rest.cons (fun K hK => ?_)
  go_simp
  refine hK.out _ _ (fun h => by cases h) (Rest.nil ?_)
  clear hK K
  have F : Blk (w2.setCell ⟨bc, 0, none⟩ (.slice (some ⟨k2, 0, none⟩) KL.length p2)) bc 59 [.slice (some ⟨k2, 0, none⟩) KL.length p2, .slice ca cl ck] ∧
      Own (w2.setCell ⟨bc, 0, none⟩ (.slice (some ⟨k2, 0, none⟩) KL.length p2)) 9 (.slice (some ⟨k2, 0, none⟩) KL.length p2) k2 KL ∧
      Chg [bc, kc] w (w2.setCell ⟨bc, 0, none⟩ (.slice (some ⟨k2, 0, none⟩) KL.length p2)) :=
    ⟨(hC.chg g4 (by simpa using kcC.symm)).set 0 _, ho2.setOther (ho2.ne (hC.chg g4 (by simpa using kcC.symm))) _, (g4.sub (by simp)).setCell (Or.inl (by simp)) _⟩
  generalize w2.setCell _ _ = W at F ⊢
  obtain ⟨hC1, hO1, g5⟩ := F
  clear ho2 g4 f1 f2 w2
  have cnC : cn ≠ bc := hnc.ne hC
  have cnk : cn ≠ kc := hnc.ne2 hck
  have knC : kn ≠ bc := hnk.ne hC
  have krC : kr ≠ bc := hrk.ne hC
  have hN1 : Blk W bn 59 _ := hN.chg g5 (by simp [nbc, kcN.symm])
  have hnk1 : Own W 9 _ kn ks := hnk.chg g5 (by simp [knC, kbc])
  have hnc1 : Own W 34 _ cn cps := hnc.chg g5 (by simp [cnC, cnk])
  have hR1 : Blk W br 59 _ := hR.chg g5 (by simp [ncr.symm, kcR.symm])
  have hcc1 : Kids W (.slice ca cl ck) dcs cc := hcc.chg g5 (hcc.far hC hck)
  have hrc1 : Kids W (.slice ra rl rk) drs rc := hrc.chg g5 (hrc.far hC hck)
  have q1 := hC1.cell (k := 1) rfl
  have q2 := hR1.cell (k := 1) rfl
  clear e1 e2 e3 c0 c1 c2 c3
  go_wp2
  refine wp_region_parts (fun w' => w'.cell? ⟨bc, 1, none⟩ = some (.slice ca cl ck) ∧ w'.cell? ⟨br, 1, none⟩ = some (.slice ra rl rk))
    [(0, false), (1, false), (2, false), (3, false), (4, true), (5, false), (6, false), (7, false), (8, true)] [(9, true), (10, true), (11, true), (12, true)] (by kernel_rfl) (fun _ _ _ _ _ h => h) (by kernel_rfl) ⟨q1, q2⟩ ?_
  simp only [pick, List.map_cons, List.map_nil, List.getElem?_toArray, List.getElem?_cons_zero, List.getElem?_cons_succ]
  repeat (refine Heads.cons (v := ?_) ?_ ?_; rotate_left 1; (· (intro w' hw'; (first | (obtain ⟨_, _⟩ := hw' rfl; clear hw') | clear hw'); go_simp; (try with_reducible rfl); done)); simp only [Act.put, List.setIfInBounds_toArray, List.set_cons_zero, List.set_cons_succ])
  refine Heads.nil ?_
  obtain ⟨v3, dcs', w3, hr3, hk3, hd3, hd4, g6⟩ := append_kids (w := W.drew) hcc1 hrc1 hboth ok4 (by omega)
  obtain ⟨va, vl, vc, rfl⟩ := hk3.form
  refine Rest.cons (fun K hK => wp_append_eq _ _ 45 45 rfl _ _ rfl rfl hr3 ?_)
  refine hK.out _ _ (fun h => by cases h) ?_
  clear hK K hr3
  simp only [Act.put, List.setIfInBounds_toArray, List.set_cons_zero, List.set_cons_succ]
  have cdc : ∀ d ∈ dcs, d ≠ bc := fun d hd => by have := hcc.far hC hck d hd; simp at this; exact this.1
  have hC3 : Blk w3 bc 59 _ := Blk.chg hC1.drew g6 (fun h => cdc bc h rfl)
  have f1 := hC3.cell (k := 1) rfl
  have f2 := hC3.frozen 1
  refine Rest.cons (fun K hK => ?_)
  go_simp
  refine hK.out _ _ (fun h => by cases h) ?_
  clear hK K
  refine Rest.cons (fun K hK => ?_)
  go_simp
  refine hK.out _ _ (fun h => by cases h) ?_
  clear hK K
  refine Rest.cons (fun K hK => ?_)
  go_simp
  refine hK.out _ _ (fun h => by cases h) (Rest.nil ?_)
  clear hK K
  have fa := hcc1.far hC1 hO1
  have fb := hcc1.far hN1 hnk1
  have F : Blk (w3.setCell ⟨bc, 1, none⟩ (.slice va vl vc)) bc 59 [.slice (some ⟨k2, 0, none⟩) KL.length p2, .slice va vl vc] ∧
      Own (w3.setCell ⟨bc, 1, none⟩ (.slice va vl vc)) 9 (.slice (some ⟨k2, 0, none⟩) KL.length p2) k2 KL ∧ Kids (w3.setCell ⟨bc, 1, none⟩ (.slice va vl vc)) (.slice va vl vc) dcs' (cc ++ rc) ∧
      Chg (bc :: dcs) W (w3.setCell ⟨bc, 1, none⟩ (.slice va vl vc)) := by
    have g6' : Chg dcs W w3 := ⟨g6.os, g6.tape, g6.output, g6.size, g6.block⟩
    have h1 : Own w3 9 _ k2 KL := hO1.chg g6' (fun h => by have := fa k2 h; simp at this)
    refine ⟨hC3.set 1 _, h1.setOther (h1.ne hC3) _, ?_, (g6'.sub (by simp)).setCell (Or.inl (by simp)) _⟩
    rcases hk3 with h | ⟨d, rfl, h⟩
    · exact Or.inl h
    · exact Or.inr ⟨d, rfl, h.setOther (h.ne hC3) _⟩
  generalize w3.setCell _ _ = W3 at F ⊢
  obtain ⟨hC4, hO4, hk4, g7⟩ := F
  have g8 : Chg ([bc, kc] ++ dcs) w W3 := (g5.sub (by simp)).then g7 (by simp; exact fun a h => Or.inl (Or.inr (Or.inr h)))
  have nbd : bn ∉ bc :: dcs := by simp [nbc]; exact fun h => by have := fb bn h; simp at this
  have nkd : kn ∉ bc :: dcs := by simp [knC]; exact fun h => by have := fb kn h; simp at this
  have hN4 := hN1.chg g7 nbd
  have hnk4 := hnk1.chg g7 nkd
  have hnc4 := hnc1.chg g7 (by simp [cnC, dcn])
  clear hk3 g6 hC3 f1 f2 w3
  have c0 := hN4.cell (k := 0) rfl
  go_wp2_with fail
  refine (deleteS' W3 _ kn i (i + 1) ks _ _ rfl (by omega) hnk4 (by omega) (by omega) ok1).mono ?_
  rintro e w4 ⟨v4, rfl, ho4, g9⟩
  obtain ⟨p4, rfl⟩ := ho4.form
  have knN : kn ≠ bn := hnk.ne hN
  have hN5 := hN4.chg g9 (by simpa using knN.symm)
  have f1 := hN5.cell (k := 0) rfl
  have f2 := hN5.frozen 0
  have f3 := hN5.cell (k := 1) rfl
  have F : Blk (w4.setCell ⟨bn, 0, none⟩ (.slice (some ⟨kn, 0, none⟩) (ks.take i ++ ks.drop (i + 1)).length p4)) bn 59 [.slice (some ⟨kn, 0, none⟩) (ks.take i ++ ks.drop (i + 1)).length p4, .slice (some ⟨cn, 0, none⟩) cps.length (cps.length + csp.length)] ∧
      Own (w4.setCell ⟨bn, 0, none⟩ (.slice (some ⟨kn, 0, none⟩) (ks.take i ++ ks.drop (i + 1)).length p4)) 9 (.slice (some ⟨kn, 0, none⟩) (ks.take i ++ ks.drop (i + 1)).length p4) kn (ks.take i ++ ks.drop (i + 1)) ∧
      Chg [bn, kn] W3 (w4.setCell ⟨bn, 0, none⟩ (.slice (some ⟨kn, 0, none⟩) (ks.take i ++ ks.drop (i + 1)).length p4)) :=
    ⟨hN5.set 0 _, ho4.setOther knN _, (g9.sub (by simp)).setCell (Or.inl (by simp)) _⟩
  obtain ⟨KN, hKN⟩ : ∃ KN, KN = ks.take i ++ ks.drop (i + 1) := ⟨_, rfl⟩
  rw [← hKN] at F ⊢
  have HKN : Hid (KN = ks.take i ++ ks.drop (i + 1)) := hKN
  clear hKN ho4 g9 c0 hN5
  go_wp2_with fail
  obtain ⟨hN6, hO6, gA⟩ := F
  have cnN : cn ≠ bn := hnc.ne hN
  have cnkn : cn ≠ kn := hnc.ne2 hnk
  have hnc6 := hnc4.chg gA (by simp [cnN, cnkn])
  refine (deleteN' _ _ cn (i + 1) (i + 2) cps _ _ (by omega) (by omega) hnc6 (by omega) (by omega) ok2).mono ?_
  rintro e w5 ⟨v5, rfl, ho5, gB⟩
  obtain ⟨p5, rfl⟩ := ho5.form
  have hN7 := hN6.chg gB (by simpa using cnN.symm)
  have f4 := hN7.cell (k := 1) rfl
  have f5 := hN7.frozen 1
  obtain ⟨CN, hCN⟩ : ∃ CN, CN = cps.take (i + 1) ++ cps.drop (i + 2) := ⟨_, rfl⟩
  rw [← hCN] at ho5 ⊢
  have HCN : Hid (CN = cps.take (i + 1) ++ cps.drop (i + 2)) := hCN
  clear hCN f1 f2 f3 hN6
  have ltk : kn < w.heap.size := hnk.lt
  have ltc : cn < w.heap.size := hnc.lt
  have k2n : k2 ≠ kn := by rcases hk2 with h | h; rw [h]; exact kbc.symm; omega
  have g78 : Chg [bn, kn, cn] W3 w5 := (gA.sub (by simp)).then gB (by simp)
  have dW : ∀ d ∈ dcs', d ∈ dcs ∨ w.heap.size ≤ d := fun d hd => by
    rcases hd3 d hd with h | h
    · exact Or.inl h
    · right; exact Nat.le_trans g5.size h
  have dcn' : cn ∉ dcs' := fun h => by rcases dW cn h with h | h; exact dcn h; omega
  have fc := hk4.far hN4 hnk4
  have F : Blk (w5.setCell ⟨bn, 1, none⟩ (.slice (some ⟨cn, 0, none⟩) CN.length p5)) bn 59 [.slice (some ⟨kn, 0, none⟩) KN.length p4, .slice (some ⟨cn, 0, none⟩) CN.length p5] ∧
      Own (w5.setCell ⟨bn, 1, none⟩ (.slice (some ⟨cn, 0, none⟩) CN.length p5)) 9 (.slice (some ⟨kn, 0, none⟩) KN.length p4) kn KN ∧
      Own (w5.setCell ⟨bn, 1, none⟩ (.slice (some ⟨cn, 0, none⟩) CN.length p5)) 34 (.slice (some ⟨cn, 0, none⟩) CN.length p5) cn CN ∧
      Blk (w5.setCell ⟨bn, 1, none⟩ (.slice (some ⟨cn, 0, none⟩) CN.length p5)) bc 59 [.slice (some ⟨k2, 0, none⟩) KL.length p2, .slice va vl vc] ∧
      Own (w5.setCell ⟨bn, 1, none⟩ (.slice (some ⟨cn, 0, none⟩) CN.length p5)) 9 (.slice (some ⟨k2, 0, none⟩) KL.length p2) k2 KL ∧
      Kids (w5.setCell ⟨bn, 1, none⟩ (.slice (some ⟨cn, 0, none⟩) CN.length p5)) (.slice va vl vc) dcs' (cc ++ rc) ∧
      Chg ([bn, kn, cn, bc, kc] ++ dcs) w (w5.setCell ⟨bn, 1, none⟩ (.slice (some ⟨cn, 0, none⟩) CN.length p5)) := by
    have k2B : k2 ≠ bn := hO4.ne hN4
    have k2c : k2 ≠ cn := fun h => by subst h; exact (hnc4.ne2 hO4) rfl
    have gT : Chg [bn, kn, cn] W3 (w5.setCell ⟨bn, 1, none⟩ (.slice (some ⟨cn, 0, none⟩) CN.length p5)) := g78.setCell (Or.inl (by simp)) _
    refine ⟨hN7.set 1 _, (hO6.chg gB (by simpa using cnkn.symm)).setOther knN _, ho5.setOther cnN _, hC4.chg gT ?_, hO4.chg gT ?_, hk4.chg gT ?_, (g8.sub ?_).then gT (by simp)⟩
    · simp [nbc.symm, knC.symm, cnC.symm]
    · simp [k2B, k2n, k2c]
    · intro d hd
      have h1 := fc d hd
      have h2 : d ≠ cn := fun h => dcn' (h ▸ hd)
      simp at h1 ⊢
      exact ⟨h1.1, h1.2, h2⟩
    · simp
      intro a ha; simp [ha]
  clear hnc6 ho5 gA gB hO6 hN4 hnk4 hnc4 hN1 hnk1 hnc1
  go_wp2
  go_end0
  refine ⟨rfl, _, _, _, _, k2, dcs', F.1, ?_, ?_, F.2.2.2.1, ?_, F.2.2.2.2.2.1, hk2, dW, hd4, F.2.2.2.2.2.2⟩
  · rw [← HKN.out]; exact F.2.1
  · rw [← HCN.out]; exact F.2.2.1
  · rw [← HKL.out]; exact F.2.2.2.2.1
end Go.Proofs.Qxb6601743a
