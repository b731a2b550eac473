import Derived.Test.Qxb6601743aMrg
namespace Go.Proofs.Qxb6601743a
open Go.RowKit

theorem Own.drew {w : World} {e : TypeId} {v : Value} {b : Nat} {xs : List Value} (h : Own w e v b xs) : Own w.drew e v b xs := h
theorem Kids.drew {w : World} {v : Value} {bs : List Nat} {xs : List Value} (h : Kids w v bs xs) : Kids w.drew v bs xs := h
theorem Chg.undrew {S : List Nat} {w w' : World} (h : Chg S w.drew w') : Chg S w w' := ⟨h.os, h.tape, h.output, h.size, h.block⟩

theorem insertS' (w : World) (v : Value) (b vb i : Nat) (I : Int) (xs : List Value) (x : Value) (hI : I = i) (h : Own w 9 v b xs) (hsm : xs.length ≤ 1073741824) (hi : i ≤ xs.length)
    (hvb : Blk w vb 9 [x]) (hne : vb ≠ b) (h1x : x.oneCell' = true) (h1 : ∀ u ∈ xs, u.oneCell' = true) :
    Calls Try.prog 46 #[v, .int .i64 I, .slice (some ⟨vb, 0, none⟩) 1 1] w fun en w' =>
      ∃ v', en = .returned v' ∧ ∃ b', Own w' 9 v' b' (xs.take i ++ x :: xs.drop i) ∧ (b' = b ∨ w.heap.size ≤ b') ∧ Chg [b] w w' := by
  subst hI; exact insertS w v b vb i xs x h hsm hi hvb hne h1x h1

theorem insertN' (w : World) (v : Value) (b vb i : Nat) (I : Int) (xs : List Value) (x : Value) (hI : I = i) (h : Own w 34 v b xs) (hsm : xs.length ≤ 1073741824) (hi : i ≤ xs.length)
    (hvb : Blk w vb 34 [x]) (hne : vb ≠ b) (h1x : x.oneCell' = true) (h1 : ∀ u ∈ xs, u.oneCell' = true) :
    Calls Try.prog 51 #[v, .int .i64 I, .slice (some ⟨vb, 0, none⟩) 1 1] w fun en w' =>
      ∃ v', en = .returned v' ∧ ∃ b', Own w' 34 v' b' (xs.take i ++ x :: xs.drop i) ∧ (b' = b ∨ w.heap.size ≤ b') ∧ Chg [b] w w' := by
  subst hI; exact insertN w v b vb i xs x h hsm hi hvb hne h1x h1

/-- n.leaf() -/
theorem leaf_any (w : World) (b : Nat) (kv : Value) (a : Option Addr) (n c : Nat) (h : Blk w b 59 [kv, .slice a n c]) :
    Calls Try.prog 45 #[ptr b] w fun e w' => e = .returned (.bool a.isNone) ∧ w' = w := by
  have hne := fun w a n c n2 c2 => Lib.run_eql_slice_nil (P := Try.prog) w 45 34 a n c n2 c2 Try.underlying45
  have c1 := h.cell (k := 1) rfl
  clear h
  go_enter Try.func45, Try.ntmps45
  go_wp2
  go_ret
  exact ⟨rfl, rfl⟩

set_option maxHeartbeats 4000000 in
set_option maxRecDepth 100000 in
theorem fill_left (w : World) (bn kn cn bc kc bl kl i : Nat) (dcs dls : List Nat) (nkv ncv ckv ccv lkv lcv : Value) (x y : ByteArray) (ks cps kcs kls cc lc : List Value)
    (hN : Blk w bn 59 [nkv, ncv]) (hnk : Own w 9 nkv kn ks) (hnc : Own w 34 ncv cn cps) (hC : Blk w bc 59 [ckv, ccv]) (hck : Own w 9 ckv kc kcs) (hL : Blk w bl 59 [lkv, lcv]) (hlk : Own w 9 lkv kl (kls ++ [.string y]))
    (hcc : Kids w ccv dcs cc) (hlc : Kids w lcv dls lc) (hboth : dcs = [] ↔ dls = [])
    (hi0 : 0 < i) (h1 : cps[i]? = some (ptr bc)) (h2 : cps[i - 1]? = some (ptr bl)) (hx : ks[i - 1]? = some (.string x)) (hll : 31 ≤ kls.length)
    (nbc0 : bn ≠ bc) (nbl : bn ≠ bl) (ncl : bc ≠ bl) (kbc : kn ≠ kc) (kbl : kn ≠ kl) (kcl : kc ≠ kl) (ddl : ∀ d ∈ dls, d ∉ dcs)
    (ok3 : ∀ u ∈ kcs, u.oneCell' = true) (ok4 : ∀ u ∈ kls, u.oneCell' = true) (ok5 : ∀ u ∈ cc, ∃ q, u = .pointer q) (ok6 : ∀ u ∈ lc, ∃ q, u = .pointer q) (hlne : dls ≠ [] → 0 < lc.length)
    (s1 : ks.length ≤ 1000000) (s2 : cps.length ≤ 1000000) (s3 : kcs.length ≤ 1000000) (s4 : kls.length ≤ 1000000) (s5 : cc.length ≤ 1000000) (s6 : lc.length ≤ 1000000) :
    Calls Try.prog 42 #[ptr bn, .int .i64 i] w fun en w' => en = .returned (.int .i64 i) ∧ ∃ ckv' ccv' kc' dcs' lkv' lcv', Blk w' bn 59 [nkv, ncv] ∧ Own w' 9 nkv kn (ks.set (i - 1) (.string y)) ∧
      Blk w' bc 59 [ckv', ccv'] ∧ Own w' 9 ckv' kc' (.string x :: kcs) ∧ Kids w' ccv' dcs' (lc.drop (lc.length - 1) ++ cc) ∧ Blk w' bl 59 [lkv', lcv'] ∧ Own w' 9 lkv' kl kls ∧ Kids w' lcv' dls (lc.take (lc.length - 1)) ∧
      (kc' = kc ∨ w.heap.size ≤ kc') ∧ (∀ d ∈ dcs', d ∈ dcs ∨ w.heap.size ≤ d) ∧ (dcs' = [] ↔ dcs = []) ∧ Chg ([bc, kc, kn, bl, kl] ++ dcs ++ dls) w w' := by
  have li : i - 1 < ks.length := (List.getElem?_eq_some_iff.1 hx).1
  have lc' : i < cps.length := (List.getElem?_eq_some_iff.1 h1).1
  have b1 : (i : Int) < (cps.length : Int) := by omega
  have b2 : (0 : Int) < (i : Int) := by omega
  have b3 : IntKind.i64.wrap ((i : Int) - 1) = (i : Int) - 1 := by rw [IntKind.wrap_i64]; omega
  have b4 : (0 : Int) ≤ (i : Int) - 1 := by omega
  have b5 : ((i : Int) - 1).toNat = i - 1 := by omega
  have b6 : (i : Int) - 1 < (ks.length : Int) := by omega
  have b7 : (i : Int) - 1 < (cps.length : Int) := by omega
  have b8 : (31 : Int) < ((kls.length + 1 : Nat) : Int) := by omega
  have b9 : (1 : Int) ≤ (i : Int) := by omega
  obtain ⟨ca, cl, ck, rfl⟩ := hcc.form
  obtain ⟨la, ll, lk, rfl⟩ := hlc.form
  obtain ⟨nsp, rfl, hnkB, hnkm⟩ := id hnk
  obtain ⟨csp, rfl, hncB, hncm⟩ := id hnc
  obtain ⟨ckp, rfl⟩ := hck.form
  obtain ⟨lkp, hlkv⟩ := hlk.form
  rw [List.length_append, List.length_singleton] at hlkv
  subst hlkv
  have c0 := hN.cell (k := 0) rfl
  have c1 := hN.cell (k := 1) rfl
  have c2 : w.cell? ⟨cn, i, none⟩ = some (ptr bc) := hncB.cell (by rw [List.getElem?_append_left (by omega)]; exact h1)
  have c3 : w.cell? ⟨cn, i - 1, none⟩ = some (ptr bl) := hncB.cell (by rw [List.getElem?_append_left (by omega)]; exact h2)
  have c4 := hL.cell (k := 0) rfl
  have c5 := hC.cell (k := 0) rfl
  have c6 : w.cell? ⟨kn, i - 1, none⟩ = some (.string x) := hnkB.cell (by rw [List.getElem?_append_left (by omega)]; exact hx)
  go_enter Try.func42, Try.ntmps42
  go_wp2
  -- BODY
  -- c.keys = slices.Insert(c.keys, 0, n.keys[i-1])
  refine wp_region_parts (fun w' => w'.cell? ⟨bc, 0, none⟩ = some (.slice (some ⟨kc, 0, none⟩) kcs.length ckp) ∧ w'.cell? ⟨bn, 0, none⟩ = some (.slice (some ⟨kn, 0, none⟩) ks.length (ks.length + nsp.length)) ∧ w'.cell? ⟨kn, i - 1, none⟩ = some (.string x))
    [(0, false), (1, false), (2, false), (3, false), (4, true), (5, false), (6, false), (7, false), (8, true), (9, false), (10, false), (11, false), (12, true)] [(13, false), (14, true), (15, true), (16, true), (17, true)] (by kernel_rfl) (fun _ _ _ _ _ h => h) (by kernel_rfl) ⟨c5, c0, c6⟩ ?_
  simp only [pick, List.map_cons, List.map_nil, List.getElem?_toArray, List.getElem?_cons_zero, List.getElem?_cons_succ]
  repeat (refine Heads.cons (v := ?_) ?_ ?_; rotate_left 1; (· (intro w' hw'; (first | (obtain ⟨_, _, _⟩ := hw' rfl; clear hw') | clear hw'); go_simp; (try with_reducible rfl); done)); simp only [Act.put, List.setIfInBounds_toArray, List.set_cons_zero, List.set_cons_succ])
  refine Heads.nil ?_
  have kcC : kc ≠ bc := hck.ne hC
  have g1 : Chg [] w ((w.alloc (.cells #[.string x] 9)).drew) := ((Chg.refl _ _).alloc _).drew
  have lx : Blk ((w.alloc (.cells #[.string x] 9)).drew) w.heap.size 9 [.string x] := Blk.new w [.string x] 9
  refine Rest.cons (fun K hK => ?_)
  go_simp
  refine hK.out _ _ (fun _ _ => ⟨g1.cell c5, g1.cell c0, g1.cell c6⟩) ?_
  clear hK K
  refine Rest.cons (fun K hK => ?_)
  go_simp
  refine (insertS' _ _ kc w.heap.size 0 _ kcs (.string x) rfl (hck.chg g1 (by simp)) (by omega) (by omega) lx (by have := hck.lt; omega) rfl ok3).mono ?_
  rintro e w1 ⟨v1, rfl, k1, ho1, hk1, g2⟩
  refine hK.out _ _ (fun h => by cases h) ?_
  clear hK K
  simp only [List.take_zero, List.drop_zero, List.nil_append] at ho1
  obtain ⟨KC, hKC⟩ : ∃ KC, KC = Value.string x :: kcs := ⟨_, rfl⟩
  rw [← hKC] at ho1
  have HKC : Hid (KC = Value.string x :: kcs) := hKC
  clear hKC
  obtain ⟨p1, rfl⟩ := ho1.form
  have g3 : Chg [kc] w w1 := (g1.sub (by simp)).then g2 (by simp)
  have k1w : k1 = kc ∨ w.heap.size ≤ k1 := by
    rcases hk1 with h | h
    · exact Or.inl h
    · right; simp at h; omega
  have hC1 := hC.chg g3 (by simpa using kcC.symm)
  have f1 := hC1.cell (k := 0) rfl
  have f2 := hC1.frozen 0
  refine Rest.cons (fun K hK => ?_)
  go_simp
  refine hK.out _ _ (fun h => by cases h) ?_
  clear hK K
  refine Rest.cons (fun K hK => ?_)
  go_simp
  refine hK.out _ _ (fun h => by cases h) ?_
  clear hK K
  refine Rest.cons (fun K hK => ?_)
  go_simp
  refine hK.out _ _ (fun h => by cases h) (Rest.nil ?_)
  clear hK K
  have F : Blk (w1.setCell ⟨bc, 0, none⟩ (.slice (some ⟨k1, 0, none⟩) KC.length p1)) bc 59 [.slice (some ⟨k1, 0, none⟩) KC.length p1, .slice ca cl ck] ∧
      Own (w1.setCell ⟨bc, 0, none⟩ (.slice (some ⟨k1, 0, none⟩) KC.length p1)) 9 (.slice (some ⟨k1, 0, none⟩) KC.length p1) k1 KC ∧ Chg [bc, kc] w (w1.setCell ⟨bc, 0, none⟩ (.slice (some ⟨k1, 0, none⟩) KC.length p1)) :=
    ⟨hC1.set 0 _, ho1.setOther (ho1.ne hC1) _, (g3.sub (by simp)).setCell (Or.inl (by simp)) _⟩
  generalize w1.setCell _ _ = W at F ⊢
  obtain ⟨hC2, hO2, g4⟩ := F
  clear ho1 hC1 f1 f2 g3 g2 g1 lx w1
  -- n.keys[i-1] = l.keys[len(l.keys)-1]
  have knC : kn ≠ bc := hnk.ne hC
  have knN : kn ≠ bn := hnk.ne hN
  have knL : kn ≠ bl := hnk.ne hL
  have klC : kl ≠ bc := hlk.ne hC
  have kcN : kc ≠ bn := hck.ne hN
  have kcL : kc ≠ bl := hck.ne hL
  have nbc : bn ≠ bc := nbc0
  have hN2 := hN.chg g4 (by simp [nbc, kcN.symm])
  have hnkB2 := hnkB.chg g4 (by simp [knC, kbc])
  have hL2 := hL.chg g4 (by simp [ncl.symm, kcL.symm])
  have hlk2 := hlk.chg g4 (by simp [klC, kcl.symm])
  obtain ⟨lsp, hlv, hlkB2, hlkm⟩ := id hlk2
  have d1 := hN2.cell (k := 0) rfl
  have d2 := hL2.cell (k := 0) rfl
  have d3 : W.cell? ⟨kl, kls.length, none⟩ = some (.string y) := hlkB2.cell (by simp)
  have d4 : W.cell? ⟨kn, i - 1, none⟩ = some (.string x) := hnkB2.cell (by rw [List.getElem?_append_left (by omega)]; exact hx)
  have d5 := hnkB2.frozen (i - 1)
  have e1 : IntKind.i64.wrap (kls.length : Int) = (kls.length : Int) := by rw [IntKind.wrap_i64]; omega
  have e2 : (kls.length : Int) < (kls.length : Int) + 1 := by omega
  clear c0 c1 c2 c3 c4 c5 c6 hlv
  go_wp2
  refine wp_region_parts (fun w' => w'.cell? ⟨bn, 0, none⟩ = some (.slice (some ⟨kn, 0, none⟩) ks.length (ks.length + nsp.length)) ∧ w'.cell? ⟨bl, 0, none⟩ = some (.slice (some ⟨kl, 0, none⟩) (kls.length + 1) lkp) ∧ w'.cell? ⟨kl, kls.length, none⟩ = some (.string y))
    [(0, false), (1, false), (2, false), (3, true), (4, false), (5, false), (6, false), (7, false), (8, false), (9, true), (10, false), (11, false), (12, false), (13, true), (14, false), (15, false), (16, false), (17, true)] [(18, true), (19, true)] (by kernel_rfl) (fun _ _ _ _ _ h => h) (by kernel_rfl) ⟨d1, d2, d3⟩ ?_
  simp only [pick, List.map_cons, List.map_nil, List.getElem?_toArray, List.getElem?_cons_zero, List.getElem?_cons_succ]
  repeat (refine Heads.cons (v := ?_) ?_ ?_; rotate_left 1; (· (intro w' hw'; (first | (obtain ⟨_, _, _⟩ := hw' rfl; clear hw') | clear hw'); go_simp; (try with_reducible rfl); done)); simp only [Act.put, List.setIfInBounds_toArray, List.set_cons_zero, List.set_cons_succ])
  refine Heads.nil ?_
  refine Rest.cons (fun K hK => ?_)
  go_simp
  refine hK.out _ _ (fun h => by cases h) ?_
  clear hK K
  refine Rest.cons (fun K hK => ?_)
  go_simp
  refine hK.out _ _ (fun h => by cases h) (Rest.nil ?_)
  clear hK K
  have HB3 : Blk (W.drew.setCell ⟨kn, i - 1, none⟩ (.string y)) kn 9 ((ks.set (i - 1) (.string y)) ++ nsp) := by
    have := hnkB2.drew.set (i - 1) (.string y)
    rwa [List.set_append, if_pos (by omega)] at this
  have ltk : kn < w.heap.size := hnk.lt
  have ltl : kl < w.heap.size := hlk.lt
  have k1n : k1 ≠ kn := by rcases k1w with h | h; rw [h]; exact kbc.symm; omega
  have k1l : k1 ≠ kl := by rcases k1w with h | h; rw [h]; exact kcl; omega
  obtain ⟨KN, hKN⟩ : ∃ KN, KN = ks.set (i - 1) (Value.string y) := ⟨_, rfl⟩
  have lKN : KN.length = ks.length := by rw [hKN]; simp
  have F : Blk (W.setCell ⟨kn, i - 1, none⟩ (.string y)).drew bn 59 [.slice (some ⟨kn, 0, none⟩) ks.length (ks.length + nsp.length), .slice (some ⟨cn, 0, none⟩) cps.length (cps.length + csp.length)] ∧
      Own (W.setCell ⟨kn, i - 1, none⟩ (.string y)).drew 9 (.slice (some ⟨kn, 0, none⟩) ks.length (ks.length + nsp.length)) kn KN ∧
      Blk (W.setCell ⟨kn, i - 1, none⟩ (.string y)).drew bc 59 [.slice (some ⟨k1, 0, none⟩) KC.length p1, .slice ca cl ck] ∧ Own (W.setCell ⟨kn, i - 1, none⟩ (.string y)).drew 9 (.slice (some ⟨k1, 0, none⟩) KC.length p1) k1 KC ∧
      Blk (W.setCell ⟨kn, i - 1, none⟩ (.string y)).drew bl 59 [.slice (some ⟨kl, 0, none⟩) (kls.length + 1) lkp, .slice la ll lk] ∧
      Own (W.setCell ⟨kn, i - 1, none⟩ (.string y)).drew 9 (.slice (some ⟨kl, 0, none⟩) (kls.length + 1) lkp) kl (kls ++ [.string y]) ∧
      Chg [bc, kc, kn] w (W.setCell ⟨kn, i - 1, none⟩ (.string y)).drew := by
    refine ⟨(hN2.setOther knN.symm _).drew, ⟨nsp, by rw [lKN], by rw [hKN]; exact HB3, by rw [lKN]; exact hnkm⟩, (hC2.setOther knC.symm _).drew, hO2.setOther k1n _, (hL2.setOther knL.symm _).drew, hlk2.setOther kbl.symm _, ((g4.sub ?_).setCell (Or.inl (by simp)) _).drew⟩
    intro k hk; simp at hk ⊢; rcases hk with h | h <;> simp [h]
  generalize World.drew (World.setCell W _ _) = W2 at F ⊢
  obtain ⟨hN3, hnk3, hC3, hO3, hL3, hlk3, g5⟩ := F
  have HKN : Hid (KN = ks.set (i - 1) (Value.string y)) := hKN
  clear hKN HB3 hN2 hnkB2 hL2 hlk2 hlkB2 d1 d2 d3 d4 d5 hC2 hO2 g4 lKN W
  have d2 := hL3.cell (k := 0) rfl
  go_wp2
  refine wp_region_parts (fun w' => w'.cell? ⟨bl, 0, none⟩ = some (.slice (some ⟨kl, 0, none⟩) (kls.length + 1) lkp))
    [(0, false), (1, false), (2, false), (3, false), (4, true), (5, false), (6, false), (7, false), (8, true), (9, false), (10, false), (11, false), (12, false), (13, false), (14, true), (15, false)] [(16, true), (17, true), (18, true), (19, true)] (by kernel_rfl) (fun _ _ _ _ _ h => h) (by kernel_rfl) d2 ?_
  simp only [pick, List.map_cons, List.map_nil, List.getElem?_toArray, List.getElem?_cons_zero, List.getElem?_cons_succ]
  repeat (refine Heads.cons (v := ?_) ?_ ?_; rotate_left 1; (· (intro w' hw'; (first | (have hw2 := hw' rfl; clear hw') | clear hw'); go_simp; (try with_reducible rfl); done)); simp only [Act.put, List.setIfInBounds_toArray, List.set_cons_zero, List.set_cons_succ])
  refine Heads.nil ?_
  refine Rest.cons (fun K hK => ?_)
  go_simp
  refine (deleteS' W2.drew _ kl kls.length (kls.length + 1) (kls ++ [Value.string y]) _ _ rfl (by omega) hlk3.drew (by omega) (by simp) (by simpa [or_imp, forall_and, Value.oneCell'] using ok4)).mono ?_
  rintro e w3 ⟨v3, rfl, ho3, g6⟩
  refine hK.out _ _ (fun h => by cases h) ?_
  clear hK K
  have eK : (kls ++ [Value.string y]).take kls.length ++ (kls ++ [Value.string y]).drop (kls.length + 1) = kls := by simp
  rw [eK] at ho3
  clear eK
  obtain ⟨p3, rfl⟩ := ho3.form
  have klL : kl ≠ bl := hlk.ne hL
  have hL4 := Blk.chg hL3.drew g6 (by simpa using klL.symm)
  have f1 := hL4.cell (k := 0) rfl
  have f2 := hL4.frozen 0
  refine Rest.cons (fun K hK => ?_)
  go_simp
  refine hK.out _ _ (fun h => by cases h) ?_
  clear hK K
  refine Rest.cons (fun K hK => ?_)
  go_simp
  refine hK.out _ _ (fun h => by cases h) ?_
  clear hK K
  refine Rest.cons (fun K hK => ?_)
  go_simp
  refine hK.out _ _ (fun h => by cases h) (Rest.nil ?_)
  clear hK K
  have klN : kl ≠ bn := hlk.ne hN
  have F : Blk (w3.setCell ⟨bl, 0, none⟩ (.slice (some ⟨kl, 0, none⟩) kls.length p3)) bl 59 [.slice (some ⟨kl, 0, none⟩) kls.length p3, .slice la ll lk] ∧
      Own (w3.setCell ⟨bl, 0, none⟩ (.slice (some ⟨kl, 0, none⟩) kls.length p3)) 9 (.slice (some ⟨kl, 0, none⟩) kls.length p3) kl kls ∧
      Chg [bl, kl] W2 (w3.setCell ⟨bl, 0, none⟩ (.slice (some ⟨kl, 0, none⟩) kls.length p3)) :=
    ⟨hL4.set 0 _, ho3.setOther klL _, (g6.undrew.sub (by simp)).setCell (Or.inl (by simp)) _⟩
  generalize w3.setCell _ _ = W3 at F ⊢
  obtain ⟨hL5, hlk5, g7⟩ := F
  clear ho3 hL4 f1 f2 g6 w3
  have k1L : k1 ≠ bl := hO3.ne hL3
  have hN5 := hN3.chg g7 (by simp [nbl, klN.symm])
  have hnk5 := hnk3.chg g7 (by simp [knL, kbl])
  have hC5 := hC3.chg g7 (by simp [ncl, klC.symm])
  have hO5 := hO3.chg g7 (by simp [k1L, k1l])
  have g8 : Chg [bc, kc, kn, bl, kl] w W3 := (g5.sub (T := [bc, kc, kn, bl, kl]) (by simp)).then g7 (by simp)
  clear hN3 hnk3 hC3 hO3 hL3 hlk3 g5 g7 d2 W2
  go_wp2_with fail
  refine (leaf_any _ bl _ la ll lk hL5).mono ?_
  rintro e w4 ⟨rfl, rfl⟩
  have gB : ∀ d ∈ dcs, d ∉ [bc, kc] ∧ d ∉ [bn, kn] ∧ d ∉ [bl, kl] := fun d hd => ⟨hcc.far hC hck d hd, hcc.far hN hnk d hd, hcc.far hL hlk d hd⟩
  have gD : ∀ d ∈ dls, d ∉ [bc, kc] ∧ d ∉ [bn, kn] ∧ d ∉ [bl, kl] := fun d hd => ⟨hlc.far hC hck d hd, hlc.far hN hnk d hd, hlc.far hL hlk d hd⟩
  have hcc5 : Kids w4 (.slice ca cl ck) dcs cc := hcc.chg g8 (fun d hd => by have := gB d hd; simp at this ⊢; simp [this])
  have hlc5 : Kids w4 (.slice la ll lk) dls lc := hlc.chg g8 (fun d hd => by have := gD d hd; simp at this ⊢; simp [this])
  by_cases hleaf : dls = []
  · obtain ⟨e1, e2, e3⟩ : Value.slice la ll lk = .slice none 0 0 ∧ dls = [] ∧ lc = [] := by
      rcases hlc with h | ⟨b, h, _⟩
      · exact h
      · rw [hleaf] at h; cases h
    obtain ⟨rfl, rfl, rfl⟩ : la = none ∧ ll = 0 ∧ lk = 0 := by simpa using e1
    subst e3
    clear e1 e2
    have hN5' : Hid (Blk w4 bn 59 [.slice (some ⟨kn, 0, none⟩) ks.length (ks.length + nsp.length), .slice (some ⟨cn, 0, none⟩) cps.length (cps.length + csp.length)]) := hN5
    clear hN5
    go_wp2
    go_ret
    refine ⟨rfl, _, _, k1, dcs, _, _, hN5'.out, ?_, hC5, ?_, hcc5, hL5, hlk5, hlc5, k1w, fun d hd => Or.inl hd, Iff.rfl, g8.sub (by simp)⟩
    · rw [← HKN.out]; exact hnk5
    · rw [← HKC.out]; exact hO5
  · obtain ⟨dl, rfl, hld⟩ : ∃ dl, dls = [dl] ∧ Own w4 34 (.slice la ll lk) dl lc := by
      rcases hlc5 with ⟨_, h, _⟩ | h
      · exact absurd h hleaf
      · exact h
    obtain ⟨dc, rfl, hcd⟩ : ∃ dc, dcs = [dc] ∧ Own w4 34 (.slice ca cl ck) dc cc := by
      rcases hcc5 with ⟨_, h, _⟩ | h
      · exact absurd (hboth.1 h) hleaf
      · exact h
    have hne := hlne hleaf
    obtain ⟨l0, z, rfl⟩ : ∃ l0 z, lc = l0 ++ [z] := ⟨lc.dropLast, lc.getLast (List.ne_nil_of_length_pos hne), (List.dropLast_concat_getLast _).symm⟩
    obtain ⟨q, rfl⟩ := ok6 z (by simp)
    have okc : ∀ u ∈ cc, u.oneCell' = true := fun u hu => by obtain ⟨q, rfl⟩ := ok5 u hu; rfl
    have okl : ∀ u ∈ l0 ++ [Value.pointer q], u.oneCell' = true := fun u hu => by obtain ⟨q, rfl⟩ := ok6 u hu; rfl
    have lcd : dl ≠ dc := fun h => ddl dl (by simp) (by simp [h])
    have tk : (l0 ++ [Value.pointer q]).take ((l0 ++ [Value.pointer q]).length - 1) = l0 := by simp
    have dk : (l0 ++ [Value.pointer q]).drop ((l0 ++ [Value.pointer q]).length - 1) = [Value.pointer q] := by simp
    have HT : Hid ((l0 ++ [Value.pointer q]).take ((l0 ++ [Value.pointer q]).length - 1) = l0 ∧ (l0 ++ [Value.pointer q]).drop ((l0 ++ [Value.pointer q]).length - 1) = [Value.pointer q]) := ⟨tk, dk⟩
    have hl0 : l0.length ≤ 1000000 := by simp at s6; omega
    have ltw : dl < w.heap.size := by
      rcases hlc with ⟨_, h, _⟩ | ⟨b, h, ho⟩
      · cases h
      · obtain rfl : dl = b := by simpa using h
        exact ho.lt
    clear tk dk hlc5 hcc5 hlc hcc hlne ok5 ok6
    obtain ⟨rfl, rfl⟩ : la = some ⟨dl, 0, none⟩ ∧ ll = l0.length + 1 := by
      obtain ⟨sp, h, _⟩ := hld; simp at h; exact ⟨h.1, h.2.1⟩
    obtain ⟨rfl, rfl⟩ : ca = some ⟨dc, 0, none⟩ ∧ cl = cc.length := by
      obtain ⟨sp, h, _⟩ := hcd; simp at h; exact ⟨h.1, h.2.1⟩
    obtain ⟨lsp', hlv', hldB, hlm'⟩ := id hld
    clear hlv' hlm'
    have d1 := hC5.cell (k := 1) rfl
    have d2 := hL5.cell (k := 1) rfl
    have d3 : w4.cell? ⟨dl, l0.length, none⟩ = some (.pointer q) := hldB.cell (by simp)
    have e1 : IntKind.i64.wrap (l0.length : Int) = (l0.length : Int) := by rw [IntKind.wrap_i64]; omega
    have e2 : (l0.length : Int) < (l0.length : Int) + 1 := by omega
    have ltd : dl < w4.heap.size := hld.lt
    have dcB : dc ≠ bc := hcd.ne hC5
    have dcL : dc ≠ bl := hcd.ne hL5
    go_wp2
    refine wp_region_parts (fun w' => w'.cell? ⟨bc, 1, none⟩ = some (.slice (some ⟨dc, 0, none⟩) cc.length ck) ∧ w'.cell? ⟨bl, 1, none⟩ = some (.slice (some ⟨dl, 0, none⟩) (l0.length + 1) lk) ∧ w'.cell? ⟨dl, l0.length, none⟩ = some (.pointer q))
      [(0, false), (1, false), (2, false), (3, false), (4, true), (5, false), (6, false), (7, false), (8, true), (9, false), (10, false), (11, false), (12, true), (13, false), (14, false), (15, false), (16, true)] [(17, false), (18, true), (19, true), (20, true), (21, true)] (by kernel_rfl) (fun _ _ _ _ _ h => h) (by kernel_rfl) ⟨d1, d2, d3⟩ ?_
    simp only [pick, List.map_cons, List.map_nil, List.getElem?_toArray, List.getElem?_cons_zero, List.getElem?_cons_succ]
    repeat (refine Heads.cons (v := ?_) ?_ ?_; rotate_left 1; (· (intro w' hw'; (first | (obtain ⟨_, _, _⟩ := hw' rfl; clear hw') | clear hw'); go_simp; (try with_reducible rfl); done)); simp only [Act.put, List.setIfInBounds_toArray, List.set_cons_zero, List.set_cons_succ])
    refine Heads.nil ?_
    have g9 : Chg [] w4 ((w4.alloc (.cells #[.pointer q] 34)).drew) := ((Chg.refl _ _).alloc _).drew
    have lx : Blk ((w4.alloc (.cells #[.pointer q] 34)).drew) w4.heap.size 34 [.pointer q] := Blk.new w4 [.pointer q] 34
    refine Rest.cons (fun K hK => ?_)
    go_simp
    refine hK.out _ _ (fun _ _ => ⟨g9.cell d1, g9.cell d2, g9.cell d3⟩) ?_
    clear hK K
    refine Rest.cons (fun K hK => ?_)
    go_simp
    refine (insertN' _ _ dc w4.heap.size 0 _ cc (.pointer q) rfl (hcd.chg g9 (by simp)) (by omega) (by omega) lx (by have := hcd.lt; omega) rfl okc).mono ?_
    rintro e w5 ⟨v5, rfl, d5, ho5, hd5, gA⟩
    refine hK.out _ _ (fun h => by cases h) ?_
    clear hK K
    simp only [List.take_zero, List.drop_zero, List.nil_append] at ho5
    obtain ⟨CC, hCC⟩ : ∃ CC, CC = Value.pointer q :: cc := ⟨_, rfl⟩
    rw [← hCC] at ho5
    have HCC : Hid (CC = Value.pointer q :: cc) := hCC
    clear hCC
    obtain ⟨p5, rfl⟩ := ho5.form
    have gC : Chg [dc] w4 w5 := (g9.sub (by simp)).then gA (by simp)
    have d5w : d5 = dc ∨ w.heap.size ≤ d5 := by
      rcases hd5 with h | h
      · exact Or.inl h
      · right; simp at h; have := g8.size; omega
    have hC6 := hC5.chg gC (by simpa using dcB.symm)
    have f1 := hC6.cell (k := 1) rfl
    have f2 := hC6.frozen 1
    refine Rest.cons (fun K hK => ?_)
    go_simp
    refine hK.out _ _ (fun h => by cases h) ?_
    clear hK K
    refine Rest.cons (fun K hK => ?_)
    go_simp
    refine hK.out _ _ (fun h => by cases h) ?_
    clear hK K
    refine Rest.cons (fun K hK => ?_)
    go_simp
    refine hK.out _ _ (fun h => by cases h) (Rest.nil ?_)
    clear hK K
    have F : Blk (w5.setCell ⟨bc, 1, none⟩ (.slice (some ⟨d5, 0, none⟩) CC.length p5)) bc 59 [.slice (some ⟨k1, 0, none⟩) KC.length p1, .slice (some ⟨d5, 0, none⟩) CC.length p5] ∧
        Own (w5.setCell ⟨bc, 1, none⟩ (.slice (some ⟨d5, 0, none⟩) CC.length p5)) 34 (.slice (some ⟨d5, 0, none⟩) CC.length p5) d5 CC ∧ Chg [bc, dc] w4 (w5.setCell ⟨bc, 1, none⟩ (.slice (some ⟨d5, 0, none⟩) CC.length p5)) :=
      ⟨hC6.set 1 _, ho5.setOther (ho5.ne hC6) _, (gC.sub (by simp)).setCell (Or.inl (by simp)) _⟩
    generalize w5.setCell _ _ = W5 at F ⊢
    obtain ⟨hC7, hO7, gE⟩ := F
    clear ho5 hC6 f1 f2 gC gA g9 lx hd5 w5
    have dlB : dl ≠ bc := hld.ne hC5
    have dlL : dl ≠ bl := hld.ne hL5
    have d5l : d5 ≠ dl := by
      rcases d5w with h | h
      · rw [h]; exact lcd.symm
      · omega
    have hL7 := hL5.chg gE (by simp [ncl.symm, dcL.symm])
    have hld7 := hld.chg gE (by simp [dlB, lcd])
    have d2 := hL7.cell (k := 1) rfl
    clear d1 d3
    go_wp2
    refine wp_region_parts (fun w' => w'.cell? ⟨bl, 1, none⟩ = some (.slice (some ⟨dl, 0, none⟩) (l0.length + 1) lk))
      [(0, false), (1, false), (2, false), (3, false), (4, true), (5, false), (6, false), (7, false), (8, true), (9, false), (10, false), (11, false), (12, false), (13, false), (14, true), (15, false)] [(16, true), (17, true), (18, true), (19, true)] (by kernel_rfl) (fun _ _ _ _ _ h => h) (by kernel_rfl) d2 ?_
    simp only [pick, List.map_cons, List.map_nil, List.getElem?_toArray, List.getElem?_cons_zero, List.getElem?_cons_succ]
    repeat (refine Heads.cons (v := ?_) ?_ ?_; rotate_left 1; (· (intro w' hw'; (first | (have hw2 := hw' rfl; clear hw') | clear hw'); go_simp; (try with_reducible rfl); done)); simp only [Act.put, List.setIfInBounds_toArray, List.set_cons_zero, List.set_cons_succ])
    refine Heads.nil ?_
    refine Rest.cons (fun K hK => ?_)
    go_simp
    refine (deleteN' W5.drew _ dl l0.length (l0.length + 1) (l0 ++ [Value.pointer q]) _ _ rfl (by omega) hld7.drew (by omega) (by simp) okl).mono ?_
    rintro e w6 ⟨v6, rfl, ho6, gF⟩
    refine hK.out _ _ (fun h => by cases h) ?_
    clear hK K
    have eK : (l0 ++ [Value.pointer q]).take l0.length ++ (l0 ++ [Value.pointer q]).drop (l0.length + 1) = l0 := by simp
    rw [eK] at ho6
    clear eK
    obtain ⟨p6, rfl⟩ := ho6.form
    have hL8 := Blk.chg hL7.drew gF (by simpa using dlL.symm)
    have f1 := hL8.cell (k := 1) rfl
    have f2 := hL8.frozen 1
    refine Rest.cons (fun K hK => ?_)
    go_simp
    refine hK.out _ _ (fun h => by cases h) ?_
    clear hK K
    refine Rest.cons (fun K hK => ?_)
    go_simp
    refine hK.out _ _ (fun h => by cases h) ?_
    clear hK K
    refine Rest.cons (fun K hK => ?_)
    go_simp
    refine hK.out _ _ (fun h => by cases h) (Rest.nil ?_)
    clear hK K
    have F : Blk (w6.setCell ⟨bl, 1, none⟩ (.slice (some ⟨dl, 0, none⟩) l0.length p6)) bl 59 [.slice (some ⟨kl, 0, none⟩) kls.length p3, .slice (some ⟨dl, 0, none⟩) l0.length p6] ∧
        Own (w6.setCell ⟨bl, 1, none⟩ (.slice (some ⟨dl, 0, none⟩) l0.length p6)) 34 (.slice (some ⟨dl, 0, none⟩) l0.length p6) dl l0 ∧
        Chg [bl, dl] W5 (w6.setCell ⟨bl, 1, none⟩ (.slice (some ⟨dl, 0, none⟩) l0.length p6)) :=
      ⟨hL8.set 1 _, ho6.setOther dlL _, (gF.undrew.sub (by simp)).setCell (Or.inl (by simp)) _⟩
    generalize w6.setCell _ _ = W6 at F ⊢
    obtain ⟨hL9, hld9, gG⟩ := F
    clear ho6 hL8 f1 f2 gF d2 w6
    have gH : Chg [bc, dc, bl, dl] w4 W6 := (gE.sub (T := [bc, dc, bl, dl]) (by simp)).then gG (by simp)
    have cD := gB dc (by simp)
    have lD := gD dl (by simp)
    simp at cD lD
    have hN9 : Hid (Blk W6 bn 59 [.slice (some ⟨kn, 0, none⟩) ks.length (ks.length + nsp.length), .slice (some ⟨cn, 0, none⟩) cps.length (cps.length + csp.length)]) := hN5.chg gH (by simp [nbc0, nbl, Ne.symm cD.2.1.1, Ne.symm lD.2.1.1])
    have hnk9 := hnk5.chg gH (by simp [knC, knL, Ne.symm cD.2.1.2, Ne.symm lD.2.1.2])
    have k1B : k1 ≠ bc := hO5.ne hC5
    have k1L' : k1 ≠ bl := hO5.ne hL5
    have k1d : k1 ≠ dc := hO5.ne2 hcd
    have k1e : k1 ≠ dl := hO5.ne2 hld
    have hO9 := hO5.chg gH (by simp [k1B, k1L', k1d, k1e])
    have hlk9 := hlk5.chg gH (by simp [klC, hlk5.ne hL5, Ne.symm cD.2.2.2, Ne.symm lD.2.2.2])
    have hC9 := hC7.chg gG (by simp [ncl, dlB.symm])
    have hO79 := hO7.chg gG (by simp [hO7.ne hL7, d5l])
    have gZ : Chg ([bc, kc, kn, bl, kl] ++ [dc] ++ [dl]) w W6 := (g8.sub (T := [bc, kc, kn, bl, kl] ++ [dc] ++ [dl]) (by simp)).then gH (by simp)
    clear hN5
    go_wp2
    go_ret
    refine ⟨rfl, _, _, k1, [d5], _, _, hN9.out, ?_, hC9, ?_, ?_, hL9, hlk9, ?_, k1w, ?_, by simp, gZ⟩
    · rw [← HKN.out]; exact hnk9
    · rw [← HKC.out]; exact hO9
    · rw [HT.out.2]; exact Or.inr ⟨d5, rfl, by rw [List.singleton_append, ← HCC.out]; exact hO79⟩
    · rw [HT.out.1]; exact Or.inr ⟨dl, rfl, hld9⟩
    · intro d hd
      obtain rfl : d = d5 := by simpa using hd
      rcases d5w with h | h
      · exact Or.inl (by simp [h])
      · exact Or.inr h
end Go.Proofs.Qxb6601743a
