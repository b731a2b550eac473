import Derived.Test.Qxb6601743aFil
namespace Go.Proofs.Qxb6601743a
open Go.RowKit

set_option maxHeartbeats 4000000 in
set_option maxRecDepth 100000 in
theorem fill_right1 (w : World) (bn kn cn bc kc br kr i : Nat) (dcs drs : List Nat) (nkv ncv ckv ccv rkv rcv : Value) (x y : ByteArray) (ks cps kcs krs cc rc : List Value)
    (hN : Blk w bn 59 [nkv, ncv]) (hnk : Own w 9 nkv kn ks) (hnc : Own w 34 ncv cn cps) (hC : Blk w bc 59 [ckv, ccv]) (hck : Own w 9 ckv kc kcs) (hR : Blk w br 59 [rkv, rcv]) (hrk : Own w 9 rkv kr (.string y :: krs))
    (hcc : Kids w ccv dcs cc) (hrc : Kids w rcv drs rc) (hboth : dcs = [] ↔ drs = [])
    (hi0 : 0 < i) (bl ln lcap : Nat) (la : Option Addr) (lcv : Value) (hL : Blk w bl 59 [.slice la ln lcap, lcv]) (hl1 : cps[i - 1]? = some (ptr bl)) (hl2 : ln ≤ 31) (h1 : cps[i]? = some (ptr bc)) (h2 : cps[i + 1]? = some (ptr br)) (hx : ks[i]? = some (.string x)) (hrr : 31 ≤ krs.length)
    (nbc0 : bn ≠ bc) (nbr : bn ≠ br) (ncr : bc ≠ br) (kbc : kn ≠ kc) (kbr : kn ≠ kr) (kcr : kc ≠ kr) (ddr : ∀ d ∈ drs, d ∉ dcs)
    (ok4 : ∀ u ∈ krs, u.oneCell' = true) (ok6 : ∀ u ∈ rc, ∃ q, u = .pointer q) (hrne : drs ≠ [] → 0 < rc.length)
    (s2 : cps.length ≤ 1000000) (s3 : kcs.length ≤ 1000000) (s4 : krs.length ≤ 1000000) (s5 : cc.length ≤ 1000000) (s6 : rc.length ≤ 1000000) :
    Calls Try.prog 42 #[ptr bn, .int .i64 i] w fun en w' => en = .returned (.int .i64 i) ∧ ∃ ckv' ccv' kc' dcs' rkv' rcv', Blk w' bn 59 [nkv, ncv] ∧ Own w' 9 nkv kn (ks.set i (.string y)) ∧
      Blk w' bc 59 [ckv', ccv'] ∧ Own w' 9 ckv' kc' (kcs ++ [.string x]) ∧ Kids w' ccv' dcs' (cc ++ rc.take 1) ∧ Blk w' br 59 [rkv', rcv'] ∧ Own w' 9 rkv' kr krs ∧ Kids w' rcv' drs (rc.drop 1) ∧
      (kc' = kc ∨ w.heap.size ≤ kc') ∧ (∀ d ∈ dcs', d ∈ dcs ∨ w.heap.size ≤ d) ∧ (dcs' = [] ↔ dcs = []) ∧ Chg ([bc, kc, kn, br, kr] ++ dcs ++ drs) w w' := by
  have li : i < ks.length := (List.getElem?_eq_some_iff.1 hx).1
  have lc' : i + 1 < cps.length := (List.getElem?_eq_some_iff.1 h2).1
  have b1 : (i : Int) < (cps.length : Int) := by omega
  have b2 : (0 : Int) < (i : Int) := by omega
  have a3 : IntKind.i64.wrap ((i : Int) - 1) = (i : Int) - 1 := by rw [IntKind.wrap_i64]; omega
  have a4 : (0 : Int) ≤ (i : Int) - 1 := by omega
  have a5 : ((i : Int) - 1).toNat = i - 1 := by omega
  have a7 : (i : Int) - 1 < (cps.length : Int) := by omega
  have a8 : ¬ (31 : Int) < (ln : Int) := by omega
  have a8' : decide ((31 : Int) < (ln : Int)) = false := by simp; omega
  have a9 : (1 : Int) ≤ (i : Int) := by omega
  have b3 : IntKind.i64.wrap ((i : Int) + 1) = (i : Int) + 1 := by rw [IntKind.wrap_i64]; omega
  have b4 : (0 : Int) ≤ (i : Int) + 1 := by omega
  have b5 : ((i : Int) + 1).toNat = i + 1 := by omega
  have b6 : (i : Int) < (ks.length : Int) := by omega
  have b7 : (i : Int) + 1 < (cps.length : Int) := by omega
  have b8 : (31 : Int) < ((krs.length + 1 : Nat) : Int) := by omega
  have b8' : decide ((31 : Int) < (krs.length : Int) + 1) = true := by simp; omega
  obtain ⟨ca, cl, ck, rfl⟩ := hcc.form
  obtain ⟨ra, rl, rk, rfl⟩ := hrc.form
  obtain ⟨nsp, rfl, hnkB, hnkm⟩ := id hnk
  obtain ⟨csp, rfl, hncB, hncm⟩ := id hnc
  obtain ⟨ksp, rfl, hckB, hckm⟩ := id hck
  obtain ⟨rkp, hrkv⟩ := hrk.form
  rw [List.length_cons] at hrkv
  subst hrkv
  have c0 := hN.cell (k := 0) rfl
  have c1 := hN.cell (k := 1) rfl
  have c2 : w.cell? ⟨cn, i, none⟩ = some (ptr bc) := hncB.cell (by rw [List.getElem?_append_left (by omega)]; exact h1)
  have c3 : w.cell? ⟨cn, i + 1, none⟩ = some (ptr br) := hncB.cell (by rw [List.getElem?_append_left (by omega)]; exact h2)
  have c4 := hR.cell (k := 0) rfl
  have c5 := hC.cell (k := 0) rfl
  have c6 : w.cell? ⟨kn, i, none⟩ = some (.string x) := hnkB.cell (by rw [List.getElem?_append_left (by omega)]; exact hx)
  have c7 : w.cell? ⟨cn, i - 1, none⟩ = some (ptr bl) := hncB.cell (by rw [List.getElem?_append_left (by omega)]; exact hl1)
  have c8 := hL.cell (k := 0) rfl
  go_enter Try.func42, Try.ntmps42
  go_wp2
  -- c.keys = append(c.keys, n.keys[i])
  refine wp_region_parts (fun w' => w'.cell? ⟨bc, 0, none⟩ = some (.slice (some ⟨kc, 0, none⟩) kcs.length (kcs.length + ksp.length)) ∧ w'.cell? ⟨bn, 0, none⟩ = some (.slice (some ⟨kn, 0, none⟩) ks.length (ks.length + nsp.length)) ∧ w'.cell? ⟨kn, i, none⟩ = some (.string x))
    [(0, false), (1, false), (2, false), (3, false), (4, true), (5, false), (6, false), (7, false), (8, true), (9, false), (10, false), (11, true)] [(12, false), (13, true), (14, true), (15, true), (16, true)] (by kernel_rfl) (fun _ _ _ _ _ h => h) (by kernel_rfl) ⟨c5, c0, c6⟩ ?_
  simp only [pick, List.map_cons, List.map_nil, List.getElem?_toArray, List.getElem?_cons_zero, List.getElem?_cons_succ]
  repeat (refine Heads.cons (v := ?_) ?_ ?_; rotate_left 1; (· (intro w' hw'; (first | (obtain ⟨_, _, _⟩ := hw' rfl; clear hw') | clear hw'); go_simp; (try with_reducible rfl); done)); simp only [Act.put, List.setIfInBounds_toArray, List.set_cons_zero, List.set_cons_succ])
  refine Heads.nil ?_
  have kcC : kc ≠ bc := hck.ne hC
  have g1 : Chg [] w ((w.alloc (.cells #[.string x] 9)).drew) := ((Chg.refl _ _).alloc _).drew
  have lx : Blk ((w.alloc (.cells #[.string x] 9)).drew) w.heap.size 9 [.string x] := Blk.new w [.string x] 9
  refine Rest.cons (fun K hK => ?_)
  go_simp
  refine hK.out _ _ (fun _ _ => ⟨g1.cell c5, g1.cell c0, g1.cell c6⟩) ?_
  clear hK K
  obtain ⟨v1, k1, w1, hr1, ho1, hor1⟩ := append_blk ES (hckB.chg g1 (by simp)) hckm ⟨w.heap.size, 0, none⟩ 1 1 [.string x] rfl (lx.cells 0 [.string x] (fun j v hj => by simpa using hj)) (by simp [Value.oneCell']) (by omega) (by omega)
  have g2 : Chg [kc] ((w.alloc (.cells #[.string x] 9)).drew) w1 := by
    rcases hor1 with ⟨_, h, _⟩ | ⟨_, h, _⟩
    · exact h
    · exact h.mono (by simp)
  have k1w : k1 = kc ∨ w.heap.size ≤ k1 := by
    rcases hor1 with ⟨h, _⟩ | ⟨h, _⟩
    · exact Or.inl h
    · right; rw [h]; simp
  have g3 : Chg [kc] w w1 := (g1.sub (by simp)).then g2 (by simp)
  clear hor1 g2
  refine Rest.cons (fun K hK => wp_append_eq _ _ 22 22 rfl _ _ rfl rfl hr1 ?_)
  refine hK.out _ _ (fun h => by cases h) ?_
  clear hK K hr1
  simp only [Act.put, List.setIfInBounds_toArray, List.set_cons_zero, List.set_cons_succ]
  obtain ⟨KC, hKC⟩ : ∃ KC, KC = kcs ++ [Value.string x] := ⟨_, rfl⟩
  rw [← hKC] at ho1
  have HKC : Hid (KC = kcs ++ [Value.string x]) := hKC
  clear hKC
  obtain ⟨p1, rfl⟩ := ho1.form
  have hC1 := hC.chg g3 (by simpa using kcC.symm)
  have f1 := hC1.cell (k := 0) rfl
  have f2 := hC1.frozen 0
  refine Rest.cons (fun K hK => ?_)
  go_simp
  refine hK.out _ _ (fun h => by cases h) ?_
  clear hK K
  refine Rest.cons (fun K hK => ?_)
  go_simp
  refine hK.out _ _ (fun h => by cases h) ?_
  clear hK K
  refine Rest.cons (fun K hK => ?_)
  go_simp
  refine hK.out _ _ (fun h => by cases h) (Rest.nil ?_)
  clear hK K
  have F : Blk (w1.setCell ⟨bc, 0, none⟩ (.slice (some ⟨k1, 0, none⟩) KC.length p1)) bc 59 [.slice (some ⟨k1, 0, none⟩) KC.length p1, .slice ca cl ck] ∧
      Own (w1.setCell ⟨bc, 0, none⟩ (.slice (some ⟨k1, 0, none⟩) KC.length p1)) 9 (.slice (some ⟨k1, 0, none⟩) KC.length p1) k1 KC ∧ Chg [bc, kc] w (w1.setCell ⟨bc, 0, none⟩ (.slice (some ⟨k1, 0, none⟩) KC.length p1)) :=
    ⟨hC1.set 0 _, ho1.setOther (ho1.ne hC1) _, (g3.sub (by simp)).setCell (Or.inl (by simp)) _⟩
  generalize w1.setCell _ _ = W at F ⊢
  obtain ⟨hC2, hO2, g4⟩ := F
  clear ho1 hC1 f1 f2 g3 g1 lx w1
  -- n.keys[i] = r.keys[0]
  have knC : kn ≠ bc := hnk.ne hC
  have knN : kn ≠ bn := hnk.ne hN
  have knL : kn ≠ br := hnk.ne hR
  have krC : kr ≠ bc := hrk.ne hC
  have kcN : kc ≠ bn := hck.ne hN
  have kcL : kc ≠ br := hck.ne hR
  have hN2 := hN.chg g4 (by simp [nbc0, kcN.symm])
  have hnkB2 := hnkB.chg g4 (by simp [knC, kbc])
  have hR2 := hR.chg g4 (by simp [ncr.symm, kcL.symm])
  have hrk2 := hrk.chg g4 (by simp [krC, kcr.symm])
  obtain ⟨lsp, hlv, hrkB2, hlkm⟩ := id hrk2
  have d1 := hN2.cell (k := 0) rfl
  have d2 := hR2.cell (k := 0) rfl
  have d3 : W.cell? ⟨kr, 0, none⟩ = some (.string y) := hrkB2.cell (by simp)
  have d4 : W.cell? ⟨kn, i, none⟩ = some (.string x) := hnkB2.cell (by rw [List.getElem?_append_left (by omega)]; exact hx)
  have d5 := hnkB2.frozen i
  have e2 : (0 : Int) < (krs.length : Int) + 1 := by omega
  clear c0 c1 c2 c3 c4 c5 c6 hlv hlkm
  go_wp2
  refine wp_region_parts (fun w' => w'.cell? ⟨bn, 0, none⟩ = some (.slice (some ⟨kn, 0, none⟩) ks.length (ks.length + nsp.length)) ∧ w'.cell? ⟨br, 0, none⟩ = some (.slice (some ⟨kr, 0, none⟩) (krs.length + 1) rkp) ∧ w'.cell? ⟨kr, 0, none⟩ = some (.string y))
    [(0, false), (1, false), (2, false), (3, true), (4, false), (5, false), (6, false), (7, false), (8, true), (9, false), (10, true)] [(11, true), (12, true)] (by kernel_rfl) (fun _ _ _ _ _ h => h) (by kernel_rfl) ⟨d1, d2, d3⟩ ?_
  simp only [pick, List.map_cons, List.map_nil, List.getElem?_toArray, List.getElem?_cons_zero, List.getElem?_cons_succ]
  repeat (refine Heads.cons (v := ?_) ?_ ?_; rotate_left 1; (· (intro w' hw'; (first | (obtain ⟨_, _, _⟩ := hw' rfl; clear hw') | clear hw'); go_simp; (try with_reducible rfl); done)); simp only [Act.put, List.setIfInBounds_toArray, List.set_cons_zero, List.set_cons_succ])
  refine Heads.nil ?_
  refine Rest.cons (fun K hK => ?_)
  go_simp
  refine hK.out _ _ (fun h => by cases h) ?_
  clear hK K
  refine Rest.cons (fun K hK => ?_)
  go_simp
  refine hK.out _ _ (fun h => by cases h) (Rest.nil ?_)
  clear hK K
  have HB3 : Blk (W.drew.setCell ⟨kn, i, none⟩ (.string y)) kn 9 ((ks.set i (.string y)) ++ nsp) := by
    have := hnkB2.drew.set i (.string y)
    rwa [List.set_append, if_pos (by omega)] at this
  have ltk : kn < w.heap.size := hnk.lt
  have ltl : kr < w.heap.size := hrk.lt
  have k1n : k1 ≠ kn := by rcases k1w with h | h; rw [h]; exact kbc.symm; omega
  have k1l : k1 ≠ kr := by rcases k1w with h | h; rw [h]; exact kcr; omega
  obtain ⟨KN, hKN⟩ : ∃ KN, KN = ks.set i (Value.string y) := ⟨_, rfl⟩
  have lKN : KN.length = ks.length := by rw [hKN]; simp
  have F : Blk (W.setCell ⟨kn, i, none⟩ (.string y)).drew bn 59 [.slice (some ⟨kn, 0, none⟩) ks.length (ks.length + nsp.length), .slice (some ⟨cn, 0, none⟩) cps.length (cps.length + csp.length)] ∧
      Own (W.setCell ⟨kn, i, none⟩ (.string y)).drew 9 (.slice (some ⟨kn, 0, none⟩) ks.length (ks.length + nsp.length)) kn KN ∧
      Blk (W.setCell ⟨kn, i, none⟩ (.string y)).drew bc 59 [.slice (some ⟨k1, 0, none⟩) KC.length p1, .slice ca cl ck] ∧ Own (W.setCell ⟨kn, i, none⟩ (.string y)).drew 9 (.slice (some ⟨k1, 0, none⟩) KC.length p1) k1 KC ∧
      Blk (W.setCell ⟨kn, i, none⟩ (.string y)).drew br 59 [.slice (some ⟨kr, 0, none⟩) (krs.length + 1) rkp, .slice ra rl rk] ∧
      Own (W.setCell ⟨kn, i, none⟩ (.string y)).drew 9 (.slice (some ⟨kr, 0, none⟩) (krs.length + 1) rkp) kr (.string y :: krs) ∧
      Chg [bc, kc, kn] w (W.setCell ⟨kn, i, none⟩ (.string y)).drew := by
    refine ⟨(hN2.setOther knN.symm _).drew, ⟨nsp, by rw [lKN], by rw [hKN]; exact HB3, by rw [lKN]; exact hnkm⟩, (hC2.setOther knC.symm _).drew, hO2.setOther k1n _, (hR2.setOther knL.symm _).drew, hrk2.setOther kbr.symm _, ((g4.sub ?_).setCell (Or.inl (by simp)) _).drew⟩
    intro k hk; simp at hk ⊢; rcases hk with h | h <;> simp [h]
  generalize World.drew (World.setCell W _ _) = W2 at F ⊢
  obtain ⟨hN3, hnk3, hC3, hO3, hR3, hrk3, g5⟩ := F
  have HKN : Hid (KN = ks.set i (Value.string y)) := hKN
  clear hKN HB3 hN2 hnkB2 hR2 hrk2 hrkB2 d1 d2 d3 d4 d5 hC2 hO2 g4 lKN W
  have d2 := hR3.cell (k := 0) rfl
  -- r.keys = slices.Delete(r.keys, 0, 1)
  go_wp2_with fail
  refine (deleteS' W2 _ kr 0 1 (Value.string y :: krs) _ _ rfl rfl hrk3 (by omega) (by simp) (by simpa [or_imp, forall_and, Value.oneCell'] using ok4)).mono ?_
  rintro e w3 ⟨v3, rfl, ho3, g6⟩
  simp only [List.take_zero, List.drop_succ_cons, List.drop_zero, List.nil_append] at ho3
  obtain ⟨p3, rfl⟩ := ho3.form
  have krR : kr ≠ br := hrk.ne hR
  have hR4 := hR3.chg g6 (by simpa using krR.symm)
  have f1 := hR4.cell (k := 0) rfl
  have f2 := hR4.frozen 0
  have f3 := hR4.cell (k := 1) rfl
  have krN : kr ≠ bn := hrk.ne hN
  have F : Blk (w3.setCell ⟨br, 0, none⟩ (.slice (some ⟨kr, 0, none⟩) krs.length p3)) br 59 [.slice (some ⟨kr, 0, none⟩) krs.length p3, .slice ra rl rk] ∧
      Own (w3.setCell ⟨br, 0, none⟩ (.slice (some ⟨kr, 0, none⟩) krs.length p3)) 9 (.slice (some ⟨kr, 0, none⟩) krs.length p3) kr krs ∧
      Chg [br, kr] W2 (w3.setCell ⟨br, 0, none⟩ (.slice (some ⟨kr, 0, none⟩) krs.length p3)) :=
    ⟨hR4.set 0 _, ho3.setOther krR _, (g6.sub (by simp)).setCell (Or.inl (by simp)) _⟩
  clear d2
  go_wp2_with fail
  generalize w3.setCell _ _ = W3 at F ⊢
  obtain ⟨hR5, hrk5, g7⟩ := F
  clear ho3 hR4 f1 f2 f3 g6 w3
  have k1L : k1 ≠ br := hO3.ne hR3
  have hN5 := hN3.chg g7 (by simp [nbr, krN.symm])
  have hnk5 := hnk3.chg g7 (by simp [knL, kbr])
  have hC5 := hC3.chg g7 (by simp [ncr, krC.symm])
  have hO5 := hO3.chg g7 (by simp [k1L, k1l])
  have g8 : Chg [bc, kc, kn, br, kr] w W3 := (g5.sub (T := [bc, kc, kn, br, kr]) (by simp)).then g7 (by simp)
  clear hN3 hnk3 hC3 hO3 hR3 hrk3 g5 g7 W2
  refine (leaf_any _ br _ ra rl rk hR5).mono ?_
  rintro e w4 ⟨rfl, rfl⟩
  have gB : ∀ d ∈ dcs, d ∉ [bc, kc] ∧ d ∉ [bn, kn] ∧ d ∉ [br, kr] := fun d hd => ⟨hcc.far hC hck d hd, hcc.far hN hnk d hd, hcc.far hR hrk d hd⟩
  have gD : ∀ d ∈ drs, d ∉ [bc, kc] ∧ d ∉ [bn, kn] ∧ d ∉ [br, kr] := fun d hd => ⟨hrc.far hC hck d hd, hrc.far hN hnk d hd, hrc.far hR hrk d hd⟩
  have hcc5 : Kids w4 (.slice ca cl ck) dcs cc := hcc.chg g8 (fun d hd => by have := gB d hd; simp at this ⊢; simp [this])
  have hrc5 : Kids w4 (.slice ra rl rk) drs rc := hrc.chg g8 (fun d hd => by have := gD d hd; simp at this ⊢; simp [this])
  by_cases hleaf : drs = []
  · obtain ⟨e1, e2, e3⟩ : Value.slice ra rl rk = .slice none 0 0 ∧ drs = [] ∧ rc = [] := by
      rcases hrc with h | ⟨b, h, _⟩
      · exact h
      · rw [hleaf] at h; cases h
    obtain ⟨rfl, rfl, rfl⟩ : ra = none ∧ rl = 0 ∧ rk = 0 := by simpa using e1
    subst e3
    clear e1 e2
    have hN5' : Hid (Blk w4 bn 59 [.slice (some ⟨kn, 0, none⟩) ks.length (ks.length + nsp.length), .slice (some ⟨cn, 0, none⟩) cps.length (cps.length + csp.length)]) := hN5
    clear hN5
    go_wp2
    go_ret
    refine ⟨rfl, _, _, k1, dcs, _, _, hN5'.out, ?_, hC5, ?_, by simpa using hcc5, hR5, hrk5, hrc5, k1w, fun d hd => Or.inl hd, Iff.rfl, g8.sub (by simp)⟩
    · rw [← HKN.out]; exact hnk5
    · rw [← HKC.out]; exact hO5
  · obtain ⟨dr, rfl, hrd⟩ : ∃ dr, drs = [dr] ∧ Own w4 34 (.slice ra rl rk) dr rc := by
      rcases hrc5 with ⟨_, h, _⟩ | h
      · exact absurd h hleaf
      · exact h
    obtain ⟨dc, rfl, hcd⟩ : ∃ dc, dcs = [dc] ∧ Own w4 34 (.slice ca cl ck) dc cc := by
      rcases hcc5 with ⟨_, h, _⟩ | h
      · exact absurd (hboth.1 h) hleaf
      · exact h
    have hne := hrne hleaf
    obtain ⟨z, r0, rfl⟩ : ∃ z r0, rc = z :: r0 := List.exists_cons_of_length_pos hne
    obtain ⟨q, rfl⟩ := ok6 z (by simp)
    have okl : ∀ u ∈ Value.pointer q :: r0, u.oneCell' = true := fun u hu => by obtain ⟨q, rfl⟩ := ok6 u hu; rfl
    have lcd : dr ≠ dc := fun h => ddr dr (by simp) (by simp [h])
    have hl0 : r0.length ≤ 1000000 := by simp at s6; omega
    have ltw : dr < w.heap.size := by
      rcases hrc with ⟨_, h, _⟩ | ⟨b, h, ho⟩
      · cases h
      · obtain rfl : dr = b := by simpa using h
        exact ho.lt
    clear hrc5 hcc5 hrc hcc hrne ok6
    obtain ⟨rfl, rfl⟩ : ra = some ⟨dr, 0, none⟩ ∧ rl = r0.length + 1 := by
      obtain ⟨sp, h, _⟩ := hrd; simp at h; exact ⟨h.1, h.2.1⟩
    obtain ⟨csp', hcv', hcdB, hcm'⟩ := id hcd
    obtain ⟨rfl, rfl, rfl⟩ : ca = some ⟨dc, 0, none⟩ ∧ cl = cc.length ∧ ck = cc.length + csp'.length := by
      simpa using hcv'
    obtain ⟨lsp', hlv', hrdB, hlm'⟩ := id hrd
    clear hlv' hlm' hcv'
    have d1 := hC5.cell (k := 1) rfl
    have d2 := hR5.cell (k := 1) rfl
    have d3 : w4.cell? ⟨dr, 0, none⟩ = some (.pointer q) := hrdB.cell (by simp)
    have e2 : (0 : Int) < (r0.length : Int) + 1 := by omega
    have ltd : dr < w4.heap.size := hrd.lt
    have dcB : dc ≠ bc := hcd.ne hC5
    have dcR : dc ≠ br := hcd.ne hR5
    go_wp2
    refine wp_region_parts (fun w' => w'.cell? ⟨bc, 1, none⟩ = some (.slice (some ⟨dc, 0, none⟩) cc.length (cc.length + csp'.length)) ∧ w'.cell? ⟨br, 1, none⟩ = some (.slice (some ⟨dr, 0, none⟩) (r0.length + 1) rk) ∧ w'.cell? ⟨dr, 0, none⟩ = some (.pointer q))
      [(0, false), (1, false), (2, false), (3, false), (4, true), (5, false), (6, false), (7, false), (8, true), (9, false), (10, true)] [(11, false), (12, true), (13, true), (14, true), (15, true)] (by kernel_rfl) (fun _ _ _ _ _ h => h) (by kernel_rfl) ⟨d1, d2, d3⟩ ?_
    simp only [pick, List.map_cons, List.map_nil, List.getElem?_toArray, List.getElem?_cons_zero, List.getElem?_cons_succ]
    repeat (refine Heads.cons (v := ?_) ?_ ?_; rotate_left 1; (· (intro w' hw'; (first | (obtain ⟨_, _, _⟩ := hw' rfl; clear hw') | clear hw'); go_simp; (try with_reducible rfl); done)); simp only [Act.put, List.setIfInBounds_toArray, List.set_cons_zero, List.set_cons_succ])
    refine Heads.nil ?_
    have g9 : Chg [] w4 ((w4.alloc (.cells #[.pointer q] 34)).drew) := ((Chg.refl _ _).alloc _).drew
    have lx : Blk ((w4.alloc (.cells #[.pointer q] 34)).drew) w4.heap.size 34 [.pointer q] := Blk.new w4 [.pointer q] 34
    refine Rest.cons (fun K hK => ?_)
    go_simp
    refine hK.out _ _ (fun _ _ => ⟨g9.cell d1, g9.cell d2, g9.cell d3⟩) ?_
    clear hK K
    obtain ⟨v5, d5, w5, hr5, ho5, hor5⟩ := append_blk EN (hcdB.chg g9 (by simp)) hcm' ⟨w4.heap.size, 0, none⟩ 1 1 [.pointer q] rfl (lx.cells 0 [.pointer q] (fun j v hj => by simpa using hj)) (by simp [Value.oneCell']) (by omega) (by omega)
    have gA : Chg [dc] ((w4.alloc (.cells #[.pointer q] 34)).drew) w5 := by
      rcases hor5 with ⟨_, h, _⟩ | ⟨_, h, _⟩
      · exact h
      · exact h.mono (by simp)
    have d5w : d5 = dc ∨ w.heap.size ≤ d5 := by
      rcases hor5 with ⟨h, _⟩ | ⟨h, _⟩
      · exact Or.inl h
      · right; rw [h]; simp; have := g8.size; omega
    have gC : Chg [dc] w4 w5 := (g9.sub (by simp)).then gA (by simp)
    clear hor5 gA
    refine Rest.cons (fun K hK => wp_append_eq _ _ 45 45 rfl _ _ rfl rfl hr5 ?_)
    refine hK.out _ _ (fun h => by cases h) ?_
    clear hK K hr5
    simp only [Act.put, List.setIfInBounds_toArray, List.set_cons_zero, List.set_cons_succ]
    obtain ⟨CC, hCC⟩ : ∃ CC, CC = cc ++ [Value.pointer q] := ⟨_, rfl⟩
    rw [← hCC] at ho5
    have HCC : Hid (CC = cc ++ [Value.pointer q]) := hCC
    clear hCC
    obtain ⟨p5, rfl⟩ := ho5.form
    have hC6 := hC5.chg gC (by simpa using dcB.symm)
    have f1 := hC6.cell (k := 1) rfl
    have f2 := hC6.frozen 1
    refine Rest.cons (fun K hK => ?_)
    go_simp
    refine hK.out _ _ (fun h => by cases h) ?_
    clear hK K
    refine Rest.cons (fun K hK => ?_)
    go_simp
    refine hK.out _ _ (fun h => by cases h) ?_
    clear hK K
    refine Rest.cons (fun K hK => ?_)
    go_simp
    refine hK.out _ _ (fun h => by cases h) (Rest.nil ?_)
    clear hK K
    have F : Blk (w5.setCell ⟨bc, 1, none⟩ (.slice (some ⟨d5, 0, none⟩) CC.length p5)) bc 59 [.slice (some ⟨k1, 0, none⟩) KC.length p1, .slice (some ⟨d5, 0, none⟩) CC.length p5] ∧
        Own (w5.setCell ⟨bc, 1, none⟩ (.slice (some ⟨d5, 0, none⟩) CC.length p5)) 34 (.slice (some ⟨d5, 0, none⟩) CC.length p5) d5 CC ∧ Chg [bc, dc] w4 (w5.setCell ⟨bc, 1, none⟩ (.slice (some ⟨d5, 0, none⟩) CC.length p5)) :=
      ⟨hC6.set 1 _, ho5.setOther (ho5.ne hC6) _, (gC.sub (by simp)).setCell (Or.inl (by simp)) _⟩
    generalize w5.setCell _ _ = W5 at F ⊢
    obtain ⟨hC7, hO7, gE⟩ := F
    clear ho5 hC6 f1 f2 gC g9 lx w5
    have drB : dr ≠ bc := hrd.ne hC5
    have drR : dr ≠ br := hrd.ne hR5
    have d5l : d5 ≠ dr := by
      rcases d5w with h | h
      · rw [h]; exact lcd.symm
      · omega
    have hR7 := hR5.chg gE (by simp [ncr.symm, dcR.symm])
    have hrd7 := hrd.chg gE (by simp [drB, lcd])
    have d2 := hR7.cell (k := 1) rfl
    clear d1 d3
    go_wp2_with fail
    refine (deleteN' W5 _ dr 0 1 (Value.pointer q :: r0) _ _ rfl rfl hrd7 (by omega) (by simp) okl).mono ?_
    rintro e w6 ⟨v6, rfl, ho6, gF⟩
    simp only [List.take_zero, List.drop_succ_cons, List.drop_zero, List.nil_append] at ho6
    obtain ⟨p6, rfl⟩ := ho6.form
    have hR8 := hR7.chg gF (by simpa using drR.symm)
    have f1 := hR8.cell (k := 1) rfl
    have f2 := hR8.frozen 1
    have F : Blk (w6.setCell ⟨br, 1, none⟩ (.slice (some ⟨dr, 0, none⟩) r0.length p6)) br 59 [.slice (some ⟨kr, 0, none⟩) krs.length p3, .slice (some ⟨dr, 0, none⟩) r0.length p6] ∧
        Own (w6.setCell ⟨br, 1, none⟩ (.slice (some ⟨dr, 0, none⟩) r0.length p6)) 34 (.slice (some ⟨dr, 0, none⟩) r0.length p6) dr r0 ∧
        Chg [br, dr] W5 (w6.setCell ⟨br, 1, none⟩ (.slice (some ⟨dr, 0, none⟩) r0.length p6)) :=
      ⟨hR8.set 1 _, ho6.setOther drR _, (gF.sub (by simp)).setCell (Or.inl (by simp)) _⟩
    clear d2
    go_wp2
    generalize w6.setCell _ _ = W6 at F ⊢
    obtain ⟨hR9, hrd9, gG⟩ := F
    clear ho6 hR8 f1 f2 gF w6
    have gH : Chg [bc, dc, br, dr] w4 W6 := (gE.sub (T := [bc, dc, br, dr]) (by simp)).then gG (by simp)
    have cD := gB dc (by simp)
    have lD := gD dr (by simp)
    simp at cD lD
    have hN9 := hN5.chg gH (by simp [nbc0, nbr, Ne.symm cD.2.1.1, Ne.symm lD.2.1.1])
    have hnk9 := hnk5.chg gH (by simp [knC, knL, Ne.symm cD.2.1.2, Ne.symm lD.2.1.2])
    have k1B : k1 ≠ bc := hO5.ne hC5
    have k1L' : k1 ≠ br := hO5.ne hR5
    have k1d : k1 ≠ dc := hO5.ne2 hcd
    have k1e : k1 ≠ dr := hO5.ne2 hrd
    have hO9 := hO5.chg gH (by simp [k1B, k1L', k1d, k1e])
    have hrk9 := hrk5.chg gH (by simp [krC, hrk5.ne hR5, Ne.symm cD.2.2.2, Ne.symm lD.2.2.2])
    have hC9 := hC7.chg gG (by simp [ncr, drB.symm])
    have hO79 := hO7.chg gG (by simp [hO7.ne hR7, d5l])
    have gZ : Chg ([bc, kc, kn, br, kr] ++ [dc] ++ [dr]) w W6 := (g8.sub (T := [bc, kc, kn, br, kr] ++ [dc] ++ [dr]) (by simp)).then gH (by simp)
    go_ret
    refine ⟨rfl, _, _, k1, [d5], _, _, hN9, ?_, hC9, ?_, ?_, hR9, hrk9, ?_, k1w, ?_, by simp, gZ⟩
    · rw [← HKN.out]; exact hnk9
    · rw [← HKC.out]; exact hO9
    · exact Or.inr ⟨d5, rfl, by rw [List.take_succ_cons, List.take_zero, ← HCC.out]; exact hO79⟩
    · exact Or.inr ⟨dr, rfl, hrd9⟩
    · intro d hd
      obtain rfl : d = d5 := by simpa using hd
      rcases d5w with h | h
      · exact Or.inl (by simp [h])
      · exact Or.inr h
end Go.Proofs.Qxb6601743a
