import Derived.Test.Qxb6601743aGr
import Derived.Test.Qxb6601743aTab
namespace Go.Proofs.Qxb6601743a
open Go.RowKit

theorem Kids.setCell {w : World} {v : Value} {ds : List Nat} {xs : List Value} (h : Kids w v ds xs) {p : Addr} (hp : ∀ d ∈ ds, d ≠ p.block) (u : Value) : Kids (w.setCell p u) v ds xs := by
  rcases h with h | ⟨b, rfl, ho⟩
  · exact Or.inl h
  · exact Or.inr ⟨b, rfl, ho.setOther (hp b (by simp)) u⟩

set_option maxHeartbeats 4000000 in
set_option maxRecDepth 100000 in
theorem split_any (w : World) (bn kn cn bc kc i : Nat) (dcs : List Nat) (nkv ncv ckv ccv : Value) (x : ByteArray) (ks cps A B cc : List Value)
    (hN : Blk w bn 59 [nkv, ncv]) (hnk : Own w 9 nkv kn ks) (hnc : Own w 34 ncv cn cps) (hC : Blk w bc 59 [ckv, ccv]) (hck : Own w 9 ckv kc (A ++ .string x :: B)) (hcc : Kids w ccv dcs cc)
    (hA : A.length = 31) (hB : B.length = 31) (hccl : dcs ≠ [] → cc.length = 64) (h1 : cps[i]? = some (ptr bc)) (hi : i ≤ ks.length) (nbc : bn ≠ bc) (kbc : kn ≠ kc) (dcn : cn ∉ dcs)
    (ok1 : ∀ u ∈ ks, u.oneCell' = true) (ok2 : ∀ u ∈ cps, u.oneCell' = true) (ok3 : ∀ u ∈ A, u.oneCell' = true) (ok4 : ∀ u ∈ B, u.oneCell' = true) (ok5 : ∀ u ∈ cc, u.oneCell' = true)
    (s1 : ks.length ≤ 1000000) (s2 : cps.length ≤ 1000000) :
    Calls Try.prog 43 #[ptr bn, .int .i64 i] w fun en w' => en = .returned (.tuple #[]) ∧ ∃ nkv' ncv' kn' cn' ckv' ccv' br kr rkv rcv drs,
      Blk w' bn 59 [nkv', ncv'] ∧ Own w' 9 nkv' kn' (ks.take i ++ .string x :: ks.drop i) ∧ Own w' 34 ncv' cn' (cps.take (i + 1) ++ ptr br :: cps.drop (i + 1)) ∧
      Blk w' bc 59 [ckv', ccv'] ∧ Own w' 9 ckv' kc A ∧ Kids w' ccv' dcs (cc.take 32) ∧ Blk w' br 59 [rkv, rcv] ∧ Own w' 9 rkv kr B ∧ Kids w' rcv drs (cc.drop 32) ∧
      (kn' = kn ∨ w.heap.size ≤ kn') ∧ (cn' = cn ∨ w.heap.size ≤ cn') ∧ w.heap.size ≤ br ∧ w.heap.size ≤ kr ∧ (∀ d ∈ drs, w.heap.size ≤ d) ∧ (drs = [] ↔ dcs = []) ∧ kr ≠ kn' ∧ cn' ∉ drs ∧
      Chg ([bn, kn, cn, bc, kc] ++ dcs) w w' := by
  have lc' : i < cps.length := (List.getElem?_eq_some_iff.1 h1).1
  have b1 : (i : Int) < (cps.length : Int) := by omega
  obtain ⟨ca, cl, ck, rfl⟩ := hcc.form
  obtain ⟨nkp, rfl⟩ := hnk.form
  obtain ⟨csp, rfl, hncB, hncm⟩ := id hnc
  have hl63 : (A ++ Value.string x :: B).length = 63 := by simp [hA, hB]
  have HX : Hid ((A ++ Value.string x :: B).length = 63) := hl63
  obtain ⟨ksp, hckv, hkcB, hkcm⟩ := id hck
  rw [hl63] at hckv
  subst hckv
  clear hkcB hkcm
  obtain ⟨ckp, hckp⟩ : ∃ c, c = 63 + ksp.length := ⟨_, rfl⟩
  rw [← hckp] at hck hC
  have hck63 : 63 ≤ ckp := by omega
  have hq32 : ¬ ckp = 32 := by omega
  clear hckp ksp
  have c1 := hN.cell (k := 1) rfl
  have c2 : w.cell? ⟨cn, i, none⟩ = some (ptr bc) := hncB.cell (by rw [List.getElem?_append_left (by omega)]; exact h1)
  obtain ⟨Z, hZ⟩ : ∃ Z, Z = List.replicate 63 (Value.string ByteArray.empty) := ⟨_, rfl⟩
  have hZl : Z.length = 63 := by rw [hZ]; simp
  have hmk : ∀ w, (Instr.makeSlice 22 (.int .i64 31) (.int .i64 63)).run Try.prog w = .ok (.slice (some ⟨w.heap.size, 0, none⟩) 31 63) (w.alloc (.cells Z.toArray 9)) := fun w => by
    rw [hZ]; exact make_run ES 31 31 63 rfl (by omega) (by omega) (by omega) w
  have HZ : Hid (Z.length = 63) := hZl
  have HNC : Hid (Blk w cn 34 (cps ++ csp) ∧ cps.length + csp.length ≤ 9223372036854775807) := ⟨hncB, hncm⟩
  have HK0 : Hid (Kids w (.slice ca cl ck) dcs cc) := hcc
  have HD : Hid (dcs ≠ [] → cc.length = 64) := hccl
  clear hncB hncm hcc hccl hZ hZl hl63
  go_enter Try.func43, Try.ntmps43
  go_wp2
  have hS : (Try.prog.info? 9).map (·.size) = some 1 := by
    obtain ⟨i0, hi0, h0, h1, h2⟩ := info_parts ES.info
    rw [hi0]; simp [h1]
  have F : Blk ((w.alloc (.cells Z.toArray 9)).alloc (.cells #[.slice (some ⟨w.heap.size, 0, none⟩) 31 63, .slice none 0 0] 59)) w.heap.size 9 Z ∧
      Blk ((w.alloc (.cells Z.toArray 9)).alloc (.cells #[.slice (some ⟨w.heap.size, 0, none⟩) 31 63, .slice none 0 0] 59)) (w.heap.size + 1) 59 [.slice (some ⟨w.heap.size, 0, none⟩) 31 63, .slice none 0 0] ∧
      Chg [] w ((w.alloc (.cells Z.toArray 9)).alloc (.cells #[.slice (some ⟨w.heap.size, 0, none⟩) 31 63, .slice none 0 0] 59)) := by
    refine ⟨(Blk.new w _ 9).alloc _, ?_, ((Chg.refl _ _).alloc _).alloc _⟩
    have := Blk.new (w.alloc (.cells Z.toArray 9)) [.slice (some ⟨w.heap.size, 0, none⟩) 31 63, .slice none 0 0] 59
    rwa [show (w.alloc (.cells Z.toArray 9)).heap.size = w.heap.size + 1 by simp] at this
  generalize World.alloc (World.alloc w _) _ = W at F ⊢
  obtain ⟨kr, hkr⟩ : ∃ kr, kr = w.heap.size := ⟨_, rfl⟩
  obtain ⟨br, hbr⟩ : ∃ br, br = w.heap.size + 1 := ⟨_, rfl⟩
  rw [← hbr, ← hkr] at F ⊢
  have HF : Hid (kr = w.heap.size ∧ br = w.heap.size + 1) := ⟨hkr, hbr⟩
  clear hkr hbr c1 c2 hmk
  obtain ⟨hKR, hR, g1⟩ := F
  have hC1 := hC.chg g1 (by simp)
  have hck1 := hck.chg g1 (by simp)
  have d1 := hR.cell (k := 0) rfl
  have d2 := hC1.cell (k := 0) rfl
  refine wp_region_parts (fun w' => w'.cell? ⟨br, 0, none⟩ = some (.slice (some ⟨kr, 0, none⟩) 31 63) ∧ w'.cell? ⟨bc, 0, none⟩ = some (.slice (some ⟨kc, 0, none⟩) 63 ckp))
    [(0, false), (1, false), (2, false), (3, true), (4, false), (5, false), (6, false), (7, true), (8, false)] [(9, true)] (by kernel_rfl) (fun _ _ _ _ _ h => h) (by kernel_rfl) ⟨d1, d2⟩ ?_
  simp only [pick, List.map_cons, List.map_nil, List.getElem?_toArray, List.getElem?_cons_zero, List.getElem?_cons_succ]
  repeat (refine Heads.cons (v := ?_) ?_ ?_; rotate_left 1; (· (intro w' hw'; (first | (obtain ⟨_, _⟩ := hw' rfl; clear hw') | clear hw'); go_simp; (try with_reducible rfl); done)); simp only [Act.put, List.setIfInBounds_toArray, List.set_cons_zero, List.set_cons_succ])
  refine Heads.nil ?_
  have hcp : ∀ ty, (Builtin.copy_ #[22, 22] ty #[.slice (some ⟨kr, 0, none⟩) 31 63, .slice (some ⟨kc, 32, none⟩) 31 (ckp - 32)]).run Try.prog W.drew = .ok (goInt B.length) (W.drew.setCells kr 0 B) := fun ty => by
    obtain ⟨sp, _, hkcB, _⟩ := hck1
    exact run_copy_cells W.drew _ _ ty 9 kr 0 31 63 ⟨kc, 32, none⟩ 31 (ckp - 32) B ES.und hS (by rw [hB]; rfl)
      (hkcB.drew.cells 32 _ (fun j v hj => by
        have hjl := (List.getElem?_eq_some_iff.1 hj).1
        rw [List.getElem?_append_left (by simp; omega), List.getElem?_append_right (by omega), hA, show 32 + j - 31 = j + 1 by omega, List.getElem?_cons_succ]; exact hj))
      (fun j hj => hKR.drew.isSome (by rw [HZ.out]; omega)) (fun j hj => hKR.drew.frozen _) ok4
  refine Rest.cons (fun K hK => ?_)
  refine wp_copy_eq _ _ _ 22 22 rfl _ _ rfl rfl (hcp _) ?_
  refine hK.out _ _ (fun h => by cases h) (Rest.nil ?_)
  clear hK K hcp
  have kcr : kc ≠ kr := by have := hck.lt; have := HF.out.1; omega
  have ltn : kn < w.heap.size := hnk.lt
  have ltc : kc < w.heap.size := hck.lt
  have ltbn : bn < w.heap.size := hN.lt
  have ltbc : bc < w.heap.size := hC.lt
  have F : Blk (W.drew.setCells kr 0 B) kr 9 (B ++ Z.drop 31) ∧ Blk (W.drew.setCells kr 0 B) br 59 [.slice (some ⟨kr, 0, none⟩) 31 63, .slice none 0 0] ∧ Chg [] w (W.drew.setCells kr 0 B) := by
    have h9 := hKR.drew.setCells B 0 (by rw [HZ.out, hB]; omega)
    rw [over, List.take_zero, List.nil_append, Nat.zero_add, hB] at h9
    refine ⟨h9, hR.drew.chg (Chg.setCells (S := [kr]) (Or.inl (by simp)) _ _ (Chg.refl _ _)) ?_, Chg.setCells (Or.inr (by have := HF.out.1; omega)) _ _ g1.drew⟩
    have := HF.out.1; have := HF.out.2; simp; omega
  generalize World.setCells W.drew _ _ _ = W1 at F ⊢
  clear hKR hR g1 hC1 hck1 d1 d2 hS W
  obtain ⟨hKR, hR, g1⟩ := F
  have hN1 := hN.chg g1 (by simp)
  have hnk1 := hnk.chg g1 (by simp)
  have hC1 := hC.chg g1 (by simp)
  have hck1 := hck.chg g1 (by simp)
  have d1 := hN1.cell (k := 0) rfl
  have d2 := hC1.cell (k := 0) rfl
  have d3 : W1.cell? ⟨kc, 31, none⟩ = some (.string x) := by
    obtain ⟨sp, _, hkcB, _⟩ := hck1
    exact hkcB.cell (by rw [List.getElem?_append_left (by rw [HX.out]; omega), List.getElem?_append_right (by omega), hA]; rfl)
  go_wp2
  refine wp_region_parts (fun w' => w'.cell? ⟨bn, 0, none⟩ = some (.slice (some ⟨kn, 0, none⟩) ks.length nkp) ∧ w'.cell? ⟨bc, 0, none⟩ = some (.slice (some ⟨kc, 0, none⟩) 63 ckp) ∧ w'.cell? ⟨kc, 31, none⟩ = some (.string x))
    [(0, false), (1, false), (2, false), (3, false), (4, true), (5, false), (6, false), (7, false), (8, false), (9, true), (10, false), (11, true)] [(12, false), (13, true), (14, true), (15, true), (16, true)] (by kernel_rfl) (fun _ _ _ _ _ h => h) (by kernel_rfl) ⟨d1, d2, d3⟩ ?_
  simp only [pick, List.map_cons, List.map_nil, List.getElem?_toArray, List.getElem?_cons_zero, List.getElem?_cons_succ]
  repeat (refine Heads.cons (v := ?_) ?_ ?_; rotate_left 1; (· (intro w' hw'; (first | (obtain ⟨_, _, _⟩ := hw' rfl; clear hw') | clear hw'); go_simp; (try with_reducible rfl); done)); simp only [Act.put, List.setIfInBounds_toArray, List.set_cons_zero, List.set_cons_succ])
  refine Heads.nil ?_
  have g2 : Chg [] W1 ((W1.alloc (.cells #[.string x] 9)).drew) := ((Chg.refl _ _).alloc _).drew
  have lx : Blk ((W1.alloc (.cells #[.string x] 9)).drew) W1.heap.size 9 [.string x] := Blk.new W1 [.string x] 9
  refine Rest.cons (fun K hK => ?_)
  go_simp
  refine hK.out _ _ (fun _ _ => ⟨g2.cell d1, g2.cell d2, g2.cell d3⟩) ?_
  clear hK K
  refine Rest.cons (fun K hK => ?_)
  go_simp
  refine (insertS' _ _ kn W1.heap.size i _ ks (.string x) rfl (hnk1.chg g2 (by simp)) (by omega) hi lx (by have := hnk1.lt; omega) rfl ok1).mono ?_
  rintro e w1 ⟨v1, rfl, k1, ho1, hk1, g3⟩
  refine hK.out _ _ (fun h => by cases h) ?_
  clear hK K
  obtain ⟨KN, hKN⟩ : ∃ KN, KN = ks.take i ++ Value.string x :: ks.drop i := ⟨_, rfl⟩
  rw [← hKN] at ho1
  have HKN : Hid (KN = ks.take i ++ Value.string x :: ks.drop i) := hKN
  clear hKN
  obtain ⟨p1, rfl⟩ := ho1.form
  have g4 : Chg [kn] W1 w1 := (g2.sub (by simp)).then g3 (by simp)
  have k1w : k1 = kn ∨ w.heap.size ≤ k1 := by
    rcases hk1 with h | h
    · exact Or.inl h
    · right; simp at h; have := g1.size; omega
  have k1r : kr ≠ k1 := by
    have hlt := hKR.lt
    rcases hk1 with h | h
    · have := HF.out.1; omega
    · simp at h; omega
  have knN : kn ≠ bn := hnk.ne hN
  have hN2 := hN1.chg g4 (by simpa using knN.symm)
  have f1 := hN2.cell (k := 0) rfl
  have f2 := hN2.frozen 0
  refine Rest.cons (fun K hK => ?_)
  go_simp
  refine hK.out _ _ (fun h => by cases h) ?_
  clear hK K
  refine Rest.cons (fun K hK => ?_)
  go_simp
  refine hK.out _ _ (fun h => by cases h) ?_
  clear hK K
  refine Rest.cons (fun K hK => ?_)
  go_simp
  refine hK.out _ _ (fun h => by cases h) (Rest.nil ?_)
  clear hK K
  have F : Blk (w1.setCell ⟨bn, 0, none⟩ (.slice (some ⟨k1, 0, none⟩) KN.length p1)) bn 59 [.slice (some ⟨k1, 0, none⟩) KN.length p1, .slice (some ⟨cn, 0, none⟩) cps.length (cps.length + csp.length)] ∧
      Own (w1.setCell ⟨bn, 0, none⟩ (.slice (some ⟨k1, 0, none⟩) KN.length p1)) 9 (.slice (some ⟨k1, 0, none⟩) KN.length p1) k1 KN ∧ Chg [bn, kn] W1 (w1.setCell ⟨bn, 0, none⟩ (.slice (some ⟨k1, 0, none⟩) KN.length p1)) :=
    ⟨hN2.set 0 _, ho1.setOther (ho1.ne hN2) _, (g4.sub (by simp)).setCell (Or.inl (by simp)) _⟩
  generalize w1.setCell _ _ = W2 at F ⊢
  obtain ⟨hN3, hO3, g5⟩ := F
  clear ho1 hN2 f1 f2 g4 g3 g2 lx w1 d1 d2 d3 hk1
  have kcN : kc ≠ bn := hck.ne hN
  have knC : kn ≠ bc := hnk.ne hC
  have hC3 := hC1.chg g5 (by simp [nbc.symm, knC.symm])
  have hck3 := hck1.chg g5 (by simp [kcN, kbc.symm])
  have hKR3 := hKR.chg g5 (by have := HF.out.1; simp; omega)
  have hR3 := hR.chg g5 (by have := HF.out.2; simp; omega)
  have g6 : Chg [bn, kn] w W2 := (g1.sub (by simp)).then g5 (by simp)
  clear hC1 hck1 hKR hR g1 g5 hN1 hnk1
  have d1 := hC3.cell (k := 0) rfl
  go_wp2
  refine wp_region_parts (fun w' => w'.cell? ⟨bc, 0, none⟩ = some (.slice (some ⟨kc, 0, none⟩) 63 ckp))
    [(0, false), (1, false), (2, false), (3, false), (4, true), (5, false), (6, false), (7, false), (8, true), (9, false)] [(10, true), (11, true), (12, true), (13, true)] (by kernel_rfl) (fun _ _ _ _ _ h => h) (by kernel_rfl) d1 ?_
  simp only [pick, List.map_cons, List.map_nil, List.getElem?_toArray, List.getElem?_cons_zero, List.getElem?_cons_succ]
  repeat (refine Heads.cons (v := ?_) ?_ ?_; rotate_left 1; (· (intro w' hw'; (first | (have hw2 := hw' rfl; clear hw') | clear hw'); go_simp; (try with_reducible rfl); done)); simp only [Act.put, List.setIfInBounds_toArray, List.set_cons_zero, List.set_cons_succ])
  refine Heads.nil ?_
  refine Rest.cons (fun K hK => ?_)
  go_simp
  refine (deleteS' W2.drew _ kc 31 63 (A ++ Value.string x :: B) _ _ rfl rfl hck3.drew (by omega) (by rw [HX.out]; omega) (fun u hu => by
    rcases List.mem_append.1 hu with h | h
    · exact ok3 u h
    · rcases List.mem_cons.1 h with rfl | h
      · rfl
      · exact ok4 u h)).mono ?_
  rintro e w3 ⟨v3, rfl, ho3, g7⟩
  refine hK.out _ _ (fun h => by cases h) ?_
  clear hK K
  have eK : (A ++ Value.string x :: B).take 31 ++ (A ++ Value.string x :: B).drop 63 = A := by
    rw [List.drop_eq_nil_of_le (by rw [HX.out]; omega), List.append_nil, List.take_append_of_le_length (by omega), List.take_of_length_le (by omega)]
  rw [eK] at ho3
  clear eK
  obtain ⟨p3, rfl⟩ := ho3.form
  rw [hA] at ho3
  have kcC : kc ≠ bc := hck.ne hC
  have hC4 := Blk.chg hC3.drew g7 (by simpa using kcC.symm)
  have f1 := hC4.cell (k := 0) rfl
  have f2 := hC4.frozen 0
  refine Rest.cons (fun K hK => ?_)
  go_simp
  refine hK.out _ _ (fun h => by cases h) ?_
  clear hK K
  refine Rest.cons (fun K hK => ?_)
  go_simp
  refine hK.out _ _ (fun h => by cases h) ?_
  clear hK K
  refine Rest.cons (fun K hK => ?_)
  go_simp
  refine hK.out _ _ (fun h => by cases h) (Rest.nil ?_)
  clear hK K
  have F : Blk (w3.setCell ⟨bc, 0, none⟩ (.slice (some ⟨kc, 0, none⟩) 31 p3)) bc 59 [.slice (some ⟨kc, 0, none⟩) 31 p3, .slice ca cl ck] ∧
      Own (w3.setCell ⟨bc, 0, none⟩ (.slice (some ⟨kc, 0, none⟩) 31 p3)) 9 (.slice (some ⟨kc, 0, none⟩) 31 p3) kc A ∧ Chg [bc, kc] W2 (w3.setCell ⟨bc, 0, none⟩ (.slice (some ⟨kc, 0, none⟩) 31 p3)) :=
    ⟨hC4.set 0 _, ho3.setOther kcC _, (g7.undrew.sub (by simp)).setCell (Or.inl (by simp)) _⟩
  generalize w3.setCell _ _ = W3 at F ⊢
  obtain ⟨hC5, hO5, g8⟩ := F
  clear ho3 hC4 f1 f2 g7 w3 d1
  have k1C : k1 ≠ bc := hO3.ne hC3
  have k1c : k1 ≠ kc := by rcases k1w with h | h <;> omega
  have hN5 := hN3.chg g8 (by simp [nbc, kcN.symm])
  have hnk5 := hO3.chg g8 (by simp [k1C, k1c])
  have hKR5 := hKR3.chg g8 (by have := HF.out.1; simp; omega)
  have hR5 := hR3.chg g8 (by have := HF.out.2; simp; omega)
  have g9 : Chg [bn, kn, bc, kc] w W3 := (g6.sub (by simp)).then g8 (by simp)
  clear hN3 hO3 hC3 hck3 hKR3 hR3 g6 g8
  go_wp2_with fail
  refine (leaf_any _ bc _ ca cl ck hC5).mono ?_
  rintro e w4 ⟨rfl, rfl⟩
  have cnN : cn ≠ bn := hnc.ne hN
  have cnC : cn ≠ bc := hnc.ne hC
  have cnk : cn ≠ kn := hnc.ne2 hnk
  have cnc : cn ≠ kc := hnc.ne2 hck
  have ltcn : cn < w.heap.size := hnc.lt
  have hnc5 := hnc.chg g9 (by simp [cnN, cnC, cnk, cnc])
  have b2 : IntKind.i64.wrap ((i : Int) + 1) = (i : Int) + 1 := by rw [IntKind.wrap_i64]; omega
  have hkr5 : Own w4 9 (.slice (some ⟨kr, 0, none⟩) 31 63) kr B := ⟨Z.drop 31, by simp [hB, HZ.out], hKR5, by simp [hB, HZ.out]⟩
  clear hKR5
  by_cases hleaf : dcs = []
  · obtain ⟨e1, e2, e3⟩ : Value.slice ca cl ck = .slice none 0 0 ∧ dcs = [] ∧ cc = [] := by
      rcases HK0.out with h | ⟨b, h, _⟩
      · exact h
      · rw [hleaf] at h; cases h
    obtain ⟨rfl, rfl, rfl⟩ : ca = none ∧ cl = 0 ∧ ck = 0 := by simpa using e1
    subst e2
    subst e3
    clear e1
    have hkc5 : Kids w4 (.slice none 0 0) [] ([] : List Value) := kids_nil _
    have hkr6 : Kids w4 (.slice none 0 0) [] ([] : List Value) := kids_nil _
    have HQ : Hid (([] : List Value).take 32 = [] ∧ ([] : List Value).drop 32 = []) := ⟨rfl, rfl⟩
    have hfr : ∀ d ∈ ([] : List Nat), w.heap.size ≤ d := by simp
    have hdc : ∀ d ∈ ([] : List Nat), d ≠ cn := by simp
    have d1 := hN5.cell (k := 1) rfl
    go_wp2_with fail
    have g2 : Chg [] w4 (w4.alloc (.cells #[ptr br] 34)) := (Chg.refl _ _).alloc _
    have lx : Blk (w4.alloc (.cells #[ptr br] 34)) w4.heap.size 34 [ptr br] := Blk.new w4 [ptr br] 34
    refine (insertN' _ _ cn w4.heap.size (i + 1) _ cps (ptr br) (by simp) (hnc5.chg g2 (by simp)) (by omega) (by omega) lx (by have := hnc5.lt; omega) rfl ok2).mono ?_
    rintro e w5 ⟨v5, rfl, c5, ho5, hc5, g3⟩
    have g4 : Chg [cn] w4 w5 := (g2.sub (by simp)).then g3 (by simp)
    have c5w : c5 = cn ∨ w.heap.size ≤ c5 := by
      rcases hc5 with h | h
      · exact Or.inl h
      · right; simp at h; have := g9.size; omega
    have c5d : c5 ∉ ([] : List Nat) := by
      intro hd
      rcases hc5 with h | h
      · have := hfr c5 hd; omega
      · have := (hkr6.own hd).1.lt
        simp at h; omega
    obtain ⟨CN, hCN⟩ : ∃ CN, CN = cps.take (i + 1) ++ ptr br :: cps.drop (i + 1) := ⟨_, rfl⟩
    rw [← hCN] at ho5
    have HCN : Hid (CN = cps.take (i + 1) ++ ptr br :: cps.drop (i + 1)) := hCN
    clear hCN
    obtain ⟨p5, rfl⟩ := ho5.form
    have hN6 := hN5.chg g4 (by simpa using cnN.symm)
    have f1 := hN6.cell (k := 1) rfl
    have f2 := hN6.frozen 1
    have R : Hid (∃ nkv' ncv' kn' cn' ckv' ccv' br kr rkv rcv drs,
      Blk (w5.setCell ⟨bn, 1, none⟩ (.slice (some ⟨c5, 0, none⟩) CN.length p5)) bn 59 [nkv', ncv'] ∧ Own (w5.setCell ⟨bn, 1, none⟩ (.slice (some ⟨c5, 0, none⟩) CN.length p5)) 9 nkv' kn' (ks.take i ++ .string x :: ks.drop i) ∧ Own (w5.setCell ⟨bn, 1, none⟩ (.slice (some ⟨c5, 0, none⟩) CN.length p5)) 34 ncv' cn' (cps.take (i + 1) ++ ptr br :: cps.drop (i + 1)) ∧
      Blk (w5.setCell ⟨bn, 1, none⟩ (.slice (some ⟨c5, 0, none⟩) CN.length p5)) bc 59 [ckv', ccv'] ∧ Own (w5.setCell ⟨bn, 1, none⟩ (.slice (some ⟨c5, 0, none⟩) CN.length p5)) 9 ckv' kc A ∧ Kids (w5.setCell ⟨bn, 1, none⟩ (.slice (some ⟨c5, 0, none⟩) CN.length p5)) ccv' ([] : List Nat) (([] : List Value).take 32) ∧ Blk (w5.setCell ⟨bn, 1, none⟩ (.slice (some ⟨c5, 0, none⟩) CN.length p5)) br 59 [rkv, rcv] ∧ Own (w5.setCell ⟨bn, 1, none⟩ (.slice (some ⟨c5, 0, none⟩) CN.length p5)) 9 rkv kr B ∧ Kids (w5.setCell ⟨bn, 1, none⟩ (.slice (some ⟨c5, 0, none⟩) CN.length p5)) rcv drs (([] : List Value).drop 32) ∧
      (kn' = kn ∨ w.heap.size ≤ kn') ∧ (cn' = cn ∨ w.heap.size ≤ cn') ∧ w.heap.size ≤ br ∧ w.heap.size ≤ kr ∧ (∀ d ∈ drs, w.heap.size ≤ d) ∧ (drs = [] ↔ ([] : List Nat) = []) ∧ kr ≠ kn' ∧ cn' ∉ drs ∧
      Chg ([bn, kn, cn, bc, kc] ++ ([] : List Nat)) w (w5.setCell ⟨bn, 1, none⟩ (.slice (some ⟨c5, 0, none⟩) CN.length p5))) := by
      have k1N : k1 ≠ bn := hnk5.ne hN5
      have k1n : k1 ≠ cn := (hnc5.ne2 hnk5).symm
      have krn : kr ≠ cn := by have := HF.out.1; omega
      have krN : kr ≠ bn := by have := HF.out.1; omega
      have brn : br ≠ cn := by have := HF.out.2; omega
      have brN : br ≠ bn := by have := HF.out.2; omega
      refine ⟨_, _, k1, c5, _, _, br, kr, _, _, ([] : List Nat), hN6.set 1 _, ?_, ?_, (hC5.chg g4 (by simpa using cnC.symm)).setOther nbc.symm _, (hO5.chg g4 (by simpa using cnc.symm)).setOther kcN _, ?_, (hR5.chg g4 (by simpa using brn)).setOther brN _, (hkr5.chg g4 (by simpa using krn)).setOther krN _, ?_,
        k1w, c5w, by have := HF.out.2; omega, by have := HF.out.1; omega, hfr, Iff.rfl, k1r, c5d, ?_⟩
      · rw [← HKN.out]; exact (hnk5.chg g4 (by simpa using k1n)).setOther k1N _
      · rw [← HCN.out]; exact ho5.setOther (ho5.ne hN6) _
      · exact (hkc5.chg g4 (fun d hd => by simpa using hdc d hd)).setCell (fun d hd => ((hkc5.own hd).1.ne hN5)) _
      · exact (hkr6.chg g4 (fun d hd => by have := hfr d hd; simp; omega)).setCell (fun d hd => ((hkr6.own hd).1.ne hN5)) _
      · exact ((g9.sub (by simp)).then g4 (by simp)).setCell (Or.inl (by simp)) _
    clear ho5 hN5 hnk5 hnc5 hC5 hO5 hkc5 hR5 hkr5 hkr6 g9 g4 g3 g2 lx hN6
    go_wp2
    go_end0
    exact ⟨rfl, by simpa using R.out⟩
  · obtain ⟨dc, rfl, hcd0⟩ : ∃ dc, dcs = [dc] ∧ Own w 34 (.slice ca cl ck) dc cc := HK0.out.one hleaf
    have hcl := HD.out hleaf
    obtain ⟨dsp, hdv, hdB, hdm⟩ := id hcd0
    rw [hcl] at hdv
    obtain ⟨rfl, rfl, hck2⟩ : ca = some ⟨dc, 0, none⟩ ∧ cl = 64 ∧ ck = 64 + dsp.length := by simpa using hdv
    have q1 : 64 ≤ ck := by omega
    have q2 : ¬ ck = 32 := by omega
    have dcN : dc ≠ bn := hcd0.ne hN
    have dcC : dc ≠ bc := hcd0.ne hC
    have dck : dc ≠ kn := hcd0.ne2 hnk
    have dcc : dc ≠ kc := hcd0.ne2 hck
    have ltd : dc < w.heap.size := hcd0.lt
    have hcd := hcd0.chg g9 (by simp [dcN, dcC, dck, dcc])
    have dcn' : cn ≠ dc := by simpa using dcn
    have HCL : Hid (cc.length = 64) := hcl
    obtain ⟨Y, hY⟩ : ∃ Y, Y = List.replicate 64 (Value.pointer none) := ⟨_, rfl⟩
    have HY : Hid (Y.length = 64) := by show _ = _; rw [hY]; simp
    have hmk : ∀ w, (Instr.makeSlice 45 (.int .i64 32) (.int .i64 64)).run Try.prog w = .ok (.slice (some ⟨w.heap.size, 0, none⟩) 32 64) (w.alloc (.cells Y.toArray 34)) := fun w => by
      rw [hY]; exact make_run EN 32 32 64 rfl (by omega) (by omega) (by omega) w
    have f1 := (hR5.alloc (.cells Y.toArray 34)).cell (k := 1) rfl
    have f2 := (hR5.alloc (.cells Y.toArray 34)).frozen 1
    clear hdv hdB hdm hck2 hcl hY dsp
    go_wp2
    have ltr : kr < w4.heap.size := hkr5.lt
    have ltbr : br < w4.heap.size := hR5.lt
    have sz9 := g9.size
    have F : Blk ((w4.alloc (.cells Y.toArray 34)).setCell ⟨br, 1, none⟩ (.slice (some ⟨w4.heap.size, 0, none⟩) 32 64)) br 59 [.slice (some ⟨kr, 0, none⟩) 31 63, .slice (some ⟨w4.heap.size, 0, none⟩) 32 64] ∧
        Blk ((w4.alloc (.cells Y.toArray 34)).setCell ⟨br, 1, none⟩ (.slice (some ⟨w4.heap.size, 0, none⟩) 32 64)) w4.heap.size 34 Y ∧ Chg [br] w4 ((w4.alloc (.cells Y.toArray 34)).setCell ⟨br, 1, none⟩ (.slice (some ⟨w4.heap.size, 0, none⟩) 32 64)) :=
      ⟨(hR5.alloc _).set 1 _, (Blk.new w4 Y 34).setOther (by simp; omega) _, ((Chg.refl _ _).alloc _).setCell (Or.inl (by simp)) _⟩
    obtain ⟨dr, hdr⟩ : ∃ dr, dr = w4.heap.size := ⟨_, rfl⟩
    have HDR : Hid (dr = w4.heap.size) := hdr
    rw [← hdr] at F ⊢
    generalize World.setCell (World.alloc w4 _) _ _ = W5 at F ⊢
    obtain ⟨hR6, hDR6, g10⟩ := F
    clear hmk f1 f2 hdr
    have hC6 := hC5.chg g10 (by have := HF.out.2; simp; omega)
    have hcd6 := hcd.chg g10 (by have := HF.out.2; simp; omega)
    have d1 := hR6.cell (k := 1) rfl
    have d2 := hC6.cell (k := 1) rfl
    refine wp_region_parts (fun w' => w'.cell? ⟨br, 1, none⟩ = some (.slice (some ⟨dr, 0, none⟩) 32 64) ∧ w'.cell? ⟨bc, 1, none⟩ = some (.slice (some ⟨dc, 0, none⟩) 64 ck))
      [(0, false), (1, false), (2, false), (3, true), (4, false), (5, false), (6, false), (7, true), (8, false)] [(9, true)] (by kernel_rfl) (fun _ _ _ _ _ h => h) (by kernel_rfl) ⟨d1, d2⟩ ?_
    simp only [pick, List.map_cons, List.map_nil, List.getElem?_toArray, List.getElem?_cons_zero, List.getElem?_cons_succ]
    repeat (refine Heads.cons (v := ?_) ?_ ?_; rotate_left 1; (· (intro w' hw'; (first | (obtain ⟨_, _⟩ := hw' rfl; clear hw') | clear hw'); go_simp; (try with_reducible rfl); done)); simp only [Act.put, List.setIfInBounds_toArray, List.set_cons_zero, List.set_cons_succ])
    refine Heads.nil ?_
    have hS : (Try.prog.info? 34).map (·.size) = some 1 := by
      obtain ⟨i0, hi0, h0, h1, h2⟩ := info_parts EN.info
      rw [hi0]; simp [h1]
    have hl32 : (cc.drop 32).length = 32 := by rw [List.length_drop, HCL.out]
    have hcp : ∀ ty, (Builtin.copy_ #[45, 45] ty #[.slice (some ⟨dr, 0, none⟩) 32 64, .slice (some ⟨dc, 32, none⟩) 32 (ck - 32)]).run Try.prog W5.drew = .ok (goInt (cc.drop 32).length) (W5.drew.setCells dr 0 (cc.drop 32)) := fun ty => by
      obtain ⟨sp, _, hB6, _⟩ := hcd6
      exact run_copy_cells W5.drew _ _ ty 34 dr 0 32 64 ⟨dc, 32, none⟩ 32 (ck - 32) (cc.drop 32) EN.und hS (by rw [hl32]; rfl)
        (hB6.drew.cells 32 _ (fun j v hj => by
          have hjl := (List.getElem?_eq_some_iff.1 hj).1
          rw [List.getElem?_drop] at hj
          rw [List.getElem?_append_left (by rw [HCL.out]; omega)]; exact hj))
        (fun j hj => hDR6.drew.isSome (by rw [HY.out]; omega)) (fun j hj => hDR6.drew.frozen _) (fun v hv => ok5 v (List.mem_of_mem_drop hv))
    refine Rest.cons (fun K hK => ?_)
    refine wp_copy_eq _ _ _ 45 45 rfl _ _ rfl rfl (hcp _) ?_
    refine hK.out _ _ (fun h => by cases h) (Rest.nil ?_)
    clear hK K hcp
    have F : Own (W5.drew.setCells dr 0 (cc.drop 32)) 34 (.slice (some ⟨dr, 0, none⟩) 32 64) dr (cc.drop 32) ∧ Chg [dr] W5 (W5.drew.setCells dr 0 (cc.drop 32)) := by
      have h9 := hDR6.drew.setCells (cc.drop 32) 0 (by rw [HY.out, hl32]; omega)
      rw [over, List.take_zero, List.nil_append, Nat.zero_add, hl32] at h9
      exact ⟨⟨Y.drop 32, by simp [hl32, HY.out], h9, by simp [hl32, HY.out]⟩, Chg.setCells (Or.inl (by simp)) _ _ (Chg.refl _ _).drew⟩
    obtain ⟨T, hT⟩ : ∃ T, T = cc.drop 32 := ⟨_, rfl⟩
    have HT : Hid (T = cc.drop 32) := hT
    rw [← hT] at F hl32 ⊢
    generalize World.setCells W5.drew _ _ _ = W6 at F ⊢
    obtain ⟨hdr6, g11⟩ := F
    have nd1 : ∀ b, b < w4.heap.size → b ∉ [dr] := fun b h => by have := HDR.out; simp; omega
    have hC7 := hC6.chg g11 (nd1 _ (by omega))
    have hR7 := hR6.chg g11 (nd1 _ ltbr)
    have hcd7 := hcd6.chg g11 (nd1 _ (by omega))
    have g12 : Chg [br] w4 W6 := (g10.sub (by simp)).then g11 (by have := HDR.out; simp; omega)
    clear hC6 hR6 hcd6 g10 g11 hDR6 hS hT d1 d2
    have d1 := hC7.cell (k := 1) rfl
    go_wp2
    refine wp_region_parts (fun w' => w'.cell? ⟨bc, 1, none⟩ = some (.slice (some ⟨dc, 0, none⟩) 64 ck))
      [(0, false), (1, false), (2, false), (3, false), (4, true), (5, false), (6, false), (7, false), (8, true), (9, false)] [(10, true), (11, true), (12, true), (13, true)] (by kernel_rfl) (fun _ _ _ _ _ h => h) (by kernel_rfl) d1 ?_
    simp only [pick, List.map_cons, List.map_nil, List.getElem?_toArray, List.getElem?_cons_zero, List.getElem?_cons_succ]
    repeat (refine Heads.cons (v := ?_) ?_ ?_; rotate_left 1; (· (intro w' hw'; (first | (have hw2 := hw' rfl; clear hw') | clear hw'); go_simp; (try with_reducible rfl); done)); simp only [Act.put, List.setIfInBounds_toArray, List.set_cons_zero, List.set_cons_succ])
    refine Heads.nil ?_
    refine Rest.cons (fun K hK => ?_)
    go_simp
    refine (deleteN' W6.drew _ dc 32 64 cc _ _ rfl rfl hcd7.drew (by omega) (by rw [HCL.out]; omega) ok5).mono ?_
    rintro e w7 ⟨v7, rfl, ho7, g13⟩
    refine hK.out _ _ (fun h => by cases h) ?_
    clear hK K
    obtain ⟨U, hU⟩ : ∃ U, U = cc.take 32 := ⟨_, rfl⟩
    have HU : Hid (U = cc.take 32) := hU
    rw [List.drop_eq_nil_of_le (by rw [HCL.out]; omega), List.append_nil, ← hU] at ho7
    clear hU
    obtain ⟨p7, rfl⟩ := ho7.form
    have hC8 := Blk.chg hC7.drew g13 (by simpa using dcC.symm)
    have f1 := hC8.cell (k := 1) rfl
    have f2 := hC8.frozen 1
    refine Rest.cons (fun K hK => ?_)
    go_simp
    refine hK.out _ _ (fun h => by cases h) ?_
    clear hK K
    refine Rest.cons (fun K hK => ?_)
    go_simp
    refine hK.out _ _ (fun h => by cases h) ?_
    clear hK K
    refine Rest.cons (fun K hK => ?_)
    go_simp
    refine hK.out _ _ (fun h => by cases h) (Rest.nil ?_)
    clear hK K
    have F : Blk (w7.setCell ⟨bc, 1, none⟩ (.slice (some ⟨dc, 0, none⟩) U.length p7)) bc 59 [.slice (some ⟨kc, 0, none⟩) 31 p3, .slice (some ⟨dc, 0, none⟩) U.length p7] ∧
        Own (w7.setCell ⟨bc, 1, none⟩ (.slice (some ⟨dc, 0, none⟩) U.length p7)) 34 (.slice (some ⟨dc, 0, none⟩) U.length p7) dc U ∧ Chg [bc, dc] W6 (w7.setCell ⟨bc, 1, none⟩ (.slice (some ⟨dc, 0, none⟩) U.length p7)) :=
      ⟨hC8.set 1 _, ho7.setOther dcC _, (g13.undrew.sub (by simp)).setCell (Or.inl (by simp)) _⟩
    generalize w7.setCell _ _ = W8 at F ⊢
    obtain ⟨hC9, hdc9, g14⟩ := F
    have hR9 := hR7.chg g14 (by have := HF.out.2; simp; omega)
    have hdr9 := hdr6.chg g14 (by have := HDR.out; simp; omega)
    have g15 : Chg [br, bc, dc] w4 W8 := (g12.sub (by simp)).then g14 (by simp)
    have k1b : k1 ≠ br := hnk5.ne hR5
    have k1d : k1 ≠ dc := (hcd.ne2 hnk5).symm
    have hN9 := hN5.chg g15 (by have := HF.out.2; simp [nbc, dcN.symm]; omega)
    have hnk9 := hnk5.chg g15 (by simp [k1b, k1C, k1d])
    have hnc9 := hnc5.chg g15 (by have := HF.out.2; simp [cnC, dcn']; omega)
    have hO9 := hO5.chg g15 (by have := HF.out.2; simp [kcC, dcc.symm]; omega)
    have hkr9 := hkr5.chg g15 (by have := HF.out.1; have := HF.out.2; simp; omega)
    have g16 : Chg [bn, kn, bc, kc, dc] w W8 := (g9.sub (by simp)).then g15 (by have := HF.out.2; simp; omega)
    clear hN5 hnk5 hnc5 hO5 hkr5 hR5 hC5 hcd g9 g12 g14 g15 hC7 hR7 hcd7 hdr6 hC8 ho7 f1 f2 g13 d1
    have hN5 := hN9
    have hnk5 := hnk9
    have hnc5 := hnc9
    have hO5 := hO9
    have hkr5 := hkr9
    have hR5 := hR9
    have hC5 := hC9
    have g9 := g16
    clear hN9 hnk9 hnc9 hO9 hkr9 hR9 hC9 g16
    have hkc5 : Kids W8 (.slice (some ⟨dc, 0, none⟩) U.length p7) [dc] U := Or.inr ⟨dc, rfl, hdc9⟩
    have hkr6 : Kids W8 (.slice (some ⟨dr, 0, none⟩) 32 64) [dr] T := Or.inr ⟨dr, rfl, hdr9⟩
    have hfr : ∀ d ∈ [dr], w.heap.size ≤ d := by have := HDR.out; simp; omega
    have hiff : [dr] = [] ↔ [dc] = [] := by simp
    have hdc : ∀ d ∈ [dc], d ≠ cn := by simpa using dcn'.symm
    clear hdc9 hdr9
    have d1 := hN5.cell (k := 1) rfl
    go_wp2_with fail
    have g2 : Chg [] W8 (W8.alloc (.cells #[ptr br] 34)) := (Chg.refl _ _).alloc _
    have lx : Blk (W8.alloc (.cells #[ptr br] 34)) W8.heap.size 34 [ptr br] := Blk.new W8 [ptr br] 34
    refine (insertN' _ _ cn W8.heap.size (i + 1) _ cps (ptr br) (by simp) (hnc5.chg g2 (by simp)) (by omega) (by omega) lx (by have := hnc5.lt; omega) rfl ok2).mono ?_
    rintro e w5 ⟨v5, rfl, c5, ho5, hc5, g3⟩
    have g4 : Chg [cn] W8 w5 := (g2.sub (by simp)).then g3 (by simp)
    have c5w : c5 = cn ∨ w.heap.size ≤ c5 := by
      rcases hc5 with h | h
      · exact Or.inl h
      · right; simp at h; have := g9.size; omega
    have c5d : c5 ∉ [dr] := by
      intro hd
      rcases hc5 with h | h
      · have := hfr c5 hd; omega
      · have := (hkr6.own hd).1.lt
        simp at h; omega
    obtain ⟨CN, hCN⟩ : ∃ CN, CN = cps.take (i + 1) ++ ptr br :: cps.drop (i + 1) := ⟨_, rfl⟩
    rw [← hCN] at ho5
    have HCN : Hid (CN = cps.take (i + 1) ++ ptr br :: cps.drop (i + 1)) := hCN
    clear hCN
    obtain ⟨p5, rfl⟩ := ho5.form
    have hN6 := hN5.chg g4 (by simpa using cnN.symm)
    have f1 := hN6.cell (k := 1) rfl
    have f2 := hN6.frozen 1
    have R : Hid (∃ nkv' ncv' kn' cn' ckv' ccv' br kr rkv rcv drs,
      Blk (w5.setCell ⟨bn, 1, none⟩ (.slice (some ⟨c5, 0, none⟩) CN.length p5)) bn 59 [nkv', ncv'] ∧ Own (w5.setCell ⟨bn, 1, none⟩ (.slice (some ⟨c5, 0, none⟩) CN.length p5)) 9 nkv' kn' (ks.take i ++ .string x :: ks.drop i) ∧ Own (w5.setCell ⟨bn, 1, none⟩ (.slice (some ⟨c5, 0, none⟩) CN.length p5)) 34 ncv' cn' (cps.take (i + 1) ++ ptr br :: cps.drop (i + 1)) ∧
      Blk (w5.setCell ⟨bn, 1, none⟩ (.slice (some ⟨c5, 0, none⟩) CN.length p5)) bc 59 [ckv', ccv'] ∧ Own (w5.setCell ⟨bn, 1, none⟩ (.slice (some ⟨c5, 0, none⟩) CN.length p5)) 9 ckv' kc A ∧ Kids (w5.setCell ⟨bn, 1, none⟩ (.slice (some ⟨c5, 0, none⟩) CN.length p5)) ccv' [dc] (cc.take 32) ∧ Blk (w5.setCell ⟨bn, 1, none⟩ (.slice (some ⟨c5, 0, none⟩) CN.length p5)) br 59 [rkv, rcv] ∧ Own (w5.setCell ⟨bn, 1, none⟩ (.slice (some ⟨c5, 0, none⟩) CN.length p5)) 9 rkv kr B ∧ Kids (w5.setCell ⟨bn, 1, none⟩ (.slice (some ⟨c5, 0, none⟩) CN.length p5)) rcv drs (cc.drop 32) ∧
      (kn' = kn ∨ w.heap.size ≤ kn') ∧ (cn' = cn ∨ w.heap.size ≤ cn') ∧ w.heap.size ≤ br ∧ w.heap.size ≤ kr ∧ (∀ d ∈ drs, w.heap.size ≤ d) ∧ (drs = [] ↔ [dc] = []) ∧ kr ≠ kn' ∧ cn' ∉ drs ∧
      Chg ([bn, kn, cn, bc, kc] ++ [dc]) w (w5.setCell ⟨bn, 1, none⟩ (.slice (some ⟨c5, 0, none⟩) CN.length p5))) := by
      have k1N : k1 ≠ bn := hnk5.ne hN5
      have k1n : k1 ≠ cn := (hnc5.ne2 hnk5).symm
      have krn : kr ≠ cn := by have := HF.out.1; omega
      have krN : kr ≠ bn := by have := HF.out.1; omega
      have brn : br ≠ cn := by have := HF.out.2; omega
      have brN : br ≠ bn := by have := HF.out.2; omega
      refine ⟨_, _, k1, c5, _, _, br, kr, _, _, [dr], hN6.set 1 _, ?_, ?_, (hC5.chg g4 (by simpa using cnC.symm)).setOther nbc.symm _, (hO5.chg g4 (by simpa using cnc.symm)).setOther kcN _, ?_, (hR5.chg g4 (by simpa using brn)).setOther brN _, (hkr5.chg g4 (by simpa using krn)).setOther krN _, ?_,
        k1w, c5w, by have := HF.out.2; omega, by have := HF.out.1; omega, hfr, hiff, k1r, c5d, ?_⟩
      · rw [← HKN.out]; exact (hnk5.chg g4 (by simpa using k1n)).setOther k1N _
      · rw [← HCN.out]; exact ho5.setOther (ho5.ne hN6) _
      · rw [← HU.out]; exact (hkc5.chg g4 (fun d hd => by simpa using hdc d hd)).setCell (fun d hd => ((hkc5.own hd).1.ne hN5)) _
      · rw [← HT.out]; exact (hkr6.chg g4 (fun d hd => by have := hfr d hd; simp; omega)).setCell (fun d hd => ((hkr6.own hd).1.ne hN5)) _
      · exact ((g9.sub (by simp)).then g4 (by simp)).setCell (Or.inl (by simp)) _
    clear ho5 hN5 hnk5 hnc5 hC5 hO5 hkc5 hR5 hkr5 hkr6 g9 g4 g3 g2 lx hN6
    go_wp2
    go_end0
    exact ⟨rfl, R.out⟩
end Go.Proofs.Qxb6601743a
