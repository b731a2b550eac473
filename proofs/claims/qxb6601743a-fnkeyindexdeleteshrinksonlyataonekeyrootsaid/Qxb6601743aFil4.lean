import Derived.Test.Qxb6601743aFil
namespace Go.Proofs.Qxb6601743a
open Go.RowKit

set_option maxHeartbeats 2000000 in
set_option maxRecDepth 100000 in
/-- fill merges child i with its right sibling. -/
theorem fill_merge0 (w : World) (bn kn cn bc kc br kr i : Nat) (dcs drs : List Nat) (nkv ncv ckv ccv rkv rcv : Value) (x : ByteArray) (ks cps kcs krs cc rc : List Value)
    (hN : Blk w bn 59 [nkv, ncv]) (hnk : Own w 9 nkv kn ks) (hnc : Own w 34 ncv cn cps) (hC : Blk w bc 59 [ckv, ccv]) (hck : Own w 9 ckv kc kcs) (hR : Blk w br 59 [rkv, rcv]) (hrk : Own w 9 rkv kr krs)
    (hcc : Kids w ccv dcs cc) (hrc : Kids w rcv drs rc) (hboth : dcs = [] ↔ drs = [])
    (h1 : cps[i]? = some (ptr bc)) (h2 : cps[i + 1]? = some (ptr br)) (hx : ks[i]? = some (.string x))
    (nbc : bn ≠ bc) (ncr : bc ≠ br) (kbc : kn ≠ kc) (kcr : kc ≠ kr) (dcn : cn ∉ dcs)
    (ok1 : ∀ u ∈ ks, u.oneCell' = true) (ok2 : ∀ u ∈ cps, u.oneCell' = true) (ok3 : ∀ u ∈ krs, u.oneCell' = true) (ok4 : ∀ u ∈ rc, u.oneCell' = true)
    (s1 : ks.length ≤ 1000000) (s2 : cps.length ≤ 1000000) (s3 : kcs.length ≤ 1000000) (s4 : krs.length ≤ 1000000) (s5 : cc.length ≤ 1000000) (s6 : rc.length ≤ 1000000)
    (hi0 : i = 0) (hr31 : krs.length ≤ 31) :
    Calls Try.prog 42 #[ptr bn, .int .i64 i] w fun en w' => en = .returned (.int .i64 i) ∧ ∃ nkv' ncv' ckv' ccv' kc' dcs',
      Blk w' bn 59 [nkv', ncv'] ∧ Own w' 9 nkv' kn (ks.take i ++ ks.drop (i + 1)) ∧ Own w' 34 ncv' cn (cps.take (i + 1) ++ cps.drop (i + 2)) ∧
      Blk w' bc 59 [ckv', ccv'] ∧ Own w' 9 ckv' kc' (kcs ++ [.string x] ++ krs) ∧ Kids w' ccv' dcs' (cc ++ rc) ∧
      (kc' = kc ∨ w.heap.size ≤ kc') ∧ (∀ d ∈ dcs', d ∈ dcs ∨ w.heap.size ≤ d) ∧ (dcs' = [] ↔ dcs = []) ∧ Chg ([bn, kn, cn, bc, kc] ++ dcs) w w' := by
  have li : i < ks.length := (List.getElem?_eq_some_iff.1 hx).1
  have lc' : i + 1 < cps.length := (List.getElem?_eq_some_iff.1 h2).1
  have M := fun W (I : Int) (hI : I = i) (hc : Chg [] w W) => hI ▸ merge_any W bn kn cn bc kc br kr i dcs drs nkv ncv ckv ccv rkv rcv x ks cps kcs krs cc rc (hN.chg hc (by simp)) (hnk.chg hc (by simp)) (hnc.chg hc (by simp)) (hC.chg hc (by simp)) (hck.chg hc (by simp)) (hR.chg hc (by simp)) (hrk.chg hc (by simp)) (hcc.chg hc (by simp)) (hrc.chg hc (by simp)) hboth h1 h2 hx nbc ncr kbc kcr dcn ok1 ok2 ok3 ok4 s1 s2 s3 s4 s5 s6
  have b2 : ¬ (0 : Int) < (i : Int) := by omega
  have b2' : decide ((0 : Int) < (i : Int)) = false := by simp; omega
  clear hi0
  have b1 : (i : Int) < (cps.length : Int) := by omega
  have b3 : IntKind.i64.wrap ((i : Int) + 1) = (i : Int) + 1 := by rw [IntKind.wrap_i64]; omega
  have b4 : (0 : Int) ≤ (i : Int) + 1 := by omega
  have b5 : ((i : Int) + 1).toNat = i + 1 := by omega
  have b6 : (i : Int) < (ks.length : Int) := by omega
  have b7 : (i : Int) + 1 < (cps.length : Int) := by omega
  have b8 : ¬ (31 : Int) < (krs.length : Int) := by omega
  have b8' : decide ((31 : Int) < (krs.length : Int)) = false := by simp; omega
  obtain ⟨nkp, rfl⟩ := hnk.form
  obtain ⟨csp, rfl, hncB, hncm⟩ := id hnc
  obtain ⟨rkp, rfl⟩ := hrk.form
  have c0 := hN.cell (k := 0) rfl
  have c1 := hN.cell (k := 1) rfl
  have c2 : w.cell? ⟨cn, i, none⟩ = some (ptr bc) := hncB.cell (by rw [List.getElem?_append_left (by omega)]; exact h1)
  have c3 : w.cell? ⟨cn, i + 1, none⟩ = some (ptr br) := hncB.cell (by rw [List.getElem?_append_left (by omega)]; exact h2)
  have c4 := hR.cell (k := 0) rfl
  have HM := M w _ rfl (Chg.refl _ _)
  clear M
  have HM' : Hid (Calls Try.prog 50 #[ptr bn, .int .i64 i] w fun en w' => en = .returned (.tuple #[]) ∧ ∃ nkv' ncv' ckv' ccv' kc' dcs',
      Blk w' bn 59 [nkv', ncv'] ∧ Own w' 9 nkv' kn (ks.take i ++ ks.drop (i + 1)) ∧ Own w' 34 ncv' cn (cps.take (i + 1) ++ cps.drop (i + 2)) ∧
      Blk w' bc 59 [ckv', ccv'] ∧ Own w' 9 ckv' kc' (kcs ++ [.string x] ++ krs) ∧ Kids w' ccv' dcs' (cc ++ rc) ∧
      (kc' = kc ∨ w.heap.size ≤ kc') ∧ (∀ d ∈ dcs', d ∈ dcs ∨ w.heap.size ≤ d) ∧ (dcs' = [] ↔ dcs = []) ∧ Chg ([bn, kn, cn, bc, kc] ++ dcs) w w') := HM
  clear HM hN hnk hnc hC hck hR hrk hcc hrc hncB
  go_enter Try.func42, Try.ntmps42
  go_wp2_with fail
  refine HM'.out.mono ?_
  rintro e w1 ⟨rfl, hp⟩
  have HP : Hid (∃ nkv' ncv' ckv' ccv' kc' dcs',
      Blk w1 bn 59 [nkv', ncv'] ∧ Own w1 9 nkv' kn (ks.take i ++ ks.drop (i + 1)) ∧ Own w1 34 ncv' cn (cps.take (i + 1) ++ cps.drop (i + 2)) ∧
      Blk w1 bc 59 [ckv', ccv'] ∧ Own w1 9 ckv' kc' (kcs ++ [.string x] ++ krs) ∧ Kids w1 ccv' dcs' (cc ++ rc) ∧
      (kc' = kc ∨ w.heap.size ≤ kc') ∧ (∀ d ∈ dcs', d ∈ dcs ∨ w.heap.size ≤ d) ∧ (dcs' = [] ↔ dcs = []) ∧ Chg ([bn, kn, cn, bc, kc] ++ dcs) w w1) := hp
  clear hp
  go_wp2
  go_ret
  exact ⟨rfl, HP.out⟩

set_option maxHeartbeats 2000000 in
set_option maxRecDepth 100000 in
/-- fill merges child i with its right sibling. -/
theorem fill_merge1 (w : World) (bn kn cn bc kc br kr i : Nat) (dcs drs : List Nat) (nkv ncv ckv ccv rkv rcv : Value) (x : ByteArray) (ks cps kcs krs cc rc : List Value)
    (hN : Blk w bn 59 [nkv, ncv]) (hnk : Own w 9 nkv kn ks) (hnc : Own w 34 ncv cn cps) (hC : Blk w bc 59 [ckv, ccv]) (hck : Own w 9 ckv kc kcs) (hR : Blk w br 59 [rkv, rcv]) (hrk : Own w 9 rkv kr krs)
    (hcc : Kids w ccv dcs cc) (hrc : Kids w rcv drs rc) (hboth : dcs = [] ↔ drs = [])
    (h1 : cps[i]? = some (ptr bc)) (h2 : cps[i + 1]? = some (ptr br)) (hx : ks[i]? = some (.string x))
    (nbc : bn ≠ bc) (ncr : bc ≠ br) (kbc : kn ≠ kc) (kcr : kc ≠ kr) (dcn : cn ∉ dcs)
    (ok1 : ∀ u ∈ ks, u.oneCell' = true) (ok2 : ∀ u ∈ cps, u.oneCell' = true) (ok3 : ∀ u ∈ krs, u.oneCell' = true) (ok4 : ∀ u ∈ rc, u.oneCell' = true)
    (s1 : ks.length ≤ 1000000) (s2 : cps.length ≤ 1000000) (s3 : kcs.length ≤ 1000000) (s4 : krs.length ≤ 1000000) (s5 : cc.length ≤ 1000000) (s6 : rc.length ≤ 1000000)
    (hi0 : 0 < i) (bl ln lcap : Nat) (la : Option Addr) (lcv : Value) (hL : Blk w bl 59 [.slice la ln lcap, lcv]) (hl1 : cps[i - 1]? = some (ptr bl)) (hl2 : ln ≤ 31) (hr31 : krs.length ≤ 31) :
    Calls Try.prog 42 #[ptr bn, .int .i64 i] w fun en w' => en = .returned (.int .i64 i) ∧ ∃ nkv' ncv' ckv' ccv' kc' dcs',
      Blk w' bn 59 [nkv', ncv'] ∧ Own w' 9 nkv' kn (ks.take i ++ ks.drop (i + 1)) ∧ Own w' 34 ncv' cn (cps.take (i + 1) ++ cps.drop (i + 2)) ∧
      Blk w' bc 59 [ckv', ccv'] ∧ Own w' 9 ckv' kc' (kcs ++ [.string x] ++ krs) ∧ Kids w' ccv' dcs' (cc ++ rc) ∧
      (kc' = kc ∨ w.heap.size ≤ kc') ∧ (∀ d ∈ dcs', d ∈ dcs ∨ w.heap.size ≤ d) ∧ (dcs' = [] ↔ dcs = []) ∧ Chg ([bn, kn, cn, bc, kc] ++ dcs) w w' := by
  have li : i < ks.length := (List.getElem?_eq_some_iff.1 hx).1
  have lc' : i + 1 < cps.length := (List.getElem?_eq_some_iff.1 h2).1
  have M := fun W (I : Int) (hI : I = i) (hc : Chg [] w W) => hI ▸ merge_any W bn kn cn bc kc br kr i dcs drs nkv ncv ckv ccv rkv rcv x ks cps kcs krs cc rc (hN.chg hc (by simp)) (hnk.chg hc (by simp)) (hnc.chg hc (by simp)) (hC.chg hc (by simp)) (hck.chg hc (by simp)) (hR.chg hc (by simp)) (hrk.chg hc (by simp)) (hcc.chg hc (by simp)) (hrc.chg hc (by simp)) hboth h1 h2 hx nbc ncr kbc kcr dcn ok1 ok2 ok3 ok4 s1 s2 s3 s4 s5 s6
  have b2 : (0 : Int) < (i : Int) := by omega
  have a3 : IntKind.i64.wrap ((i : Int) - 1) = (i : Int) - 1 := by rw [IntKind.wrap_i64]; omega
  have a4 : (0 : Int) ≤ (i : Int) - 1 := by omega
  have a5 : ((i : Int) - 1).toNat = i - 1 := by omega
  have a7 : (i : Int) - 1 < (cps.length : Int) := by omega
  have a8 : ¬ (31 : Int) < (ln : Int) := by omega
  have a8' : decide ((31 : Int) < (ln : Int)) = false := by simp; omega
  have a9 : (1 : Int) ≤ (i : Int) := by omega
  have b1 : (i : Int) < (cps.length : Int) := by omega
  have b3 : IntKind.i64.wrap ((i : Int) + 1) = (i : Int) + 1 := by rw [IntKind.wrap_i64]; omega
  have b4 : (0 : Int) ≤ (i : Int) + 1 := by omega
  have b5 : ((i : Int) + 1).toNat = i + 1 := by omega
  have b6 : (i : Int) < (ks.length : Int) := by omega
  have b7 : (i : Int) + 1 < (cps.length : Int) := by omega
  have b8 : ¬ (31 : Int) < (krs.length : Int) := by omega
  have b8' : decide ((31 : Int) < (krs.length : Int)) = false := by simp; omega
  obtain ⟨nkp, rfl⟩ := hnk.form
  obtain ⟨csp, rfl, hncB, hncm⟩ := id hnc
  obtain ⟨rkp, rfl⟩ := hrk.form
  have c0 := hN.cell (k := 0) rfl
  have c1 := hN.cell (k := 1) rfl
  have c2 : w.cell? ⟨cn, i, none⟩ = some (ptr bc) := hncB.cell (by rw [List.getElem?_append_left (by omega)]; exact h1)
  have c3 : w.cell? ⟨cn, i + 1, none⟩ = some (ptr br) := hncB.cell (by rw [List.getElem?_append_left (by omega)]; exact h2)
  have c4 := hR.cell (k := 0) rfl
  have c7 : w.cell? ⟨cn, i - 1, none⟩ = some (ptr bl) := hncB.cell (by rw [List.getElem?_append_left (by omega)]; exact hl1)
  have c8 := hL.cell (k := 0) rfl
  have HM := M w _ rfl (Chg.refl _ _)
  clear M
  have HM' : Hid (Calls Try.prog 50 #[ptr bn, .int .i64 i] w fun en w' => en = .returned (.tuple #[]) ∧ ∃ nkv' ncv' ckv' ccv' kc' dcs',
      Blk w' bn 59 [nkv', ncv'] ∧ Own w' 9 nkv' kn (ks.take i ++ ks.drop (i + 1)) ∧ Own w' 34 ncv' cn (cps.take (i + 1) ++ cps.drop (i + 2)) ∧
      Blk w' bc 59 [ckv', ccv'] ∧ Own w' 9 ckv' kc' (kcs ++ [.string x] ++ krs) ∧ Kids w' ccv' dcs' (cc ++ rc) ∧
      (kc' = kc ∨ w.heap.size ≤ kc') ∧ (∀ d ∈ dcs', d ∈ dcs ∨ w.heap.size ≤ d) ∧ (dcs' = [] ↔ dcs = []) ∧ Chg ([bn, kn, cn, bc, kc] ++ dcs) w w') := HM
  clear HM hN hnk hnc hC hck hR hrk hcc hrc hncB
  go_enter Try.func42, Try.ntmps42
  go_wp2_with fail
  refine HM'.out.mono ?_
  rintro e w1 ⟨rfl, hp⟩
  have HP : Hid (∃ nkv' ncv' ckv' ccv' kc' dcs',
      Blk w1 bn 59 [nkv', ncv'] ∧ Own w1 9 nkv' kn (ks.take i ++ ks.drop (i + 1)) ∧ Own w1 34 ncv' cn (cps.take (i + 1) ++ cps.drop (i + 2)) ∧
      Blk w1 bc 59 [ckv', ccv'] ∧ Own w1 9 ckv' kc' (kcs ++ [.string x] ++ krs) ∧ Kids w1 ccv' dcs' (cc ++ rc) ∧
      (kc' = kc ∨ w.heap.size ≤ kc') ∧ (∀ d ∈ dcs', d ∈ dcs ∨ w.heap.size ≤ d) ∧ (dcs' = [] ↔ dcs = []) ∧ Chg ([bn, kn, cn, bc, kc] ++ dcs) w w1) := hp
  clear hp
  go_wp2
  go_ret
  exact ⟨rfl, HP.out⟩

set_option maxHeartbeats 2000000 in
set_option maxRecDepth 100000 in
/-- fill merges the last child, i + 1, with its left sibling. -/
theorem fill_mergeL (w : World) (bn kn cn bc kc br kr i : Nat) (dcs drs : List Nat) (nkv ncv ckv ccv rkv rcv : Value) (x : ByteArray) (ks cps kcs krs cc rc : List Value)
    (hN : Blk w bn 59 [nkv, ncv]) (hnk : Own w 9 nkv kn ks) (hnc : Own w 34 ncv cn cps) (hC : Blk w bc 59 [ckv, ccv]) (hck : Own w 9 ckv kc kcs) (hR : Blk w br 59 [rkv, rcv]) (hrk : Own w 9 rkv kr krs)
    (hcc : Kids w ccv dcs cc) (hrc : Kids w rcv drs rc) (hboth : dcs = [] ↔ drs = [])
    (h1 : cps[i]? = some (ptr bc)) (h2 : cps[i + 1]? = some (ptr br)) (hx : ks[i]? = some (.string x))
    (nbc : bn ≠ bc) (ncr : bc ≠ br) (kbc : kn ≠ kc) (kcr : kc ≠ kr) (dcn : cn ∉ dcs)
    (ok1 : ∀ u ∈ ks, u.oneCell' = true) (ok2 : ∀ u ∈ cps, u.oneCell' = true) (ok3 : ∀ u ∈ krs, u.oneCell' = true) (ok4 : ∀ u ∈ rc, u.oneCell' = true)
    (s1 : ks.length ≤ 1000000) (s2 : cps.length ≤ 1000000) (s3 : kcs.length ≤ 1000000) (s4 : krs.length ≤ 1000000) (s5 : cc.length ≤ 1000000) (s6 : rc.length ≤ 1000000)
    (m : Nat) (hm : m = i + 1) (hlast : ks.length = i + 1) (hl31 : kcs.length ≤ 31) :
    Calls Try.prog 42 #[ptr bn, .int .i64 m] w fun en w' => en = .returned (.int .i64 i) ∧ ∃ nkv' ncv' ckv' ccv' kc' dcs',
      Blk w' bn 59 [nkv', ncv'] ∧ Own w' 9 nkv' kn (ks.take i ++ ks.drop (i + 1)) ∧ Own w' 34 ncv' cn (cps.take (i + 1) ++ cps.drop (i + 2)) ∧
      Blk w' bc 59 [ckv', ccv'] ∧ Own w' 9 ckv' kc' (kcs ++ [.string x] ++ krs) ∧ Kids w' ccv' dcs' (cc ++ rc) ∧
      (kc' = kc ∨ w.heap.size ≤ kc') ∧ (∀ d ∈ dcs', d ∈ dcs ∨ w.heap.size ≤ d) ∧ (dcs' = [] ↔ dcs = []) ∧ Chg ([bn, kn, cn, bc, kc] ++ dcs) w w' := by
  have li : i < ks.length := (List.getElem?_eq_some_iff.1 hx).1
  have lc' : i + 1 < cps.length := (List.getElem?_eq_some_iff.1 h2).1
  have M := fun W (I : Int) (hI : I = i) (hc : Chg [] w W) => hI ▸ merge_any W bn kn cn bc kc br kr i dcs drs nkv ncv ckv ccv rkv rcv x ks cps kcs krs cc rc (hN.chg hc (by simp)) (hnk.chg hc (by simp)) (hnc.chg hc (by simp)) (hC.chg hc (by simp)) (hck.chg hc (by simp)) (hR.chg hc (by simp)) (hrk.chg hc (by simp)) (hcc.chg hc (by simp)) (hrc.chg hc (by simp)) hboth h1 h2 hx nbc ncr kbc kcr dcn ok1 ok2 ok3 ok4 s1 s2 s3 s4 s5 s6
  have b1 : (m : Int) < (cps.length : Int) := by omega
  have b2 : (0 : Int) < (m : Int) := by omega
  have a3 : IntKind.i64.wrap ((m : Int) - 1) = (m : Int) - 1 := by rw [IntKind.wrap_i64]; omega
  have a4 : (0 : Int) ≤ (m : Int) - 1 := by omega
  have a5 : ((m : Int) - 1).toNat = m - 1 := by omega
  have a7 : (m : Int) - 1 < (cps.length : Int) := by omega
  have a8 : ¬ (31 : Int) < (kcs.length : Int) := by omega
  have a8' : decide ((31 : Int) < (kcs.length : Int)) = false := by simp; omega
  have a9 : (1 : Int) ≤ (m : Int) := by omega
  have b6 : ¬ (m : Int) < (ks.length : Int) := by omega
  have b6' : decide ((m : Int) < (ks.length : Int)) = false := by simp; omega
  obtain ⟨nkp, rfl⟩ := hnk.form
  obtain ⟨csp, rfl, hncB, hncm⟩ := id hnc
  obtain ⟨ckp, rfl⟩ := hck.form
  have c0 := hN.cell (k := 0) rfl
  have c1 := hN.cell (k := 1) rfl
  have c2 : w.cell? ⟨cn, m, none⟩ = some (ptr br) := hncB.cell (by rw [hm, List.getElem?_append_left (by omega)]; exact h2)
  have c3 : w.cell? ⟨cn, m - 1, none⟩ = some (ptr bc) := hncB.cell (by rw [hm, Nat.add_sub_cancel, List.getElem?_append_left (by omega)]; exact h1)
  have c4 := hC.cell (k := 0) rfl
  have HM := M w ((m : Int) - 1) (by omega) (Chg.refl _ _)
  clear M
  have HM' : Hid (Calls Try.prog 50 #[ptr bn, .int .i64 ((m : Int) - 1)] w fun en w' => en = .returned (.tuple #[]) ∧ ∃ nkv' ncv' ckv' ccv' kc' dcs',
      Blk w' bn 59 [nkv', ncv'] ∧ Own w' 9 nkv' kn (ks.take i ++ ks.drop (i + 1)) ∧ Own w' 34 ncv' cn (cps.take (i + 1) ++ cps.drop (i + 2)) ∧
      Blk w' bc 59 [ckv', ccv'] ∧ Own w' 9 ckv' kc' (kcs ++ [.string x] ++ krs) ∧ Kids w' ccv' dcs' (cc ++ rc) ∧
      (kc' = kc ∨ w.heap.size ≤ kc') ∧ (∀ d ∈ dcs', d ∈ dcs ∨ w.heap.size ≤ d) ∧ (dcs' = [] ↔ dcs = []) ∧ Chg ([bn, kn, cn, bc, kc] ++ dcs) w w') := HM
  have Hm : Hid (m = i + 1) := hm
  clear HM hN hnk hnc hC hck hR hrk hcc hrc hncB hm hlast
  go_enter Try.func42, Try.ntmps42
  go_wp2_with fail
  refine HM'.out.mono ?_
  rintro e w1 ⟨rfl, hp⟩
  have HP : Hid (∃ nkv' ncv' ckv' ccv' kc' dcs',
      Blk w1 bn 59 [nkv', ncv'] ∧ Own w1 9 nkv' kn (ks.take i ++ ks.drop (i + 1)) ∧ Own w1 34 ncv' cn (cps.take (i + 1) ++ cps.drop (i + 2)) ∧
      Blk w1 bc 59 [ckv', ccv'] ∧ Own w1 9 ckv' kc' (kcs ++ [.string x] ++ krs) ∧ Kids w1 ccv' dcs' (cc ++ rc) ∧
      (kc' = kc ∨ w.heap.size ≤ kc') ∧ (∀ d ∈ dcs', d ∈ dcs ∨ w.heap.size ≤ d) ∧ (dcs' = [] ↔ dcs = []) ∧ Chg ([bn, kn, cn, bc, kc] ++ dcs) w w1) := hp
  clear hp
  go_wp2
  go_ret
  refine ⟨?_, HP.out⟩
  have e1 : (m : Int) - 1 = (i : Int) := by have := Hm.out; omega
  show Ending.returned (.int .i64 ((m : Int) - 1)) = _
  rw [e1]
end Go.Proofs.Qxb6601743a
