import Derived.Test.Qxb6601743aTab
namespace Go.Proofs.Qxb6601743a
open Go.RowKit

theorem neq_nil_ptr (w : World) (b : Nat) : (binOp .eql 34 (.pointer (some ⟨b, 0, none⟩)) (.pointer none)).run Try.prog w = .ok (.bool false) w := by kernel_rfl

set_option maxHeartbeats 1000000 in
theorem inorder_leaf (B : Nat) (v : Value) (L ys : List ByteArray) (w : World) (b g : Nat) (kv : Value) (hown : w.ownsRow B 9 1 v L.length (L.map Value.string)) (hb : Blk w b 59 [kv, .slice none 0 0]) (ho : Own w 9 kv g (ys.map Value.string))
    (hl : L.length + ys.length ≤ 1048576) (hB : B ≤ w.heap.size) :
    Calls Try.prog 16 #[ptr b, v] w fun e w' => ∃ v', e = .returned v' ∧ w'.ownsRow B 9 1 v' (L ++ ys).length ((L ++ ys).map Value.string) ∧ Below B w w' := by
  obtain ⟨i0, hi, hz0, hz1, hz2⟩ := info_parts Try.info9
  have hne := fun w a n c n2 c2 => Lib.run_eql_slice_nil (P := Try.prog) w 45 34 a n c n2 c2 Try.underlying45
  have hnp := neq_nil_ptr
  obtain ⟨sp, rfl, hg, hm⟩ := ho
  rw [List.length_map] at hm
  have c0 := hb.cell (k := 0) rfl
  have c1 := hb.cell (k := 1) rfl
  rw [List.length_map] at c0
  have HN : Hid (∀ j u, (ys.map Value.string)[j]? = some u → w.cell? ((⟨g, 0, none⟩ : Addr).add j) = some u) := hg.cells 0 _ (fun j u hj => by
    rw [Nat.zero_add, List.getElem?_append_left (List.getElem?_eq_some_iff.1 hj).1]; exact hj)
  clear hb hg
  go_enter Try.func16, Try.ntmps16
  go_wp2_with (first | (at_builtin; refine wpList_append_own _ rfl (.tmp 18) (.tmp 19) 22 rfl B 9 i0 (.string ByteArray.empty) 1 16 Try.underlying22 hi hz0 hz1 hz2 rfl (by decide) _ _ _ rfl hown ⟨g, 0, none⟩ ys.length (ys.length + sp.length) (ys.map Value.string) rfl (by simp) HN.out (strs_oneCell ys) (by unfold maxLen; omega) (by omega) hB ?_) | go_in)
  intro v1 w1 hown1 hgrow1 _
  have hnx := (Below.refl B w).grown hgrow1 hB (fun k' h => (hown.lt k' h).1)
  have R : Hid (w1.ownsRow B 9 1 v1 (L ++ ys).length ((L ++ ys).map Value.string) ∧ Below B w w1) := ⟨by simpa using hown1, hnx⟩
  clear hown1 hgrow1 hown hnx
  go_wp2
  go_ret
  exact ⟨_, rfl, R.out.1, R.out.2⟩

/-- c leads to a leaf that holds ys. -/
def Leaf (w : World) (c : Value) (ys : List ByteArray) : Prop := ∃ b g kv, c = ptr b ∧ Blk w b 59 [kv, .slice none 0 0] ∧ Own w 9 kv g (ys.map Value.string)

theorem Leaf.chg {w w' : World} {c : Value} {ys : List ByteArray} (h : Leaf w c ys) (hc : Chg [] w w') : Leaf w' c ys := by
  obtain ⟨b, g, kv, h1, h2, h3⟩ := h
  exact ⟨b, g, kv, h1, h2.chg hc (by simp), h3.chg hc (by simp)⟩

set_option maxHeartbeats 2000000 in
theorem inorder_root (w : World) (bp kb cb : Nat) (kv cv : Value) (pk : List ByteArray) (cps : List Value) (yss : List (List ByteArray)) (hP : Blk w bp 59 [kv, cv]) (hk : Own w 9 kv kb (pk.map Value.string)) (hcv : Own w 34 cv cb cps)
    (hlv : ∀ (k : Nat) (c : Value) (ys : List ByteArray), cps[k]? = some c → yss[k]? = some ys → Leaf w c ys) (hlen : cps.length = yss.length) (hpl : pk.length ≤ yss.length) (h1 : yss.length ≤ 1000) (h2 : ∀ y ∈ yss, y.length ≤ 1000) :
    Calls Try.prog 16 #[ptr bp, .slice none 0 0] w fun e w' => ∃ v', e = .returned v' ∧ StrV w' v' (interTo pk yss yss.length) ∧ Chg [] w w' := by
  obtain ⟨i0, hi, hz0, hz1, hz2⟩ := info_parts Try.info9
  have hne := fun w a n c n2 c2 => Lib.run_eql_slice_nil (P := Try.prog) w 45 34 a n c n2 c2 Try.underlying45
  have hnp := neq_nil_ptr
  obtain ⟨ksp, rfl, hkB, hkm⟩ := hk
  obtain ⟨csp, rfl, hcB, hcm⟩ := hcv
  rw [List.length_map] at hkm
  have c0 := hP.cell (k := 0) rfl
  have c1 := hP.cell (k := 1) rfl
  rw [List.length_map] at c0
  rw [hlen] at c1
  have HCC : Hid (∀ (k : Nat) (c : Value), cps[k]? = some c → w.cell? ⟨cb, k, none⟩ = some c) := fun k c hk => hcB.cell (by rw [List.getElem?_append_left (List.getElem?_eq_some_iff.1 hk).1]; exact hk)
  have HKK : Hid (∀ (k : Nat) (s : ByteArray), pk[k]? = some s → w.cell? ⟨kb, k, none⟩ = some (.string s)) := fun k s hk => hkB.cell (by rw [List.getElem?_append_left (by simpa using (List.getElem?_eq_some_iff.1 hk).1), List.getElem?_map, hk]; rfl)
  have HLV : Hid (∀ (k : Nat) (c : Value) (ys : List ByteArray), cps[k]? = some c → yss[k]? = some ys → Leaf w c ys) := hlv
  have HLE : Hid (cps.length = yss.length) := hlen
  have H2 : Hid (∀ y ∈ yss, y.length ≤ 1000) := h2
  clear hlv hlen hP hkB hcB h2
  go_enter Try.func16, Try.ntmps16
  go_wp2_with go_in
  go_loopw [1, 7] (fun v t wr => ∃ k : Nat, k ≤ yss.length ∧ t = .int .i64 k ∧ wr.ownsRow w.heap.size 9 1 v (interTo pk yss k).length ((interTo pk yss k).map Value.string) ∧ Below w.heap.size w wr) (fun _ t _ => yss.length - (intOf t).toNat)
  case atStart => exact ⟨0, Nat.zero_le _, rfl, World.ownsRow_nil _ _ _ _, Below.refl _ _⟩
  case round =>
    obtain ⟨k, hk, rfl, hown, hnx⟩ := hrel
    have hle := interTo_le pk yss 1000 H2.out k
    have hle2 : (interTo pk yss k).length ≤ 1001000 := Nat.le_trans hle (by have := Nat.mul_le_mul_right 1001 (show k ≤ 1000 by omega); omega)
    by_cases hlt : k < yss.length
    · obtain ⟨ys, hys⟩ : ∃ ys, yss[k]? = some ys := ⟨yss[k], by simp [hlt]⟩
      obtain ⟨c, hcc⟩ : ∃ c, cps[k]? = some c := ⟨cps[k]'(by rw [HLE.out]; exact hlt), by simp⟩
      obtain ⟨b, g, lv, rfl, hb, ho⟩ := HLV.out k c ys hcc hys
      have hcell := (hnx.cell (p := ⟨cb, k, none⟩) (World.block_lt_of_cell? w _ (HCC.out k _ hcc))).trans (HCC.out k _ hcc)
      have hch := Chg.of_below hnx
      have hb' := hb.chg hch (by simp)
      have ho' := ho.chg hch (by simp)
      have hy1 := H2.out ys (List.mem_of_getElem? hys)
      have HG : Hid (yss.getD k [] = ys) := by show _ = _; rw [List.getD_eq_getElem?_getD, hys]; rfl
      have hsz := hnx.size
      obtain ⟨IT, hIT⟩ : ∃ IT, IT = interTo pk yss k := ⟨_, rfl⟩
      rw [← hIT] at hown hle2
      have HI : Hid (IT = interTo pk yss k) := hIT
      clear hIT hle hys hcc hb ho hch
      have hki : (k : Int) < (yss.length : Int) := by omega
      go_wp2_with fail
      refine (inorder_leaf w.heap.size _ IT ys wr b g lv hown hb' ho' (by omega) hsz).mono ?_
      rintro e w1 ⟨v1, rfl, hown1, hnx1'⟩
      have hnx1 := hnx.trans hnx1'
      have hsz1 := hnx1.size
      clear hown hnx hb' ho' hcell hnx1'
      by_cases hkx : k < pk.length
      · obtain ⟨s, hsk⟩ : ∃ s, pk[k]? = some s := ⟨pk[k], by simp [hkx]⟩
        have hc4 := (hnx1.cell (p := ⟨kb, k, none⟩) (World.block_lt_of_cell? w _ (HKK.out k s hsk))).trans (HKK.out k s hsk)
        have HX : Hid (pk[k]? = some s) := hsk
        clear hsk
        go_wp2_with (at_builtin; refine wpList_append_own _ rfl (.tmp 37) (.tmp 42) 22 rfl w.heap.size 9 i0 (.string ByteArray.empty) 1 16 Try.underlying22 hi hz0 hz1 hz2 rfl (by decide) _ _ _ rfl (hown1.alloc _) ⟨w1.heap.size, 0, none⟩ 1 1 [.string s] rfl rfl (cell_one_new _ _ _) (by simp [Value.oneCell']) (by unfold maxLen; simp; omega) (by simp; omega) (by simp; omega) ?_)
        intro v2 w2 hown2 hgrow2 _
        have hnx2 := (hnx1.alloc hsz1 _).grown hgrow2 (by simp; omega) (fun k' h => (hown1.lt k' h).1)
        have R : w2.ownsRow w.heap.size 9 1 v2 (interTo pk yss (k + 1)).length ((interTo pk yss (k + 1)).map Value.string) := by
          rw [interTo, HG.out, HX.out, ← HI.out]
          simpa [Nat.add_assoc] using hown2
        clear hown2 hgrow2 hown1
        go_wp2
        go_roundw
        case rel => first | exact ⟨k + 1, by omega, by go_num, R, hnx2⟩ | ((repeat apply Exists.intro); exact ⟨⟨k + 1, by omega, by go_num, R, hnx2⟩, rfl⟩)
        case measure => simp [intOf]; omega
      · have HX : Hid (pk[k]? = none) := List.getElem?_eq_none (by omega)
        have R : w1.ownsRow w.heap.size 9 1 v1 (interTo pk yss (k + 1)).length ((interTo pk yss (k + 1)).map Value.string) := by
          rw [interTo, HG.out, HX.out, ← HI.out]
          simpa using hown1
        clear hown1
        go_wp2
        go_roundw
        case rel => first | exact ⟨k + 1, by omega, by go_num, R, hnx1⟩ | ((repeat apply Exists.intro); exact ⟨⟨k + 1, by omega, by go_num, R, hnx1⟩, rfl⟩)
        case measure => simp [intOf]; omega
    · obtain rfl : k = yss.length := by omega
      have R : Hid (StrV wr _ (interTo pk yss yss.length) ∧ Chg [] w wr) := ⟨ownsRow_strV hown, below_chg hnx⟩
      have hnl : ¬ (yss.length : Int) < (pk.length : Int) := by omega
      clear hown hnx hle
      go_wp2
      refine wp_loop_rounds 1 ?_
      rw [rounds_succ]
      go_wp2
      go_ret
      exact ⟨_, rfl, R.out.1, R.out.2⟩
end Go.Proofs.Qxb6601743a
