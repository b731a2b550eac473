import Derived.Test.Qxb6601743aIns
import Derived.Deep.RegionLaw
namespace Go.Proofs.Qxb6601743a
open Go.RowKit

theorem over_del (xs sp : List Value) (i j : Nat) (z : Value) (hij : i < j) (hj : j ≤ xs.length) :
    over (over (xs ++ sp) i (xs.drop j)) (i + (xs.length - j)) (List.replicate (j - i) z) = xs.take i ++ xs.drop j ++ (List.replicate (j - i) z ++ sp) := by
  have l1 : (xs.take i).length = i := by simp; omega
  have l2 : (xs.drop j).length = xs.length - j := by simp
  have h1 : i + (xs.drop j).length ≤ (xs ++ sp).length := by simp; omega
  have h2 : i + (xs.length - j) + (List.replicate (j - i) z).length ≤ (over (xs ++ sp) i (xs.drop j)).length := by rw [over_len _ _ _ h1]; simp; omega
  apply List.ext_getElem?
  intro k
  rw [over_get _ _ _ h2, over_get _ _ _ h1]
  simp only [List.length_replicate, l2]
  by_cases c1 : k < i
  · rw [if_pos (show k < i + (xs.length - j) by omega), if_pos c1, List.append_assoc, List.getElem?_append_left (by omega), List.getElem?_append_left (by omega), List.getElem?_take, if_pos c1]
  · rw [if_neg c1, List.append_assoc, List.getElem?_append_right (l₁ := xs.take i) (by omega), l1]
    by_cases c2 : k < i + (xs.length - j)
    · rw [if_pos c2, if_pos c2, List.getElem?_append_left (by omega)]
    · rw [if_neg c2, if_neg c2, List.getElem?_append_right (l₁ := xs.drop j) (by omega), l2]
      by_cases c3 : k < i + (xs.length - j) + (j - i)
      · rw [if_pos c3, List.getElem?_append_left (by simp; omega), show k - (i + (xs.length - j)) = k - i - (xs.length - j) by omega]
      · rw [if_neg c3, List.getElem?_append_right (l₁ := xs) (by omega), List.getElem?_append_right (by simp; omega), List.length_replicate, show k - i - (xs.length - j) - (j - i) = k - xs.length by omega]

set_option maxHeartbeats 1000000 in
set_option maxRecDepth 100000 in
/-- slices.Delete(s, i, j), i < j. -/
theorem deleteS (w : World) (v : Value) (b i j : Nat) (xs : List Value) (h : Own w 9 v b xs) (hij : i < j) (hj : j ≤ xs.length) (h1 : ∀ u ∈ xs, u.oneCell' = true) :
    Calls Try.prog 47 #[v, .int .i64 i, .int .i64 j] w fun en w' => ∃ v', en = .returned v' ∧ Own w' 9 v' b (xs.take i ++ xs.drop j) ∧ Chg [b] w w' := by
  obtain ⟨sp, rfl, hb, hcap⟩ := h
  obtain ⟨n, hn⟩ : ∃ n, n = xs.length := ⟨_, rfl⟩
  obtain ⟨c, hc⟩ : ∃ c, c = xs.length + sp.length := ⟨_, rfl⟩
  obtain ⟨i0, hi0, hz0, hzs, hzb⟩ := info_parts ES.info
  have hL : (xs ++ sp).length = c := by simp [hc]
  obtain ⟨news, hnews⟩ : ∃ news, news = xs.drop j := ⟨_, rfl⟩
  have hlen : news.length = n - j := by rw [hnews, hn]; simp
  obtain ⟨A, hA, hsrc⟩ : ∃ A : Addr, (if c = j then some (⟨b, 0, none⟩ : Addr) else some ⟨b, j, none⟩) = some A ∧ Hid (∀ t u, news[t]? = some u → w.drew.cell? (A.add t) = some u) := by
    by_cases h : c = j
    · refine ⟨⟨b, 0, none⟩, by simp [h], fun t u hu => ?_⟩
      have h0 : news.length = 0 := by omega
      rw [List.length_eq_zero_iff.1 h0] at hu
      simp at hu
    · refine ⟨⟨b, j, none⟩, by simp [h], hb.drew.cells j news (fun t u hu => ?_)⟩
      rw [hnews, List.getElem?_drop] at hu
      rw [List.getElem?_append_left (List.getElem?_eq_some_iff.1 hu).1]; exact hu
  have s1 : Hid (news.length = (n - j) * 1) := by rw [Nat.mul_one]; exact hlen
  have s2 : Hid (∀ u ∈ news, u.oneCell' = true) := fun u hu => h1 u (List.mem_of_mem_drop (hnews ▸ hu))
  have s3 : Hid (∀ t, t < news.length → (w.drew.cell? ⟨b, 0 + i * 1 + t, none⟩).isSome = true ∧ w.drew.frozen? ⟨b, 0 + i * 1 + t, none⟩ = false) := by
    intro t ht
    exact ⟨hb.drew.isSome (by omega), hb.drew.frozen _⟩
  obtain ⟨W1, hW1⟩ : ∃ W1, W1 = w.drew.setCells b (0 + i * 1) news := ⟨_, rfl⟩
  have hB1 : Blk W1 b 9 (over (xs ++ sp) i news) := by rw [hW1, Nat.mul_one, Nat.zero_add]; exact hb.drew.setCells _ _ (by omega)
  have hL1 : (over (xs ++ sp) i news).length = c := by rw [over_len _ _ _ (by omega), hL]
  have hcl : ∀ ty, (Builtin.clear_ #[22] ty #[.slice (some ⟨b, i + (n - j), none⟩) (n - (i + (n - j))) (c - (i + (n - j)))]).run Try.prog W1 = .ok (.tuple #[]) (W1.setCells b (i + (n - j)) (List.replicate (n - (i + (n - j))) (Value.string ByteArray.empty))) :=
    fun ty => Lib.run_clear_slice W1 _ _ ty _ ES.und ES.zero ES.zc ES.z1 b (i + (n - j)) _ _ (by omega) (fun t ht => hB1.isSome (by omega)) (fun t ht => hB1.frozen _)
  have HB : Hid (Blk (W1.setCells b (i + (n - j)) (List.replicate (n - (i + (n - j))) (Value.string ByteArray.empty))) b 9 (xs.take i ++ xs.drop j ++ (List.replicate (j - i) (Value.string ByteArray.empty) ++ sp)) ∧ Chg [b] w (W1.setCells b (i + (n - j)) (List.replicate (n - (i + (n - j))) (Value.string ByteArray.empty)))) := by
    refine ⟨?_, ?_⟩
    · rw [← over_del xs sp i j (Value.string ByteArray.empty) hij hj, ← hnews]
      have := Blk.setCells (List.replicate (n - (i + (n - j))) (Value.string ByteArray.empty)) (i + (n - j)) hB1 (by simp; omega)
      rw [show n - (i + (n - j)) = j - i by omega] at this ⊢
      rw [show i + (xs.length - j) = i + (n - j) by omega]
      exact this
    · rw [hW1]
      exact Chg.setCells (Or.inl (by simp)) _ _ (Chg.setCells (Or.inl (by simp)) _ _ (Chg.refl _ _).drew)
  have hW : Hid (W1 = w.drew.setCells b (0 + i * 1) news) := hW1
  have hres : Hid ((xs.take i ++ xs.drop j).length = i + (n - j) ∧ i + (n - j) + (List.replicate (j - i) (Value.string ByteArray.empty) ++ sp).length = c) := by
    refine ⟨by simp; omega, by simp; omega⟩
  rw [← hc, ← hn]
  have hic : i ≤ c := by omega
  have hjc : j ≤ c := by omega
  have hjn : j ≤ n := by omega
  have hnc : n ≤ c := by omega
  have hc63 : c ≤ 9223372036854775807 := by omega
  have hne : ¬ ((i : Int) = (j : Int)) := by omega
  clear hW1 hB1 hL1 hlen hnews hb hcap hL h1 hj hn hc
  go_enter Try.func47, Try.ntmps47
  go_wp2_with fail
  go_region_law (refine step_append_room rfl (.tmp 22) (.tmp 25) 22 rfl 9 i0 1 ES.und hi0 hzs b 0 i c (by simp [Act.eval, Act.put]) A (n - j) (c - j) news (by simp [Act.eval, Act.put]) s1.out hsrc.out s2.out (by omega) s3.out ?_; rw [← hW.out])
  go_wp2
  go_ret
  refine ⟨.slice (some ⟨b, 0, none⟩) (i + (n - j)) c, rfl, ⟨_, ?_, HB.out.1, ?_⟩, HB.out.2⟩
  · rw [hres.out.1, hres.out.2]
  · rw [hres.out.1, hres.out.2]; exact hc63

set_option maxHeartbeats 1000000 in
set_option maxRecDepth 100000 in
/-- slices.Delete(s, i, j), i < j. -/
theorem deleteN (w : World) (v : Value) (b i j : Nat) (xs : List Value) (h : Own w 34 v b xs) (hij : i < j) (hj : j ≤ xs.length) (h1 : ∀ u ∈ xs, u.oneCell' = true) :
    Calls Try.prog 52 #[v, .int .i64 i, .int .i64 j] w fun en w' => ∃ v', en = .returned v' ∧ Own w' 34 v' b (xs.take i ++ xs.drop j) ∧ Chg [b] w w' := by
  obtain ⟨sp, rfl, hb, hcap⟩ := h
  obtain ⟨n, hn⟩ : ∃ n, n = xs.length := ⟨_, rfl⟩
  obtain ⟨c, hc⟩ : ∃ c, c = xs.length + sp.length := ⟨_, rfl⟩
  obtain ⟨i0, hi0, hz0, hzs, hzb⟩ := info_parts EN.info
  have hL : (xs ++ sp).length = c := by simp [hc]
  obtain ⟨news, hnews⟩ : ∃ news, news = xs.drop j := ⟨_, rfl⟩
  have hlen : news.length = n - j := by rw [hnews, hn]; simp
  obtain ⟨A, hA, hsrc⟩ : ∃ A : Addr, (if c = j then some (⟨b, 0, none⟩ : Addr) else some ⟨b, j, none⟩) = some A ∧ Hid (∀ t u, news[t]? = some u → w.drew.cell? (A.add t) = some u) := by
    by_cases h : c = j
    · refine ⟨⟨b, 0, none⟩, by simp [h], fun t u hu => ?_⟩
      have h0 : news.length = 0 := by omega
      rw [List.length_eq_zero_iff.1 h0] at hu
      simp at hu
    · refine ⟨⟨b, j, none⟩, by simp [h], hb.drew.cells j news (fun t u hu => ?_)⟩
      rw [hnews, List.getElem?_drop] at hu
      rw [List.getElem?_append_left (List.getElem?_eq_some_iff.1 hu).1]; exact hu
  have s1 : Hid (news.length = (n - j) * 1) := by rw [Nat.mul_one]; exact hlen
  have s2 : Hid (∀ u ∈ news, u.oneCell' = true) := fun u hu => h1 u (List.mem_of_mem_drop (hnews ▸ hu))
  have s3 : Hid (∀ t, t < news.length → (w.drew.cell? ⟨b, 0 + i * 1 + t, none⟩).isSome = true ∧ w.drew.frozen? ⟨b, 0 + i * 1 + t, none⟩ = false) := by
    intro t ht
    exact ⟨hb.drew.isSome (by omega), hb.drew.frozen _⟩
  obtain ⟨W1, hW1⟩ : ∃ W1, W1 = w.drew.setCells b (0 + i * 1) news := ⟨_, rfl⟩
  have hB1 : Blk W1 b 34 (over (xs ++ sp) i news) := by rw [hW1, Nat.mul_one, Nat.zero_add]; exact hb.drew.setCells _ _ (by omega)
  have hL1 : (over (xs ++ sp) i news).length = c := by rw [over_len _ _ _ (by omega), hL]
  have hcl : ∀ ty, (Builtin.clear_ #[45] ty #[.slice (some ⟨b, i + (n - j), none⟩) (n - (i + (n - j))) (c - (i + (n - j)))]).run Try.prog W1 = .ok (.tuple #[]) (W1.setCells b (i + (n - j)) (List.replicate (n - (i + (n - j))) (Value.pointer none))) :=
    fun ty => Lib.run_clear_slice W1 _ _ ty _ EN.und EN.zero EN.zc EN.z1 b (i + (n - j)) _ _ (by omega) (fun t ht => hB1.isSome (by omega)) (fun t ht => hB1.frozen _)
  have HB : Hid (Blk (W1.setCells b (i + (n - j)) (List.replicate (n - (i + (n - j))) (Value.pointer none))) b 34 (xs.take i ++ xs.drop j ++ (List.replicate (j - i) (Value.pointer none) ++ sp)) ∧ Chg [b] w (W1.setCells b (i + (n - j)) (List.replicate (n - (i + (n - j))) (Value.pointer none)))) := by
    refine ⟨?_, ?_⟩
    · rw [← over_del xs sp i j (Value.pointer none) hij hj, ← hnews]
      have := Blk.setCells (List.replicate (n - (i + (n - j))) (Value.pointer none)) (i + (n - j)) hB1 (by simp; omega)
      rw [show n - (i + (n - j)) = j - i by omega] at this ⊢
      rw [show i + (xs.length - j) = i + (n - j) by omega]
      exact this
    · rw [hW1]
      exact Chg.setCells (Or.inl (by simp)) _ _ (Chg.setCells (Or.inl (by simp)) _ _ (Chg.refl _ _).drew)
  have hW : Hid (W1 = w.drew.setCells b (0 + i * 1) news) := hW1
  have hres : Hid ((xs.take i ++ xs.drop j).length = i + (n - j) ∧ i + (n - j) + (List.replicate (j - i) (Value.pointer none) ++ sp).length = c) := by
    refine ⟨by simp; omega, by simp; omega⟩
  rw [← hc, ← hn]
  have hic : i ≤ c := by omega
  have hjc : j ≤ c := by omega
  have hjn : j ≤ n := by omega
  have hnc : n ≤ c := by omega
  have hc63 : c ≤ 9223372036854775807 := by omega
  have hne : ¬ ((i : Int) = (j : Int)) := by omega
  clear hW1 hB1 hL1 hlen hnews hb hcap hL h1 hj hn hc
  go_enter Try.func52, Try.ntmps52
  go_wp2_with fail
  go_region_law (refine step_append_room rfl (.tmp 22) (.tmp 25) 45 rfl 34 i0 1 EN.und hi0 hzs b 0 i c (by simp [Act.eval, Act.put]) A (n - j) (c - j) news (by simp [Act.eval, Act.put]) s1.out hsrc.out s2.out (by omega) s3.out ?_; rw [← hW.out])
  go_wp2
  go_ret
  refine ⟨.slice (some ⟨b, 0, none⟩) (i + (n - j)) c, rfl, ⟨_, ?_, HB.out.1, ?_⟩, HB.out.2⟩
  · rw [hres.out.1, hres.out.2]
  · rw [hres.out.1, hres.out.2]; exact hc63
end Go.Proofs.Qxb6601743a
