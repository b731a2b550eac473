import Derived.Test.Qxb6601743aProg
import Derived.Test.Qxb6601743aSl
namespace Go.Proofs.Qxb6601743a
open Go.RowKit
theorem ES : Elem Try.prog 22 9 (.string ByteArray.empty) 16 := ⟨Try.underlying22, by kernel_rfl, fun _ => by kernel_rfl, rfl, rfl, fun _ => by kernel_rfl⟩
theorem EN : Elem Try.prog 45 34 (.pointer none) 8 := ⟨Try.underlying45, by kernel_rfl, fun _ => by kernel_rfl, rfl, rfl, fun _ => by kernel_rfl⟩


set_option maxHeartbeats 1000000 in
set_option maxRecDepth 100000 in
/-- slices.Insert, one element, there is room, i < len(s). -/
theorem insertS_shift (w : World) (b vb i : Nat) (xs sp : List Value) (x : Value) (hb : Blk w b 9 (xs ++ sp)) (hcap : xs.length + sp.length ≤ 9223372036854775807) (hroom : 0 < sp.length) (hi : i < xs.length)
    (hvb : Blk w vb 9 [x]) (hne : vb ≠ b) (h1x : x.oneCell' = true) (h1 : ∀ u ∈ xs, u.oneCell' = true) :
    Calls Try.prog 46 #[.slice (some ⟨b, 0, none⟩) xs.length (xs.length + sp.length), .int .i64 i, .slice (some ⟨vb, 0, none⟩) 1 1] w fun en w' =>
      en = .returned (.slice (some ⟨b, 0, none⟩) (xs.length + 1) (xs.length + sp.length)) ∧ w' = (w.drew.setCells b (i + 1) (xs.drop i)).setCells b i [x] := by
  obtain ⟨n, hn⟩ : ∃ n, n = xs.length := ⟨_, rfl⟩
  obtain ⟨c, hc⟩ : ∃ c, c = xs.length + sp.length := ⟨_, rfl⟩
  have hL : (xs ++ sp).length = c := by simp [hc]
  have hsz : (Try.prog.info? 9).map (·.size) = some 1 := by
    obtain ⟨i0, hi0, h0, h1, h2⟩ := info_parts ES.info
    rw [hi0]; simp [h1]
  rw [← hc, ← hn]
  have hnc : n + 1 ≤ c := by omega
  have hc63 : c ≤ 9223372036854775807 := by omega
  have hin : i < n := by omega
  have hz2 : ¬ ((i : Int) = (n : Int)) := by omega
  have hov : ∀ lb cb, (callFunc 55 #[.slice (some ⟨vb, 0, none⟩) 1 1, .slice (some ⟨b, i + 1, none⟩) lb cb]).run Try.prog w = .ok (.value (.bool false)) w := fun lb cb => by
    rw [run_callFunc_extern Try.func55 (by kernel_rfl) (by kernel_rfl) (by kernel_rfl) (e := Extern.SlicesOverlaps.overlaps #[22, 22] #[4]) (by kernel_rfl),
      Lib.run_overlaps_apart w 22 4 9 ES.und 1 ES.size ⟨vb, 0, none⟩ ⟨b, i + 1, none⟩ 1 1 lb cb hne 9 9 1 c (by unfold Blk at hvb; simp [World.shape?, hvb]) (by unfold Blk at hb; simp [World.shape?, hb, hc]) (by omega) (hvb.frozen _) (hvb.frozen _)]
    rfl
  have hdl : (xs.drop i).length = n - i := by rw [List.length_drop, hn]
  have hcp1 : ∀ ty dc sc, (Builtin.copy_ #[22, 22] ty #[.slice (some ⟨b, i + 1, none⟩) (n - i) dc, .slice (some ⟨b, i, none⟩) (n + 1 - i) sc]).run Try.prog w.drew = .ok (goInt (xs.drop i).length) (w.drew.setCells b (i + 1) (xs.drop i)) := fun ty dc sc =>
    run_copy_cells w.drew _ _ ty 9 b (i + 1) (n - i) dc ⟨b, i, none⟩ (n + 1 - i) sc (xs.drop i) ES.und hsz (by rw [hdl]; simp only [Nat.min_def]; split <;> omega)
      (hb.drew.cells i _ (fun j v hj => by rw [List.getElem?_drop] at hj; rw [List.getElem?_append_left (List.getElem?_eq_some_iff.1 hj).1]; exact hj))
      (fun j hj => hb.drew.isSome (by omega)) (fun j hj => hb.drew.frozen _) (fun v hv => h1 v (List.mem_of_mem_drop hv))
  obtain ⟨W1, hW1⟩ : ∃ W1, W1 = w.drew.setCells b (i + 1) (xs.drop i) := ⟨_, rfl⟩
  have hb1 : Blk W1 b 9 (over (xs ++ sp) (i + 1) (xs.drop i)) := by rw [hW1]; exact hb.drew.setCells _ _ (by omega)
  have hv1 : Blk W1 vb 9 [x] := by rw [hW1]; exact hvb.drew.chg (Chg.setCells (S := [b]) (Or.inl (by simp)) _ _ (Chg.refl _ _)) (by simpa using hne)
  have hol : (over (xs ++ sp) (i + 1) (xs.drop i)).length = c := by simp [over]; omega
  have hcp2 : ∀ (W : World), (∀ y, W.cell? y = W1.cell? y) → (∀ y, W.frozen? y = W1.frozen? y) → ∀ ty dc, (Builtin.copy_ #[22, 22] ty #[.slice (some ⟨b, i, none⟩) (n + 1 - i) dc, .slice (some ⟨vb, 0, none⟩) 1 1]).run Try.prog W = .ok (goInt ([x] : List Value).length) (W.setCells b i [x]) := fun W hWc hWf ty dc =>
    run_copy_cells W _ _ ty 9 b i (n + 1 - i) dc ⟨vb, 0, none⟩ 1 1 [x] ES.und hsz (by simp only [Nat.min_def, List.length_singleton]; split <;> omega)
      (fun j v hj => by rw [hWc]; exact hv1.cells 0 [x] (fun j v hj => by simpa using hj) j v hj)
      (fun j hj => by rw [hWc]; exact hb1.isSome (by simp at hj; omega)) (fun j hj => by rw [hWf]; exact hb1.frozen _) (by simpa using h1x)
  rw [← hW1] at hcp1
  have HW : Hid (W1 = w.drew.setCells b (i + 1) (xs.drop i)) := hW1
  have hb2 : ¬ (c = i + 1) := by omega
  have hw1 : IntKind.i64.wrap ((i : Int) + 1) = (i : Int) + 1 := by rw [IntKind.wrap_i64]; omega
  have hq1 : (0 : Int) ≤ (i : Int) + 1 := by omega
  have hq2 : (i : Int) + 1 ≤ (n : Int) + 1 := by omega
  have hq3 : (i : Int) ≤ (n : Int) + 1 := by omega
  have htn : ((i : Int) + 1).toNat = i + 1 := by omega
  have hb4 : ¬ (c = i) := by omega
  clear hb1 hv1 hol hb hvb hL hW1 hsz h1 hn hc hcap hroom hi
  go_enter Try.func46, Try.ntmps46
  go_wp2_with (simp only [hov])
  go_region_law (refine step_copy_eq rfl _ _ 22 22 rfl _ _ (by simp [Act.eval, Act.put]) (by simp [Act.eval, Act.put]) (hcp1 _ _ _) ?_)
  go_wp2_with (at_builtin; refine wpList_copy_eq _ rfl _ _ 22 22 rfl _ _ rfl rfl (hcp2 _ (fun _ => rfl) (fun _ => rfl) _ _) ?_)
  go_ret
  rw [← HW.out]
  exact ⟨rfl, rfl⟩

set_option maxHeartbeats 1000000 in
set_option maxRecDepth 100000 in
/-- slices.Insert, one element, at the end. -/
theorem insertS_end (w : World) (b vb : Nat) (xs sp : List Value) (x : Value) (hb : Blk w b 9 (xs ++ sp)) (hcap : xs.length + sp.length ≤ 9223372036854775807) (hsm : xs.length ≤ 1073741824)
    (hvb : Blk w vb 9 [x]) (h1x : x.oneCell' = true) :
    Calls Try.prog 46 #[.slice (some ⟨b, 0, none⟩) xs.length (xs.length + sp.length), .int .i64 (xs.length : Nat), .slice (some ⟨vb, 0, none⟩) 1 1] w fun en w' =>
      ∃ v', en = .returned v' ∧ ∃ b', Own w' 9 v' b' (xs ++ [x]) ∧ ((b' = b ∧ Chg [b] w w') ∨ (b' = w.heap.size ∧ Chg [] w w')) := by
  obtain ⟨v', b', w', hrun, hown, hor⟩ := append_blk ES hb hcap ⟨vb, 0, none⟩ 1 1 [x] rfl (hvb.cells 0 [x] (fun j v hj => by simpa using hj)) (by simpa using h1x) (by omega) (by omega)
  have HO : Hid (Own w' 9 v' b' (xs ++ [x]) ∧ ((b' = b ∧ Chg [b] w w') ∨ (b' = w.heap.size ∧ Chg [] w w'))) := ⟨hown, (match hor with | .inl h => .inl ⟨h.1, h.2.1⟩ | .inr h => .inr ⟨h.1, h.2.1⟩)⟩
  clear hown hor hb hvb
  obtain ⟨n, hn⟩ : ∃ n, n = xs.length := ⟨_, rfl⟩
  obtain ⟨c, hc⟩ : ∃ c, c = xs.length + sp.length := ⟨_, rfl⟩
  rw [← hc, ← hn] at hrun ⊢
  have hnc : n ≤ c := by omega
  have hc63 : c ≤ 9223372036854775807 := by omega
  clear hcap hn hc hsm
  go_enter Try.func46, Try.ntmps46
  go_wp2_with (at_builtin; refine Lib.wpList_append_run _ rfl _ _ _ _ rfl _ _ rfl rfl _ _ (hrun _) ?_)
  all_goals
    go_ret
    exact ⟨v', rfl, b', HO.out⟩

set_option maxHeartbeats 1000000 in
set_option maxRecDepth 100000 in
/-- slices.Insert, one element, i < len(s), no room: a new row. -/
theorem insertS_grow (w : World) (b vb i : Nat) (xs : List Value) (x : Value) (hb : Blk w b 9 xs) (hsm : xs.length ≤ 1073741824) (hi : i < xs.length)
    (hvb : Blk w vb 9 [x]) (h1x : x.oneCell' = true) (h1 : ∀ u ∈ xs, u.oneCell' = true) :
    Calls Try.prog 46 #[.slice (some ⟨b, 0, none⟩) xs.length xs.length, .int .i64 i, .slice (some ⟨vb, 0, none⟩) 1 1] w fun en w' =>
      ∃ G, en = .returned (.slice (some ⟨w.heap.size, 0, none⟩) (xs.length + 1) G) ∧ xs.length + 1 ≤ G ∧ G ≤ 9223372036854775807 ∧
      w' = (((w.alloc (.cells (xs.take i ++ List.replicate (G - i) (Value.string ByteArray.empty)).toArray 9)).drew.setCells w.heap.size i [x]).drew).setCells w.heap.size (i + 1) (xs.drop i) := by
  obtain ⟨n, hn⟩ : ∃ n, n = xs.length := ⟨_, rfl⟩
  obtain ⟨i0, hi0, hz0, hzs, hzb⟩ := info_parts ES.info
  have hsz : (Try.prog.info? 9).map (·.size) = some 1 := by rw [hi0]; simp [hzs]
  rw [← hn]
  have hin : i < n := by omega
  have hbw := hb.lt
  have hvw := hvb.lt
  have hz2 : ¬ ((i : Int) = (n : Int)) := by omega
  have hz3 : (n : Int) < (n : Int) + 1 := by omega
  have hkk : (n : Int) + 1 - (i : Int) = ((n + 1 - i : Nat) : Int) := by omega
  have hik : i + (n + 1 - i) = n + 1 := by omega
  have hold : (Builtin.firstCells i0.size i (.slice (some ⟨b, 0, none⟩) i n)).run Try.prog w.drew = .ok (xs.take i).toArray w.drew := by
    rw [hzs]
    exact run_firstCells_some w.drew 1 i ⟨b, 0, none⟩ i n (xs.take i) (by rw [List.length_take]; omega) (hb.drew.cells 0 _ (fun j v hj => by
      rw [List.getElem?_take] at hj
      split at hj
      · simpa using hj
      · cases hj))
  obtain ⟨G, hG⟩ : ∃ G, G = grownCap w (n + 1) n 9 := ⟨_, rfl⟩
  have hGn : n + 1 ≤ G := by rw [hG]; exact grownCap_ge w _ _ _
  have hG63 : G ≤ 9223372036854775807 := by
    have := grownCap_le_maxLen w (n + 1) n 9 (by unfold maxLen; omega)
    rw [← hG] at this
    unfold maxLen at this
    omega
  have hrz : ∀ ty, (Builtin.append_ #[22, 3] ty #[.slice (some ⟨b, 0, none⟩) i n, .int .i64 ((n : Int) + 1 - (i : Int))]).run Try.prog w =
      .ok (.slice (some ⟨w.heap.size, 0, none⟩) (n + 1) G) (w.drew.alloc (.cells (xs.take i ++ List.replicate (G - i) (Value.string ByteArray.empty)).toArray 9)) := fun ty => by
    have h := Lib.run_append_grow_zeros w 22 3 ty 9 i0 _ .i64 .i64 ES.und Try.underlying3 hi0 hz0 (some ⟨b, 0, none⟩) i n (xs.take i) hold (n + 1 - i) (by omega) (by omega) (by omega) (by omega) (by rw [hzb]; omega) (by rw [hzb, hik]; exact growslice_fits (by omega) (by omega))
    rw [hik, ← hG, zeroCells_one ES, zeroCells_one ES, List.append_toArray, List.append_toArray, List.append_assoc, List.replicate_append_replicate, show n + 1 - i + (G - (n + 1)) = G - i by omega] at h
    rw [hkk]
    exact h
  obtain ⟨ROW, hROW⟩ : ∃ ROW : List Value, ROW = xs.take i ++ List.replicate (G - i) (Value.string ByteArray.empty) := ⟨_, rfl⟩
  have hRl : ROW.length = G := by rw [hROW]; simp; omega
  rw [← hROW] at hrz
  obtain ⟨W1, hW1⟩ : ∃ W1, W1 = w.drew.alloc (.cells ROW.toArray 9) := ⟨_, rfl⟩
  have hB1 : Blk W1 w.heap.size 9 ROW := by rw [hW1]; exact Blk.new w.drew ROW 9
  have hV1 : Blk W1 vb 9 [x] := by rw [hW1]; exact hvb.drew.alloc _
  have hX1 : Blk W1 b 9 xs := by rw [hW1]; exact hb.drew.alloc _
  rw [← hW1] at hrz
  have hcpA : ∀ (W : World), (∀ y, W.cell? y = W1.cell? y) → (∀ y, W.frozen? y = W1.frozen? y) → ∀ ty dc, (Builtin.copy_ #[22, 22] ty #[.slice (some ⟨w.heap.size, i, none⟩) (n + 1 - i) dc, .slice (some ⟨vb, 0, none⟩) 1 1]).run Try.prog W = .ok (goInt ([x] : List Value).length) (W.setCells w.heap.size i [x]) := fun W hWc hWf ty dc =>
    run_copy_cells W _ _ ty 9 w.heap.size i (n + 1 - i) dc ⟨vb, 0, none⟩ 1 1 [x] ES.und hsz (by simp only [Nat.min_def, List.length_singleton]; split <;> omega)
      (fun j v hj => by rw [hWc]; exact hV1.cells 0 [x] (fun j v hj => by simpa using hj) j v hj)
      (fun j hj => by rw [hWc]; exact hB1.isSome (by simp at hj; omega)) (fun j hj => by rw [hWf]; exact hB1.frozen _) (by simpa using h1x)
  have hGi : ¬ (G = i) := by omega
  have hGim : ¬ (G = i + 1) := by omega
  have hci : ¬ (n = i) := by omega
  have hbN : b ≠ w.heap.size := by omega
  have hdl : (xs.drop i).length = n - i := by rw [List.length_drop, hn]
  have hB2 : Blk (W1.setCells w.heap.size i [x]) w.heap.size 9 (over ROW i [x]) := hB1.setCells _ _ (by simp; omega)
  have hol : (over ROW i [x]).length = G := by simp [over]; omega
  have hX2 : Blk (W1.setCells w.heap.size i [x]) b 9 xs := hX1.chg (Chg.setCells (S := [w.heap.size]) (Or.inl (by simp)) _ _ (Chg.refl _ _)) (by simpa using hbN)
  have hcpB : ∀ (W : World), (∀ y, W.cell? y = (W1.setCells w.heap.size i [x]).cell? y) → (∀ y, W.frozen? y = (W1.setCells w.heap.size i [x]).frozen? y) → ∀ ty dc sc, (Builtin.copy_ #[22, 22] ty #[.slice (some ⟨w.heap.size, i + 1, none⟩) (n - i) dc, .slice (some ⟨b, i, none⟩) (n - i) sc]).run Try.prog W = .ok (goInt (xs.drop i).length) (W.setCells w.heap.size (i + 1) (xs.drop i)) := fun W hWc hWf ty dc sc =>
    run_copy_cells W _ _ ty 9 w.heap.size (i + 1) (n - i) dc ⟨b, i, none⟩ (n - i) sc (xs.drop i) ES.und hsz (by rw [hdl]; simp only [Nat.min_def]; split <;> omega)
      (fun j v hj => by rw [hWc]; exact hX2.cells i (xs.drop i) (fun j v hj => by rwa [List.getElem?_drop] at hj) j v hj)
      (fun j hj => by rw [hWc]; exact hB2.isSome (by omega))
      (fun j hj => by rw [hWf]; exact hB2.frozen _) (fun v hv => h1 v (List.mem_of_mem_drop hv))
  have hE1 : ∀ y, ((w.alloc (.cells ROW.toArray 9)).drew).cell? y = (w.drew.alloc (.cells ROW.toArray 9)).cell? y := fun y => rfl
  have hE2 : ∀ y, ((w.alloc (.cells ROW.toArray 9)).drew).frozen? y = (w.drew.alloc (.cells ROW.toArray 9)).frozen? y := fun y => rfl
  have hF1 : ∀ y, (((w.alloc (.cells ROW.toArray 9)).drew.setCells w.heap.size i [x]).drew).cell? y = ((w.drew.alloc (.cells ROW.toArray 9)).setCells w.heap.size i [x]).cell? y := fun y => rfl
  have hF2 : ∀ y, (((w.alloc (.cells ROW.toArray 9)).drew.setCells w.heap.size i [x]).drew).frozen? y = ((w.drew.alloc (.cells ROW.toArray 9)).setCells w.heap.size i [x]).frozen? y := fun y => rfl
  subst hW1
  have HR : Hid (ROW = xs.take i ++ List.replicate (G - i) (Value.string ByteArray.empty)) := hROW
  have hw1 : IntKind.i64.wrap ((i : Int) + 1) = (i : Int) + 1 := by rw [IntKind.wrap_i64]; omega
  have hq1 : (0 : Int) ≤ (i : Int) + 1 := by omega
  have hq2 : (i : Int) + 1 ≤ (n : Int) + 1 := by omega
  have hq3 : (i : Int) ≤ (n : Int) + 1 := by omega
  have hq4 : (i : Int) ≤ (n : Int) := by omega
  have htn : ((i : Int) + 1).toNat = i + 1 := by omega
  clear hkk hik hold hROW hG hRl hB1 hV1 hX1 hB2 hX2 hol hdl hb hvb hsz h1 hn
  go_enter Try.func46, Try.ntmps46
  go_wp2_with (first
    | (at_builtin; refine Lib.wpList_append_run _ rfl _ _ _ _ rfl _ _ rfl rfl _ _ (hrz _) ?_)
    | (at_builtin; refine wpList_copy_eq _ rfl _ _ 22 22 rfl _ _ rfl rfl (hcpA _ hE1 hE2 _ _) ?_))
  go_region_law (refine step_copy_eq rfl _ _ 22 22 rfl (.slice (some ⟨w.heap.size, i + 1, none⟩) (n - i) (G - (i + 1))) (.slice (some ⟨b, i, none⟩) (n - i) (n - i)) (by simp [Act.eval, Act.put]) (by simp [Act.eval, Act.put]) (hcpB _ hF1 hF2 3 (G - (i + 1)) (n - i)) ?_)
  go_wp2
  go_ret
  refine ⟨G, rfl, hGn, hG63, ?_⟩
  rw [← HR.out]
/-- slices.Insert, one element: in whatever case. -/
theorem insertS (w : World) (v : Value) (b vb i : Nat) (xs : List Value) (x : Value) (h : Own w 9 v b xs) (hsm : xs.length ≤ 1073741824) (hi : i ≤ xs.length)
    (hvb : Blk w vb 9 [x]) (hne : vb ≠ b) (h1x : x.oneCell' = true) (h1 : ∀ u ∈ xs, u.oneCell' = true) :
    Calls Try.prog 46 #[v, .int .i64 i, .slice (some ⟨vb, 0, none⟩) 1 1] w fun en w' =>
      ∃ v', en = .returned v' ∧ ∃ b', Own w' 9 v' b' (xs.take i ++ x :: xs.drop i) ∧ (b' = b ∨ w.heap.size ≤ b') ∧ Chg [b] w w' := by
  obtain ⟨sp, rfl, hb, hcap⟩ := h
  by_cases hie : i = xs.length
  · subst hie
    refine (insertS_end w b vb xs sp x hb hcap hsm hvb h1x).mono ?_
    rintro e w' ⟨v', rfl, b', ho, hor⟩
    rw [List.take_length, List.drop_length]
    rcases hor with ⟨rfl, hc⟩ | ⟨rfl, hc⟩
    · exact ⟨v', rfl, _, ho, Or.inl rfl, hc⟩
    · exact ⟨v', rfl, _, ho, Or.inr (Nat.le_refl _), hc.mono (by simp)⟩
  · by_cases hr : 0 < sp.length
    · refine (insertS_shift w b vb i xs sp x hb hcap hr (by omega) hvb hne h1x h1).mono ?_
      rintro e w' ⟨rfl, rfl⟩
      refine ⟨_, rfl, b, ⟨sp.drop 1, ?_, ?_, ?_⟩, Or.inl rfl, Chg.setCells (Or.inl (by simp)) _ _ (Chg.setCells (Or.inl (by simp)) _ _ (Chg.refl _ _).drew)⟩
      · simp; omega
      · rw [← over_shift xs sp i x (by omega) hr]
        exact Blk.setCells _ _ (Blk.setCells _ _ hb.drew (by simp; omega)) (by simp [over]; omega)
      · simp; omega
    · obtain rfl : sp = [] := List.eq_nil_of_length_eq_zero (by omega)
      simp only [List.append_nil, List.length_nil, Nat.add_zero] at hb ⊢
      refine (insertS_grow w b vb i xs x hb hsm (by omega) hvb h1x h1).mono ?_
      rintro e w' ⟨G, rfl, hG1, hG2, rfl⟩
      refine ⟨_, rfl, w.heap.size, ⟨List.replicate (G - (xs.length + 1)) (Value.string ByteArray.empty), ?_, ?_, ?_⟩, Or.inr (Nat.le_refl _), Chg.setCells (Or.inr (Nat.le_refl _)) _ _ (Chg.setCells (Or.inr (Nat.le_refl _)) _ _ ((Chg.refl _ _).alloc _).drew).drew⟩
      · simp; omega
      · rw [← over_grow xs i x G (by omega) hG1]
        exact Blk.setCells _ _ (Blk.drew (Blk.setCells _ _ (Blk.drew (Blk.new w _ 9)) (by simp; omega))) (by simp [over]; omega)
      · simp; omega

set_option maxHeartbeats 1000000 in
set_option maxRecDepth 100000 in
/-- slices.Insert, one element, there is room, i < len(s). -/
theorem insertN_shift (w : World) (b vb i : Nat) (xs sp : List Value) (x : Value) (hb : Blk w b 34 (xs ++ sp)) (hcap : xs.length + sp.length ≤ 9223372036854775807) (hroom : 0 < sp.length) (hi : i < xs.length)
    (hvb : Blk w vb 34 [x]) (hne : vb ≠ b) (h1x : x.oneCell' = true) (h1 : ∀ u ∈ xs, u.oneCell' = true) :
    Calls Try.prog 51 #[.slice (some ⟨b, 0, none⟩) xs.length (xs.length + sp.length), .int .i64 i, .slice (some ⟨vb, 0, none⟩) 1 1] w fun en w' =>
      en = .returned (.slice (some ⟨b, 0, none⟩) (xs.length + 1) (xs.length + sp.length)) ∧ w' = (w.drew.setCells b (i + 1) (xs.drop i)).setCells b i [x] := by
  obtain ⟨n, hn⟩ : ∃ n, n = xs.length := ⟨_, rfl⟩
  obtain ⟨c, hc⟩ : ∃ c, c = xs.length + sp.length := ⟨_, rfl⟩
  have hL : (xs ++ sp).length = c := by simp [hc]
  have hsz : (Try.prog.info? 34).map (·.size) = some 1 := by
    obtain ⟨i0, hi0, h0, h1, h2⟩ := info_parts EN.info
    rw [hi0]; simp [h1]
  rw [← hc, ← hn]
  have hnc : n + 1 ≤ c := by omega
  have hc63 : c ≤ 9223372036854775807 := by omega
  have hin : i < n := by omega
  have hz2 : ¬ ((i : Int) = (n : Int)) := by omega
  have hov : ∀ lb cb, (callFunc 57 #[.slice (some ⟨vb, 0, none⟩) 1 1, .slice (some ⟨b, i + 1, none⟩) lb cb]).run Try.prog w = .ok (.value (.bool false)) w := fun lb cb => by
    rw [run_callFunc_extern Try.func57 (by kernel_rfl) (by kernel_rfl) (by kernel_rfl) (e := Extern.SlicesOverlaps.overlaps #[45, 45] #[4]) (by kernel_rfl),
      Lib.run_overlaps_apart w 45 4 34 EN.und 1 EN.size ⟨vb, 0, none⟩ ⟨b, i + 1, none⟩ 1 1 lb cb hne 34 34 1 c (by unfold Blk at hvb; simp [World.shape?, hvb]) (by unfold Blk at hb; simp [World.shape?, hb, hc]) (by omega) (hvb.frozen _) (hvb.frozen _)]
    rfl
  have hdl : (xs.drop i).length = n - i := by rw [List.length_drop, hn]
  have hcp1 : ∀ ty dc sc, (Builtin.copy_ #[45, 45] ty #[.slice (some ⟨b, i + 1, none⟩) (n - i) dc, .slice (some ⟨b, i, none⟩) (n + 1 - i) sc]).run Try.prog w.drew = .ok (goInt (xs.drop i).length) (w.drew.setCells b (i + 1) (xs.drop i)) := fun ty dc sc =>
    run_copy_cells w.drew _ _ ty 34 b (i + 1) (n - i) dc ⟨b, i, none⟩ (n + 1 - i) sc (xs.drop i) EN.und hsz (by rw [hdl]; simp only [Nat.min_def]; split <;> omega)
      (hb.drew.cells i _ (fun j v hj => by rw [List.getElem?_drop] at hj; rw [List.getElem?_append_left (List.getElem?_eq_some_iff.1 hj).1]; exact hj))
      (fun j hj => hb.drew.isSome (by omega)) (fun j hj => hb.drew.frozen _) (fun v hv => h1 v (List.mem_of_mem_drop hv))
  obtain ⟨W1, hW1⟩ : ∃ W1, W1 = w.drew.setCells b (i + 1) (xs.drop i) := ⟨_, rfl⟩
  have hb1 : Blk W1 b 34 (over (xs ++ sp) (i + 1) (xs.drop i)) := by rw [hW1]; exact hb.drew.setCells _ _ (by omega)
  have hv1 : Blk W1 vb 34 [x] := by rw [hW1]; exact hvb.drew.chg (Chg.setCells (S := [b]) (Or.inl (by simp)) _ _ (Chg.refl _ _)) (by simpa using hne)
  have hol : (over (xs ++ sp) (i + 1) (xs.drop i)).length = c := by simp [over]; omega
  have hcp2 : ∀ (W : World), (∀ y, W.cell? y = W1.cell? y) → (∀ y, W.frozen? y = W1.frozen? y) → ∀ ty dc, (Builtin.copy_ #[45, 45] ty #[.slice (some ⟨b, i, none⟩) (n + 1 - i) dc, .slice (some ⟨vb, 0, none⟩) 1 1]).run Try.prog W = .ok (goInt ([x] : List Value).length) (W.setCells b i [x]) := fun W hWc hWf ty dc =>
    run_copy_cells W _ _ ty 34 b i (n + 1 - i) dc ⟨vb, 0, none⟩ 1 1 [x] EN.und hsz (by simp only [Nat.min_def, List.length_singleton]; split <;> omega)
      (fun j v hj => by rw [hWc]; exact hv1.cells 0 [x] (fun j v hj => by simpa using hj) j v hj)
      (fun j hj => by rw [hWc]; exact hb1.isSome (by simp at hj; omega)) (fun j hj => by rw [hWf]; exact hb1.frozen _) (by simpa using h1x)
  rw [← hW1] at hcp1
  have HW : Hid (W1 = w.drew.setCells b (i + 1) (xs.drop i)) := hW1
  have hb2 : ¬ (c = i + 1) := by omega
  have hw1 : IntKind.i64.wrap ((i : Int) + 1) = (i : Int) + 1 := by rw [IntKind.wrap_i64]; omega
  have hq1 : (0 : Int) ≤ (i : Int) + 1 := by omega
  have hq2 : (i : Int) + 1 ≤ (n : Int) + 1 := by omega
  have hq3 : (i : Int) ≤ (n : Int) + 1 := by omega
  have htn : ((i : Int) + 1).toNat = i + 1 := by omega
  have hb4 : ¬ (c = i) := by omega
  clear hb1 hv1 hol hb hvb hL hW1 hsz h1 hn hc hcap hroom hi
  go_enter Try.func51, Try.ntmps51
  go_wp2_with (simp only [hov])
  go_region_law (refine step_copy_eq rfl _ _ 45 45 rfl _ _ (by simp [Act.eval, Act.put]) (by simp [Act.eval, Act.put]) (hcp1 _ _ _) ?_)
  go_wp2_with (at_builtin; refine wpList_copy_eq _ rfl _ _ 45 45 rfl _ _ rfl rfl (hcp2 _ (fun _ => rfl) (fun _ => rfl) _ _) ?_)
  go_ret
  rw [← HW.out]
  exact ⟨rfl, rfl⟩

set_option maxHeartbeats 1000000 in
set_option maxRecDepth 100000 in
/-- slices.Insert, one element, at the end. -/
theorem insertN_end (w : World) (b vb : Nat) (xs sp : List Value) (x : Value) (hb : Blk w b 34 (xs ++ sp)) (hcap : xs.length + sp.length ≤ 9223372036854775807) (hsm : xs.length ≤ 1073741824)
    (hvb : Blk w vb 34 [x]) (h1x : x.oneCell' = true) :
    Calls Try.prog 51 #[.slice (some ⟨b, 0, none⟩) xs.length (xs.length + sp.length), .int .i64 (xs.length : Nat), .slice (some ⟨vb, 0, none⟩) 1 1] w fun en w' =>
      ∃ v', en = .returned v' ∧ ∃ b', Own w' 34 v' b' (xs ++ [x]) ∧ ((b' = b ∧ Chg [b] w w') ∨ (b' = w.heap.size ∧ Chg [] w w')) := by
  obtain ⟨v', b', w', hrun, hown, hor⟩ := append_blk EN hb hcap ⟨vb, 0, none⟩ 1 1 [x] rfl (hvb.cells 0 [x] (fun j v hj => by simpa using hj)) (by simpa using h1x) (by omega) (by omega)
  have HO : Hid (Own w' 34 v' b' (xs ++ [x]) ∧ ((b' = b ∧ Chg [b] w w') ∨ (b' = w.heap.size ∧ Chg [] w w'))) := ⟨hown, (match hor with | .inl h => .inl ⟨h.1, h.2.1⟩ | .inr h => .inr ⟨h.1, h.2.1⟩)⟩
  clear hown hor hb hvb
  obtain ⟨n, hn⟩ : ∃ n, n = xs.length := ⟨_, rfl⟩
  obtain ⟨c, hc⟩ : ∃ c, c = xs.length + sp.length := ⟨_, rfl⟩
  rw [← hc, ← hn] at hrun ⊢
  have hnc : n ≤ c := by omega
  have hc63 : c ≤ 9223372036854775807 := by omega
  clear hcap hn hc hsm
  go_enter Try.func51, Try.ntmps51
  go_wp2_with (at_builtin; refine Lib.wpList_append_run _ rfl _ _ _ _ rfl _ _ rfl rfl _ _ (hrun _) ?_)
  all_goals
    go_ret
    exact ⟨v', rfl, b', HO.out⟩

set_option maxHeartbeats 1000000 in
set_option maxRecDepth 100000 in
/-- slices.Insert, one element, i < len(s), no room: a new row. -/
theorem insertN_grow (w : World) (b vb i : Nat) (xs : List Value) (x : Value) (hb : Blk w b 34 xs) (hsm : xs.length ≤ 1073741824) (hi : i < xs.length)
    (hvb : Blk w vb 34 [x]) (h1x : x.oneCell' = true) (h1 : ∀ u ∈ xs, u.oneCell' = true) :
    Calls Try.prog 51 #[.slice (some ⟨b, 0, none⟩) xs.length xs.length, .int .i64 i, .slice (some ⟨vb, 0, none⟩) 1 1] w fun en w' =>
      ∃ G, en = .returned (.slice (some ⟨w.heap.size, 0, none⟩) (xs.length + 1) G) ∧ xs.length + 1 ≤ G ∧ G ≤ 9223372036854775807 ∧
      w' = (((w.alloc (.cells (xs.take i ++ List.replicate (G - i) (Value.pointer none)).toArray 34)).drew.setCells w.heap.size i [x]).drew).setCells w.heap.size (i + 1) (xs.drop i) := by
  obtain ⟨n, hn⟩ : ∃ n, n = xs.length := ⟨_, rfl⟩
  obtain ⟨i0, hi0, hz0, hzs, hzb⟩ := info_parts EN.info
  have hsz : (Try.prog.info? 34).map (·.size) = some 1 := by rw [hi0]; simp [hzs]
  rw [← hn]
  have hin : i < n := by omega
  have hbw := hb.lt
  have hvw := hvb.lt
  have hz2 : ¬ ((i : Int) = (n : Int)) := by omega
  have hz3 : (n : Int) < (n : Int) + 1 := by omega
  have hkk : (n : Int) + 1 - (i : Int) = ((n + 1 - i : Nat) : Int) := by omega
  have hik : i + (n + 1 - i) = n + 1 := by omega
  have hold : (Builtin.firstCells i0.size i (.slice (some ⟨b, 0, none⟩) i n)).run Try.prog w.drew = .ok (xs.take i).toArray w.drew := by
    rw [hzs]
    exact run_firstCells_some w.drew 1 i ⟨b, 0, none⟩ i n (xs.take i) (by rw [List.length_take]; omega) (hb.drew.cells 0 _ (fun j v hj => by
      rw [List.getElem?_take] at hj
      split at hj
      · simpa using hj
      · cases hj))
  obtain ⟨G, hG⟩ : ∃ G, G = grownCap w (n + 1) n 34 := ⟨_, rfl⟩
  have hGn : n + 1 ≤ G := by rw [hG]; exact grownCap_ge w _ _ _
  have hG63 : G ≤ 9223372036854775807 := by
    have := grownCap_le_maxLen w (n + 1) n 34 (by unfold maxLen; omega)
    rw [← hG] at this
    unfold maxLen at this
    omega
  have hrz : ∀ ty, (Builtin.append_ #[45, 3] ty #[.slice (some ⟨b, 0, none⟩) i n, .int .i64 ((n : Int) + 1 - (i : Int))]).run Try.prog w =
      .ok (.slice (some ⟨w.heap.size, 0, none⟩) (n + 1) G) (w.drew.alloc (.cells (xs.take i ++ List.replicate (G - i) (Value.pointer none)).toArray 34)) := fun ty => by
    have h := Lib.run_append_grow_zeros w 45 3 ty 34 i0 _ .i64 .i64 EN.und Try.underlying3 hi0 hz0 (some ⟨b, 0, none⟩) i n (xs.take i) hold (n + 1 - i) (by omega) (by omega) (by omega) (by omega) (by rw [hzb]; omega) (by rw [hzb, hik]; exact growslice_fits (by omega) (by omega))
    rw [hik, ← hG, zeroCells_one EN, zeroCells_one EN, List.append_toArray, List.append_toArray, List.append_assoc, List.replicate_append_replicate, show n + 1 - i + (G - (n + 1)) = G - i by omega] at h
    rw [hkk]
    exact h
  obtain ⟨ROW, hROW⟩ : ∃ ROW : List Value, ROW = xs.take i ++ List.replicate (G - i) (Value.pointer none) := ⟨_, rfl⟩
  have hRl : ROW.length = G := by rw [hROW]; simp; omega
  rw [← hROW] at hrz
  obtain ⟨W1, hW1⟩ : ∃ W1, W1 = w.drew.alloc (.cells ROW.toArray 34) := ⟨_, rfl⟩
  have hB1 : Blk W1 w.heap.size 34 ROW := by rw [hW1]; exact Blk.new w.drew ROW 34
  have hV1 : Blk W1 vb 34 [x] := by rw [hW1]; exact hvb.drew.alloc _
  have hX1 : Blk W1 b 34 xs := by rw [hW1]; exact hb.drew.alloc _
  rw [← hW1] at hrz
  have hcpA : ∀ (W : World), (∀ y, W.cell? y = W1.cell? y) → (∀ y, W.frozen? y = W1.frozen? y) → ∀ ty dc, (Builtin.copy_ #[45, 45] ty #[.slice (some ⟨w.heap.size, i, none⟩) (n + 1 - i) dc, .slice (some ⟨vb, 0, none⟩) 1 1]).run Try.prog W = .ok (goInt ([x] : List Value).length) (W.setCells w.heap.size i [x]) := fun W hWc hWf ty dc =>
    run_copy_cells W _ _ ty 34 w.heap.size i (n + 1 - i) dc ⟨vb, 0, none⟩ 1 1 [x] EN.und hsz (by simp only [Nat.min_def, List.length_singleton]; split <;> omega)
      (fun j v hj => by rw [hWc]; exact hV1.cells 0 [x] (fun j v hj => by simpa using hj) j v hj)
      (fun j hj => by rw [hWc]; exact hB1.isSome (by simp at hj; omega)) (fun j hj => by rw [hWf]; exact hB1.frozen _) (by simpa using h1x)
  have hGi : ¬ (G = i) := by omega
  have hGim : ¬ (G = i + 1) := by omega
  have hci : ¬ (n = i) := by omega
  have hbN : b ≠ w.heap.size := by omega
  have hdl : (xs.drop i).length = n - i := by rw [List.length_drop, hn]
  have hB2 : Blk (W1.setCells w.heap.size i [x]) w.heap.size 34 (over ROW i [x]) := hB1.setCells _ _ (by simp; omega)
  have hol : (over ROW i [x]).length = G := by simp [over]; omega
  have hX2 : Blk (W1.setCells w.heap.size i [x]) b 34 xs := hX1.chg (Chg.setCells (S := [w.heap.size]) (Or.inl (by simp)) _ _ (Chg.refl _ _)) (by simpa using hbN)
  have hcpB : ∀ (W : World), (∀ y, W.cell? y = (W1.setCells w.heap.size i [x]).cell? y) → (∀ y, W.frozen? y = (W1.setCells w.heap.size i [x]).frozen? y) → ∀ ty dc sc, (Builtin.copy_ #[45, 45] ty #[.slice (some ⟨w.heap.size, i + 1, none⟩) (n - i) dc, .slice (some ⟨b, i, none⟩) (n - i) sc]).run Try.prog W = .ok (goInt (xs.drop i).length) (W.setCells w.heap.size (i + 1) (xs.drop i)) := fun W hWc hWf ty dc sc =>
    run_copy_cells W _ _ ty 34 w.heap.size (i + 1) (n - i) dc ⟨b, i, none⟩ (n - i) sc (xs.drop i) EN.und hsz (by rw [hdl]; simp only [Nat.min_def]; split <;> omega)
      (fun j v hj => by rw [hWc]; exact hX2.cells i (xs.drop i) (fun j v hj => by rwa [List.getElem?_drop] at hj) j v hj)
      (fun j hj => by rw [hWc]; exact hB2.isSome (by omega))
      (fun j hj => by rw [hWf]; exact hB2.frozen _) (fun v hv => h1 v (List.mem_of_mem_drop hv))
  have hE1 : ∀ y, ((w.alloc (.cells ROW.toArray 34)).drew).cell? y = (w.drew.alloc (.cells ROW.toArray 34)).cell? y := fun y => rfl
  have hE2 : ∀ y, ((w.alloc (.cells ROW.toArray 34)).drew).frozen? y = (w.drew.alloc (.cells ROW.toArray 34)).frozen? y := fun y => rfl
  have hF1 : ∀ y, (((w.alloc (.cells ROW.toArray 34)).drew.setCells w.heap.size i [x]).drew).cell? y = ((w.drew.alloc (.cells ROW.toArray 34)).setCells w.heap.size i [x]).cell? y := fun y => rfl
  have hF2 : ∀ y, (((w.alloc (.cells ROW.toArray 34)).drew.setCells w.heap.size i [x]).drew).frozen? y = ((w.drew.alloc (.cells ROW.toArray 34)).setCells w.heap.size i [x]).frozen? y := fun y => rfl
  subst hW1
  have HR : Hid (ROW = xs.take i ++ List.replicate (G - i) (Value.pointer none)) := hROW
  have hw1 : IntKind.i64.wrap ((i : Int) + 1) = (i : Int) + 1 := by rw [IntKind.wrap_i64]; omega
  have hq1 : (0 : Int) ≤ (i : Int) + 1 := by omega
  have hq2 : (i : Int) + 1 ≤ (n : Int) + 1 := by omega
  have hq3 : (i : Int) ≤ (n : Int) + 1 := by omega
  have hq4 : (i : Int) ≤ (n : Int) := by omega
  have htn : ((i : Int) + 1).toNat = i + 1 := by omega
  clear hkk hik hold hROW hG hRl hB1 hV1 hX1 hB2 hX2 hol hdl hb hvb hsz h1 hn
  go_enter Try.func51, Try.ntmps51
  go_wp2_with (first
    | (at_builtin; refine Lib.wpList_append_run _ rfl _ _ _ _ rfl _ _ rfl rfl _ _ (hrz _) ?_)
    | (at_builtin; refine wpList_copy_eq _ rfl _ _ 45 45 rfl _ _ rfl rfl (hcpA _ hE1 hE2 _ _) ?_))
  go_region_law (refine step_copy_eq rfl _ _ 45 45 rfl (.slice (some ⟨w.heap.size, i + 1, none⟩) (n - i) (G - (i + 1))) (.slice (some ⟨b, i, none⟩) (n - i) (n - i)) (by simp [Act.eval, Act.put]) (by simp [Act.eval, Act.put]) (hcpB _ hF1 hF2 3 (G - (i + 1)) (n - i)) ?_)
  go_wp2
  go_ret
  refine ⟨G, rfl, hGn, hG63, ?_⟩
  rw [← HR.out]
/-- slices.Insert, one element: in whatever case. -/
theorem insertN (w : World) (v : Value) (b vb i : Nat) (xs : List Value) (x : Value) (h : Own w 34 v b xs) (hsm : xs.length ≤ 1073741824) (hi : i ≤ xs.length)
    (hvb : Blk w vb 34 [x]) (hne : vb ≠ b) (h1x : x.oneCell' = true) (h1 : ∀ u ∈ xs, u.oneCell' = true) :
    Calls Try.prog 51 #[v, .int .i64 i, .slice (some ⟨vb, 0, none⟩) 1 1] w fun en w' =>
      ∃ v', en = .returned v' ∧ ∃ b', Own w' 34 v' b' (xs.take i ++ x :: xs.drop i) ∧ (b' = b ∨ w.heap.size ≤ b') ∧ Chg [b] w w' := by
  obtain ⟨sp, rfl, hb, hcap⟩ := h
  by_cases hie : i = xs.length
  · subst hie
    refine (insertN_end w b vb xs sp x hb hcap hsm hvb h1x).mono ?_
    rintro e w' ⟨v', rfl, b', ho, hor⟩
    rw [List.take_length, List.drop_length]
    rcases hor with ⟨rfl, hc⟩ | ⟨rfl, hc⟩
    · exact ⟨v', rfl, _, ho, Or.inl rfl, hc⟩
    · exact ⟨v', rfl, _, ho, Or.inr (Nat.le_refl _), hc.mono (by simp)⟩
  · by_cases hr : 0 < sp.length
    · refine (insertN_shift w b vb i xs sp x hb hcap hr (by omega) hvb hne h1x h1).mono ?_
      rintro e w' ⟨rfl, rfl⟩
      refine ⟨_, rfl, b, ⟨sp.drop 1, ?_, ?_, ?_⟩, Or.inl rfl, Chg.setCells (Or.inl (by simp)) _ _ (Chg.setCells (Or.inl (by simp)) _ _ (Chg.refl _ _).drew)⟩
      · simp; omega
      · rw [← over_shift xs sp i x (by omega) hr]
        exact Blk.setCells _ _ (Blk.setCells _ _ hb.drew (by simp; omega)) (by simp [over]; omega)
      · simp; omega
    · obtain rfl : sp = [] := List.eq_nil_of_length_eq_zero (by omega)
      simp only [List.append_nil, List.length_nil, Nat.add_zero] at hb ⊢
      refine (insertN_grow w b vb i xs x hb hsm (by omega) hvb h1x h1).mono ?_
      rintro e w' ⟨G, rfl, hG1, hG2, rfl⟩
      refine ⟨_, rfl, w.heap.size, ⟨List.replicate (G - (xs.length + 1)) (Value.pointer none), ?_, ?_, ?_⟩, Or.inr (Nat.le_refl _), Chg.setCells (Or.inr (Nat.le_refl _)) _ _ (Chg.setCells (Or.inr (Nat.le_refl _)) _ _ ((Chg.refl _ _).alloc _).drew).drew⟩
      · simp; omega
      · rw [← over_grow xs i x G (by omega) hG1]
        exact Blk.setCells _ _ (Blk.drew (Blk.setCells _ _ (Blk.drew (Blk.new w _ 34)) (by simp; omega))) (by simp [over]; omega)
      · simp; omega
end Go.Proofs.Qxb6601743a
