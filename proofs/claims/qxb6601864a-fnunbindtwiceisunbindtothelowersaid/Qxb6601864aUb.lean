import Derived.Test.Qxb6601864aNb
namespace Go.Proofs.Qxb6601864a
open Go.RowKit

theorem blk_ne {w : World} {b c e e' : Nat} {xs ys : List Value} (h : Blk w b e xs) (h' : Blk w c e' ys) (hne : e ≠ e' := by decide) : b ≠ c := fun hb => by
  subst hb
  unfold Blk at h h'
  rw [h] at h'
  simp at h'
  exact hne h'.2

def undo1 (m : Mp) (h : Hd) : Mp := if h.2.2 then put m h.1 h.2.1 else del m h.1
/-- All that was hidden at place M and behind is undone, newest first. -/
def undo (hs : List Hd) (m : Mp) (M : Nat) : Mp := (hs.drop M).reverse.foldl undo1 m

theorem undo_step {hs : List Hd} {m : Mp} {k : Nat} {h : Hd} (hk : hs[k]? = some h) : undo hs m k = undo1 (undo hs m (k + 1)) h := by
  obtain ⟨hlt, rfl⟩ := List.getElem?_eq_some_iff.1 hk
  unfold undo
  rw [List.drop_eq_getElem_cons hlt, List.reverse_cons, List.foldl_append]
  rfl
theorem undo_end (hs : List Hd) (m : Mp) : undo hs m hs.length = m := by simp [undo]
theorem undo_two (hs : List Hd) (m : Mp) (k j : Nat) (hj : j ≤ k) : undo (hs.take k) (undo hs m k) j = undo hs m j := by
  unfold undo
  rw [← List.foldl_append, ← List.reverse_append]
  congr 2
  rw [List.drop_take]
  have : hs.drop k = (hs.drop j).drop (k - j) := by rw [List.drop_drop]; congr 1; omega
  rw [this, List.take_append_drop]

set_option maxHeartbeats 4000000 in
theorem unbind_any (B p mb : Nat) (hs : List Hd) (m : Mp) (M : Nat) (w : World) (hb : Bnd B w p mb hs m) (hl : hs.length ≤ 4096) :
    Calls Try.prog 31 #[ptr p, .int .i64 M] w fun e w' => e = .returned (.tuple #[]) ∧ Bnd B w' p mb (hs.take (min M hs.length)) (undo hs m (min M hs.length)) ∧ Below B w w' := by
  have HB := hid hb
  have h3 : B ≤ w.heap.size := by obtain ⟨_, _, _, _, _, _, h⟩ := hb; exact h
  clear hb
  go_enter Try.func31, Try.ntmps31
  go_wp2
  go_loopg [4] hs.length (fun g _ wr => g ≤ hs.length ∧ min M hs.length ≤ g ∧ Bnd B wr p mb (hs.take g) (undo hs m g) ∧ Below B w wr)
  case atStart => exact ⟨Nat.le_refl _, by omega, by rw [List.take_length, undo_end]; exact HB.out, Below.refl _ _⟩
  case round =>
    clear HB
    obtain ⟨hg, hmin, hB, hbel⟩ := hrel
    obtain ⟨hv, hP, hM, hown, h1, h2, h4⟩ := id hB
    have hlen : (hs.take gk).length = gk := by rw [List.length_take]; omega
    rw [hlen] at hown
    have HB : Hid (Bnd B wr p mb (hs.take gk) (undo hs m gk) ∧ Below B w wr) := ⟨hB, hbel⟩
    by_cases hgt : M < gk
    · obtain ⟨k, rfl⟩ : ∃ k, gk = k + 1 := ⟨gk - 1, by omega⟩
      obtain ⟨hd, hhd⟩ : ∃ hd, hs[k]? = some hd := ⟨hs[k]'(by omega), by simp⟩
      obtain ⟨g, cap, cur, rfl, q1, q2, q3, q4, q5, q6⟩ : ∃ g cap cur, hv = .slice (some ⟨g, 0, none⟩) (k + 1) cap ∧ B ≤ g ∧ wr.heap[g]? = some (.cells cur 57 (0, 0)) ∧ k + 1 ≤ cap ∧ cap ≤ maxLen ∧ cur.size = cap * 3 ∧ cur.toList.take ((k + 1) * 3) = (hs.take (k + 1)).flatMap hcells := by
        rcases hown.2 with ⟨_, h⟩ | h
        · omega
        · exact h
      have htake : hs.take (k + 1) = hs.take k ++ [hd] := by
        obtain ⟨hlt, e⟩ := List.getElem?_eq_some_iff.1 hhd
        rw [List.take_succ_eq_append_getElem hlt, e]
      have t1 : (M : Int) < (k : Int) + 1 := by omega
      have c1 := hP.cell (k := 1) rfl
      have hcc : ∀ j u, (hcells hd)[j]? = some u → cur[k * 3 + j]? = some u := fun j u hj => by
        have hj3 : j < 3 := by have := (List.getElem?_eq_some_iff.1 hj).1; simpa [hcells] using this
        have e1 : (cur.toList.take ((k + 1) * 3))[k * 3 + j]? = some u := by
          rw [q6, htake, List.flatMap_append, List.getElem?_append_right (by rw [flat_len, List.length_take]; omega), flat_len, List.length_take, Nat.min_eq_left (by omega), Nat.add_sub_cancel_left]
          simpa using hj
        rw [List.getElem?_take, if_pos (by omega)] at e1
        simpa using e1
      have d0 : wr.cell? ⟨g, k * 3, none⟩ = some (.string hd.1) := by have := hcc 0 (.string hd.1) rfl; simpa [World.cell?, q2] using this
      have d1 : wr.cell? ⟨g, k * 3 + 1, none⟩ = some (.string hd.2.1) := by have := hcc 1 (.string hd.2.1) rfl; simpa [World.cell?, q2] using this
      have d2 : wr.cell? ⟨g, k * 3 + 2, none⟩ = some (.bool hd.2.2) := by have := hcc 2 (.bool hd.2.2) rfl; simpa [World.cell?, q2] using this
      have ca : ∀ o, Chg [] wr (wr.alloc o) := fun o => (Chg.refl _ _).alloc o
      have d0a : ∀ o, (wr.alloc o).cell? ⟨g, k * 3, none⟩ = some (.string hd.1) := fun o => (ca o).cell d0
      have d1a : ∀ o, (wr.alloc o).cell? ⟨g, k * 3 + 1, none⟩ = some (.string hd.2.1) := fun o => (ca o).cell d1
      have d2a : ∀ o, (wr.alloc o).cell? ⟨g, k * 3 + 2, none⟩ = some (.bool hd.2.2) := fun o => (ca o).cell d2
      have c1a : ∀ o, (wr.alloc o).cell? ⟨p, 1, none⟩ = some (.slice (some ⟨g, 0, none⟩) (k + 1) cap) := fun o => (ca o).cell c1
      clear ca
      have t2 : IntKind.i64.wrap (k : Int) = (k : Int) := by rw [IntKind.wrap_i64]; omega
      have t3 : (k : Int) < (k : Int) + 1 := by omega
      have HQ : Hid (wr.heap[g]? = some (.cells cur 57 (0, 0)) ∧ cur.toList.take ((k + 1) * 3) = (hs.take (k + 1)).flatMap hcells) := ⟨q2, q6⟩
      have HPP := hid hP
      have HHD := hid hhd
      have HTK := hid htake
      clear hB hbel hP hM hown hcc q6 q2 htake hhd hlen
      go_wp2_with fail
      go_region
      have F : Bnd B (wr.alloc (.cells #[.string hd.1, .string hd.2.1, .bool hd.2.2] 57)).drew p mb (hs.take (k + 1)) (undo hs m (k + 1)) ∧ Blk (wr.alloc (.cells #[.string hd.1, .string hd.2.1, .bool hd.2.2] 57)).drew wr.heap.size 57 (hcells hd) ∧
          Below B w (wr.alloc (.cells #[.string hd.1, .string hd.2.1, .bool hd.2.2] 57)).drew ∧ (wr.alloc (.cells #[.string hd.1, .string hd.2.1, .bool hd.2.2] 57)).drew.heap[g]? = some (.cells cur 57 (0, 0)) ∧ Blk (wr.alloc (.cells #[.string hd.1, .string hd.2.1, .bool hd.2.2] 57)).drew p 55 [.map (some mb), .slice (some ⟨g, 0, none⟩) (k + 1) cap] := by
        obtain ⟨hB, hbel⟩ := HB.out
        obtain ⟨qq2, qq6⟩ := HQ.out
        refine ⟨(hB.below ((Below.refl _ _).alloc (Nat.le_refl _) _) (Nat.le_refl _)).drew, (Blk.new wr (hcells hd) 57).drew, (hbel.alloc h4 _).drew, ?_, (HPP.out.alloc _).drew⟩
        exact (Below.heap_alloc wr _ g (Array.getElem?_eq_some_iff.1 qq2).1).trans qq2
      obtain ⟨hbk, hhbk⟩ : ∃ hbk, hbk = wr.heap.size := ⟨_, rfl⟩
      rw [← hhbk] at F ⊢
      generalize World.drew (World.alloc wr _) = W1 at F ⊢
      obtain ⟨hB1, hH1, hbel1, hg1, hP1⟩ := F
      clear HB HPP d0 d1 d2 d0a d1a d2a c1a c1 hhbk
      have c1 := hP1.cell (k := 1) rfl
      have f1 := hP1.frozen 1
      have t4 : (k : Int) ≤ (cap : Int) := by omega
      have t5 : (0 : Int) ≤ (k : Int) := by omega
      have H1 : Hid (Bnd B W1 p mb (hs.take (k + 1)) (undo hs m (k + 1)) ∧ Blk W1 hbk 57 (hcells hd) ∧ Below B w W1 ∧ W1.heap[g]? = some (.cells cur 57 (0, 0)) ∧ Blk W1 p 55 [.map (some mb), .slice (some ⟨g, 0, none⟩) (k + 1) cap]) := ⟨hB1, hH1, hbel1, hg1, hP1⟩
      clear hB1 hH1 hbel1 hg1 hP1
      go_wp2_with fail
      refine wp_region_parts (fun w' => w'.cell? ⟨p, 1, none⟩ = some (.slice (some ⟨g, 0, none⟩) (k + 1) cap))
        [(0, false), (1, false), (2, false), (3, false), (4, true), (5, false), (6, false), (7, false), (8, true), (9, false), (10, false), (11, false)] [(12, true), (13, true), (14, true)] (by kernel_rfl) (fun _ _ _ _ _ h => h) (by kernel_rfl) c1 ?_
      simp only [pick, List.map_cons, List.map_nil, List.getElem?_toArray, List.getElem?_cons_zero, List.getElem?_cons_succ]
      repeat (refine Heads.cons (v := ?_) ?_ ?_; rotate_left 1; (· (intro w' hw'; (first | (have hw2 := hw' rfl; clear hw') | clear hw'); go_simp; (try with_reducible rfl); done)); simp only [Act.put, List.setIfInBounds_toArray, List.set_cons_zero, List.set_cons_succ])
      refine Heads.nil ?_
      refine Rest.cons (fun K hK => ?_)
      go_simp
      refine hK.out _ _ (fun h => by cases h) ?_
      clear hK K
      refine Rest.cons (fun K hK => ?_)
      go_simp
      refine hK.out _ _ (fun h => by cases h) ?_
      clear hK K
      refine Rest.cons (fun K hK => ?_)
      go_simp
      refine hK.out _ _ (fun h => by cases h) (Rest.nil ?_)
      clear hK K
      have F : Bnd B (W1.setCell ⟨p, 1, none⟩ (.slice (some ⟨g, 0, none⟩) k cap)).drew p mb (hs.take k) (undo hs m (k + 1)) ∧ Blk (W1.setCell ⟨p, 1, none⟩ (.slice (some ⟨g, 0, none⟩) k cap)).drew hbk 57 (hcells hd) ∧ Below B w (W1.setCell ⟨p, 1, none⟩ (.slice (some ⟨g, 0, none⟩) k cap)).drew := by
        obtain ⟨hB1, hH1, hbel1, hg1, hP1⟩ := H1.out
        obtain ⟨qq2, qq6⟩ := HQ.out
        have hgp : g ≠ p := fun e => by
          subst e
          unfold Blk at hP1
          rw [hg1] at hP1
          simp at hP1
        refine ⟨⟨_, (hP1.set 1 _).drew, ?_, ⟨?_, Or.inr ⟨g, cap, cur, ?_, q1, ?_, ?_, q4, q5, ?_⟩⟩, h1, h2, ?_⟩, (hH1.setOther (blk_ne hH1 hP1) _).drew, (hbel1.setCell h1 _).drew⟩
        · exact (Below.heap_setCell _ _ _ _ (map_ne_blk hB1.map hP1)).trans hB1.map
        · rw [flat_len]
        · rw [List.length_take, Nat.min_eq_left (by omega)]
        · exact (Below.heap_setCell _ _ _ _ hgp).trans hg1
        · rw [List.length_take]; omega
        · rw [List.length_take, Nat.min_eq_left (by omega)]
          have e1 := congrArg (List.take (k * 3)) qq6
          have hfl : ((hs.take k).flatMap hcells).length = k * 3 := by rw [flat_len, List.length_take]; omega
          rw [List.take_take, Nat.min_eq_left (by omega), HTK.out, List.flatMap_append, List.take_append_of_le_length (by omega)] at e1
          rw [e1, ← hfl, List.take_length]
        · have := hbel1.size
          show B ≤ (W1.setCell _ _).heap.size
          simp [World.setCell]; omega
      generalize World.drew (World.setCell W1 _ _) = W2 at F ⊢
      obtain ⟨hB2, hH2, hbel2⟩ := F
      clear H1 c1 f1 t4 t5
      have c0 := hB2.bound
      have e0 := hH2.cell (k := 0) rfl
      have e1 := hH2.cell (k := 1) rfl
      have e2 := hH2.cell (k := 2) rfl
      have hput := run_put (P := Try.prog) Try.underlying37 Try.underlying9 hB2.drew.map hd.1 hd.2.1
      have hdel := fun ty => run_del (P := Try.prog) Try.underlying37 Try.underlying9 hB2.drew.map hd.1 ty
      have R1 : Hid (hd.2.2 = true → Bnd B (setMap W2.drew mb (put (undo hs m (k + 1)) hd.1 hd.2.1)) p mb (hs.take k) (undo hs m k) ∧ Below B w (setMap W2.drew mb (put (undo hs m (k + 1)) hd.1 hd.2.1))) := fun hb => by
        rw [undo_step HHD.out, undo1, if_pos hb]
        exact ⟨hB2.drew.setMap _, below_setMap hbel2.drew h2 _⟩
      have R2 : Hid (hd.2.2 = false → Bnd B (setMap W2.drew mb (del (undo hs m (k + 1)) hd.1)) p mb (hs.take k) (undo hs m k) ∧ Below B w (setMap W2.drew mb (del (undo hs m (k + 1)) hd.1))) := fun hb => by
        rw [undo_step HHD.out, undo1, if_neg (by rw [hb]; decide)]
        exact ⟨hB2.drew.setMap _, below_setMap hbel2.drew h2 _⟩
      clear hB2 hH2 hbel2 HHD HTK HQ
      cases hbd : hd.2.2 with
      | true =>
        rw [hbd] at e2
        have R := hid (R1.out hbd)
        clear R1 R2 hdel
        go_wp2_with fail
        refine wp_region_parts (fun w' => w'.cell? ⟨p, 0, none⟩ = some (.map (some mb)) ∧ w'.cell? ⟨hbk, 0, none⟩ = some (.string hd.1) ∧ w'.cell? ⟨hbk, 1, none⟩ = some (.string hd.2.1))
          [(0, false), (1, false), (2, false), (3, true), (4, false), (5, true), (6, false), (7, true)] [(8, true)] (by kernel_rfl) (fun _ _ _ _ _ h => h) (by kernel_rfl) ⟨c0, e0, e1⟩ ?_
        simp only [pick, List.map_cons, List.map_nil, List.getElem?_toArray, List.getElem?_cons_zero, List.getElem?_cons_succ]
        repeat (refine Heads.cons (v := ?_) ?_ ?_; rotate_left 1; (· (intro w' hw'; (first | (obtain ⟨_, _, _⟩ := hw' rfl; clear hw') | clear hw'); go_simp; (try with_reducible rfl); done)); simp only [Act.put, List.setIfInBounds_toArray, List.set_cons_zero, List.set_cons_succ])
        refine Heads.nil ?_
        refine Rest.cons (fun K hK => ?_)
        go_simp
        refine hK.out _ _ (fun h => by cases h) (Rest.nil ?_)
        clear hK K
        go_wp2_with fail
        go_roundg k
        case measure => omega
        case rel => exact ⟨by omega, by omega, R.out.1, R.out.2⟩
      | false =>
        rw [hbd] at e2
        have R := hid (R2.out hbd)
        clear R1 R2 hput
        go_wp2_with fail
        refine wp_region_parts (fun w' => w'.cell? ⟨p, 0, none⟩ = some (.map (some mb)) ∧ w'.cell? ⟨hbk, 0, none⟩ = some (.string hd.1))
          [(0, false), (1, false), (2, false), (3, true), (4, false), (5, true)] [(6, true)] (by kernel_rfl) (fun _ _ _ _ _ h => h) (by kernel_rfl) ⟨c0, e0⟩ ?_
        simp only [pick, List.map_cons, List.map_nil, List.getElem?_toArray, List.getElem?_cons_zero, List.getElem?_cons_succ]
        repeat (refine Heads.cons (v := ?_) ?_ ?_; rotate_left 1; (· (intro w' hw'; (first | (obtain ⟨_, _⟩ := hw' rfl; clear hw') | clear hw'); go_simp; (try with_reducible rfl); done)); simp only [Act.put, List.setIfInBounds_toArray, List.set_cons_zero, List.set_cons_succ])
        refine Heads.nil ?_
        refine Rest.cons (fun K hK => ?_)
        go_simp
        refine hK.out _ _ (fun h => by cases h) (Rest.nil ?_)
        clear hK K
        go_wp2_with fail
        go_roundg k
        case measure => omega
        case rel => exact ⟨by omega, by omega, R.out.1, R.out.2⟩
    · have t1 : ¬ (M : Int) < (gk : Int) := by omega
      have hgm : gk = min M hs.length := by omega
      have c1 := hP.cell (k := 1) rfl
      obtain ⟨a2, n2, cp2, hvf⟩ : ∃ a n c, hv = .slice a n c := by
        rcases hown.2 with ⟨h, _⟩ | ⟨g, cap, cur, h, _⟩
        · exact ⟨_, _, _, h⟩
        · exact ⟨_, _, _, h⟩
      have hn2 : n2 = gk := by
        rcases hown.2 with ⟨h, h'⟩ | ⟨g, cap, cur, h, _⟩
        · rw [h] at hvf; simp at hvf; omega
        · rw [h] at hvf; simp at hvf; omega
      rw [hvf, hn2] at c1
      rw [hgm] at HB
      have HB2 := HB
      clear hB hbel hP hM hown hvf hn2 HB hgm hlen hmin
      go_wp2_with fail
      go_end0
      exact ⟨rfl, HB2.out.1, HB2.out.2⟩
end Go.Proofs.Qxb6601864a
