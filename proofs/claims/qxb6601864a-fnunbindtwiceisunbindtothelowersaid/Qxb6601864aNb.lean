import Derived.Test.Qxb6601864aBn
namespace Go.Proofs.Qxb6601864a
open Go.RowKit

def putAll (ps : List Pr) : Mp := ps.foldl (fun m p => put m p.1 p.2) ([], 0)

theorem Bnd.below {B : Nat} {w w' : World} {p mb : Nat} {hs : List Hd} {m : Mp} (h : Bnd B w p mb hs m) {C : Nat} (hb : Below C w w') (hC : w.heap.size ≤ C) : Bnd B w' p mb hs m := by
  obtain ⟨hv, hP, hM, hown, h1, h2, h3⟩ := h
  have hk : ∀ k, k < w.heap.size → w'.heap[k]? = w.heap[k]? := fun k hk => hb.block k (by omega)
  refine ⟨hv, (hk p hP.lt).trans hP, (hk mb hM.lt).trans hM, ⟨hown.1, ?_⟩, h1, h2, Nat.le_trans h3 hb.size⟩
  rcases hown.2 with h | ⟨g, cap, cur, rfl, q1, q2, q3⟩
  · exact Or.inl h
  · exact Or.inr ⟨g, cap, cur, rfl, q1, (hk g (Array.getElem?_eq_some_iff.1 q2).1).trans q2, q3⟩

/-- A store into the map. -/
theorem Bnd.setMap {B : Nat} {w : World} {p mb : Nat} {hs : List Hd} {m : Mp} (h : Bnd B w p mb hs m) (m' : Mp) : Bnd B (setMap w mb m') p mb hs m' := by
  obtain ⟨hv, hP, hM, hown, h1, h2, h3⟩ := h
  have hk : ∀ k, k ≠ mb → (Qxb6601864a.setMap w mb m').heap[k]? = w.heap[k]? := fun k hk => by
    simp [Qxb6601864a.setMap, hk.symm]
  refine ⟨hv, (hk p (map_ne_blk hM hP).symm).trans hP, hM.set m', ⟨hown.1, ?_⟩, h1, h2, by simpa [Qxb6601864a.setMap] using h3⟩
  have hne := row_ne_map hown hM
  rcases hown.2 with h | ⟨g, cap, cur, rfl, q1, q2, q3⟩
  · exact Or.inl h
  · exact Or.inr ⟨g, cap, cur, rfl, q1, (hk g (fun e => hne (by simp [Value.ownBlock, e]))).trans q2, q3⟩

theorem below_setMap {B : Nat} {a w : World} (h : Below B a w) {b : Nat} (hb : B ≤ b) (m : Mp) : Below B a (setMap w b m) :=
  h.trans ⟨rfl, rfl, rfl, by simp [setMap], fun k hk => by simp [setMap, show b ≠ k by omega]⟩

theorem Bnd.drew {B : Nat} {w : World} {p mb : Nat} {hs : List Hd} {m : Mp} (h : Bnd B w p mb hs m) : Bnd B w.drew p mb hs m := h

theorem Bnd.bound {B : Nat} {w : World} {p mb : Nat} {hs : List Hd} {m : Mp} (h : Bnd B w p mb hs m) : w.cell? ⟨p, 0, none⟩ = some (.map (some mb)) := by
  obtain ⟨hv, hP, _⟩ := h; exact hP.cell (k := 0) rfl
theorem Bnd.map {B : Nat} {w : World} {p mb : Nat} {hs : List Hd} {m : Mp} (h : Bnd B w p mb hs m) : MapAt w mb m := by
  obtain ⟨hv, _, hM, _⟩ := h; exact hM

theorem Pairs.below {w w' : World} {a : Option Addr} {ps : List Pr} (h : Pairs w a ps) (c : Below w.heap.size w w') : Pairs w' a ps := fun k p hk => by
  obtain ⟨b, off, e, h1, h2⟩ := h k p hk
  exact ⟨b, off, e, (Chg.of_below c).cell h1, (Chg.of_below c).cell h2⟩
theorem Hids.below {w w' : World} {a : Option Addr} {hs : List Hd} (h : Hids w a hs) (c : Below w.heap.size w w') : Hids w' a hs := fun k p hk => by
  obtain ⟨b, off, e, h1, h2, h3⟩ := h k p hk
  exact ⟨b, off, e, (Chg.of_below c).cell h1, (Chg.of_below c).cell h2, (Chg.of_below c).cell h3⟩

set_option maxHeartbeats 1000000 in
theorem new_any (w : World) : Calls Try.prog 30 #[] w fun e w' => e = .returned (ptr (w.heap.size + 1)) ∧ Bnd w.heap.size w' (w.heap.size + 1) w.heap.size [] ([], 0) ∧ Below w.heap.size w w' := by
  have hmk := run_makeMap (P := Try.prog) 37
  go_enter Try.func30, Try.ntmps30
  go_wp2
  go_ret
  have hs1 : (w.alloc (.map #[] 0)).heap.size = w.heap.size + 1 := by simp
  have hN := Blk.new (w.alloc (.map #[] 0)) [.map (some w.heap.size), .slice none 0 0] 55
  rw [hs1] at hN
  refine ⟨rfl, ⟨_, hN, ?_, World.ownsRow_nil _ _ _ _, by omega, Nat.le_refl _, by simp; omega⟩, (((Chg.refl [] w).alloc _).alloc _).below⟩
  show _ = _
  rw [Below.heap_alloc _ _ _ (by simp)]
  show (w.heap.push _)[w.heap.size]? = _
  simp [ents]

set_option maxHeartbeats 4000000 in
theorem newOf_any (a ha : Option Addr) (cap hcap : Nat) (ps : List Pr) (hs : List Hd) (w : World) (hp : Pairs w a ps) (hh : Hids w ha hs) (hl : ps.length ≤ 4096) (hl2 : hs.length ≤ 4096) :
    Calls Try.prog 16 #[.slice a ps.length cap, .slice ha hs.length hcap] w fun e w' => e = .returned (ptr (w.heap.size + 1)) ∧ Bnd w.heap.size w' (w.heap.size + 1) w.heap.size hs (putAll ps) ∧ Below w.heap.size w w' := by
  have HP := hid hp
  have HH := hid hh
  clear hp hh
  go_enter Try.func16, Try.ntmps16
  go_wp2_with fail
  refine (new_any w).mono ?_
  rintro e w1 ⟨rfl, hB, hbel⟩
  have c0 := hB.bound
  have HB : Hid (Bnd w.heap.size w1 (w.heap.size + 1) w.heap.size [] ([], 0) ∧ Below w.heap.size w w1) := ⟨hB, hbel⟩
  clear hB hbel
  go_wp2_with (go_at_call 20; go_in)
  clear c0
  go_loopg [7] ps.length (fun g q wr => ∃ k : Nat, k + g = ps.length ∧ q = .int .i64 k ∧ Bnd w.heap.size wr (w.heap.size + 1) w.heap.size [] (putAll (ps.take k)) ∧ Below w.heap.size w wr)
  case atStart => exact ⟨0, by omega, rfl, HB.out.1, HB.out.2⟩
  case round =>
    clear HB
    obtain ⟨k, hk, rfl, hB, hbel⟩ := hrel
    have HB : Hid (Bnd w.heap.size wr (w.heap.size + 1) w.heap.size [] (putAll (ps.take k)) ∧ Below w.heap.size w wr ∧ k + gk = ps.length) := ⟨hB, hbel, hk⟩
    by_cases hlt : k < ps.length
    · obtain ⟨p, hp⟩ : ∃ p, ps[k]? = some p := ⟨ps[k], by simp [hlt]⟩
      obtain ⟨b, off, rfl, h1, h2⟩ := HP.out.below hbel k p hp
      have hput := run_put (P := Try.prog) Try.underlying37 Try.underlying9 hB.drew.map p.1 p.2
      have hnext : putAll (ps.take (k + 1)) = put (putAll (ps.take k)) p.1 p.2 := by
        have := (List.getElem?_eq_some_iff.1 hp).2
        rw [List.take_succ_eq_append_getElem hlt, putAll, List.foldl_append, this]
        rfl
      have R : Hid (Bnd w.heap.size (setMap wr.drew w.heap.size (put (putAll (ps.take k)) p.1 p.2)) (w.heap.size + 1) w.heap.size [] (putAll (ps.take (k + 1))) ∧ Below w.heap.size w (setMap wr.drew w.heap.size (put (putAll (ps.take k)) p.1 p.2))) := by
        rw [hnext]
        exact ⟨hB.drew.setMap _, below_setMap hbel.drew (Nat.le_refl _) _⟩
      have t1 : (k : Int) < (ps.length : Int) := by omega
      clear hp hB hbel hnext hk
      go_wp2_with fail
      refine wp_region_parts (fun w' => w'.cell? ⟨b, off + k * 2, none⟩ = some (.string p.1) ∧ w'.cell? ⟨b, off + k * 2 + 1, none⟩ = some (.string p.2))
        [(0, false), (1, false), (2, false), (3, false), (4, false), (5, true), (6, false), (7, false), (8, false), (9, false), (10, true)] [(11, true)] (by kernel_rfl) (fun _ _ _ _ _ h => h) (by kernel_rfl) ⟨h1, h2⟩ ?_
      simp only [pick, List.map_cons, List.map_nil, List.getElem?_toArray, List.getElem?_cons_zero, List.getElem?_cons_succ]
      repeat (refine Heads.cons (v := ?_) ?_ ?_; rotate_left 1; (· (intro w' hw'; (first | (obtain ⟨_, _⟩ := hw' rfl; clear hw') | clear hw'); go_simp; (try with_reducible rfl); done)); simp only [Act.put, List.setIfInBounds_toArray, List.set_cons_zero, List.set_cons_succ])
      refine Heads.nil ?_
      refine Rest.cons (fun K hK => ?_)
      go_simp
      refine hK.out _ _ (fun h => by cases h) (Rest.nil ?_)
      clear hK K
      go_wp2_with fail
      go_roundg (gk - 1)
      case measure => have := HB.out.2.2; omega
      case rel => exact ⟨k + 1, by have := HB.out.2.2; omega, by simp, R.out.1, R.out.2⟩
    · have t1 : ¬ (k : Int) < (ps.length : Int) := by omega
      obtain rfl : k = ps.length := by omega
      rw [List.take_length] at hB
      have HB2 : Hid (Bnd w.heap.size wr (w.heap.size + 1) w.heap.size [] (putAll ps) ∧ Below w.heap.size w wr) := ⟨hB, hbel⟩
      clear hB hbel HB hk
      go_wp2_with fail
      go_loopg [8] hs.length (fun g q wr => ∃ k : Nat, k + g = hs.length ∧ q = .int .i64 k ∧ Bnd w.heap.size wr (w.heap.size + 1) w.heap.size (hs.take k) (putAll ps) ∧ Below w.heap.size w wr)
      case atStart => exact ⟨0, by omega, rfl, HB2.out.1, HB2.out.2⟩
      case round =>
        clear HB2
        obtain ⟨k, hk, rfl, hB, hbel⟩ := hrel
        have HB : Hid (Bnd w.heap.size wr (w.heap.size + 1) w.heap.size (hs.take k) (putAll ps) ∧ Below w.heap.size w wr ∧ k + gk = hs.length) := ⟨hB, hbel, hk⟩
        by_cases hlt2 : k < hs.length
        · obtain ⟨h, hp⟩ : ∃ p, hs[k]? = some p := ⟨hs[k], by simp [hlt2]⟩
          obtain ⟨b, off, rfl, h1, h2, h3⟩ := HH.out.below hbel k h hp
          have hnext : hs.take (k + 1) = hs.take k ++ [h] := by
            have := (List.getElem?_eq_some_iff.1 hp).2
            rw [List.take_succ_eq_append_getElem hlt2, this]
          have HX := hid hnext
          have t2 : (k : Int) < (hs.length : Int) := by omega
          clear hp hB hbel hnext hk
          go_wp2_with fail
          refine wp_region_parts (fun w' => w'.cell? ⟨b, off + k * 3, none⟩ = some (.string h.1) ∧ w'.cell? ⟨b, off + k * 3 + 1, none⟩ = some (.string h.2.1) ∧ w'.cell? ⟨b, off + k * 3 + 2, none⟩ = some (.bool h.2.2))
            [(0, false), (1, false), (2, false), (3, false), (4, false), (5, true), (6, false), (7, false), (8, false), (9, false), (10, true), (11, false), (12, false), (13, false), (14, false), (15, true)] [(16, true)] (by kernel_rfl) (fun _ _ _ _ _ h => h) (by kernel_rfl) ⟨h1, h2, h3⟩ ?_
          simp only [pick, List.map_cons, List.map_nil, List.getElem?_toArray, List.getElem?_cons_zero, List.getElem?_cons_succ]
          repeat (refine Heads.cons (v := ?_) ?_ ?_; rotate_left 1; (· (intro w' hw'; (first | (obtain ⟨_, _, _⟩ := hw' rfl; clear hw') | clear hw'); go_simp; (try with_reducible rfl); done)); simp only [Act.put, List.setIfInBounds_toArray, List.set_cons_zero, List.set_cons_succ])
          refine Heads.nil ?_
          refine Rest.cons (fun K hK => ?_)
          go_simp
          refine (push_any w.heap.size (w.heap.size + 1) w.heap.size (hs.take k) (putAll ps) h wr.drew HB.out.1.drew (by simp; omega)).mono ?_
          rintro e w2 ⟨rfl, hB2, hbel2⟩
          have R : Hid (Bnd w.heap.size w2 (w.heap.size + 1) w.heap.size (hs.take (k + 1)) (putAll ps) ∧ Below w.heap.size w w2) := by
            rw [HX.out]
            exact ⟨hB2, HB.out.2.1.drew.trans hbel2⟩
          clear hB2 hbel2
          refine hK.out _ _ (fun h => by cases h) (Rest.nil ?_)
          clear hK K
          go_wp2_with fail
          go_roundg (gk - 1)
          case measure => have := HB.out.2.2; omega
          case rel => exact ⟨k + 1, by have := HB.out.2.2; omega, by simp, R.out.1, R.out.2⟩
        · have t2 : ¬ (k : Int) < (hs.length : Int) := by omega
          obtain rfl : k = hs.length := by omega
          rw [List.take_length] at hB
          have HB2 : Hid (Bnd w.heap.size wr (w.heap.size + 1) w.heap.size hs (putAll ps) ∧ Below w.heap.size w wr) := ⟨hB, hbel⟩
          clear hB hbel HB hk
          go_wp2_with fail
          go_ret
          exact ⟨rfl, HB2.out.1, HB2.out.2⟩
end Go.Proofs.Qxb6601864a
