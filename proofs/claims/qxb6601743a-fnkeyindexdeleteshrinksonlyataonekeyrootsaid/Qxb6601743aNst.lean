import Derived.Test.Qxb6601743aClone
namespace Go.Proofs.Qxb6601743a
open Go.RowKit

theorem Try.info22 : (Try.prog.info? 22).map (fun i => (i.zero, i.size, i.bytes)) = some (some (.slice none 0 0), 1, 24) := by kernel_rfl

theorem Blk.type' {w : World} {b e e' : Nat} {xs ys : List Value} (h : Blk w b e xs) (h' : Blk w b e' ys) : e = e' := by
  unfold Blk at h h'; rw [h] at h'; simp at h'; exact h'.2

/-- The clones made so far. -/
def Clones (w : World) (yss : List (List ByteArray)) (zs : List Value) : Prop :=
  ∀ (j : Nat) (v : Value), zs[j]? = some v → ∃ (ys : List ByteArray) (h : Nat), yss[j]? = some ys ∧ v = .slice (some ⟨h, 0, none⟩) ys.length ys.length ∧ Blk w h 9 (ys.map Value.string)

theorem Clones.nest {w : World} {yss : List (List ByteArray)} {zs : List Value} {g : Nat} (h : Clones w yss zs) (hg : Blk w g 22 zs) : Nest w (some ⟨g, 0, none⟩) (zs.zip yss) := by
  intro k v xs hk
  rw [List.getElem?_zip_eq_some] at hk
  obtain ⟨ys, h1, h2, h3, h4⟩ := h k v hk.1
  rw [hk.2] at h2
  obtain rfl : xs = ys := by simpa using h2
  refine ⟨g, 0, rfl, by rw [Nat.zero_add]; exact hg.cell hk.1, _, _, h3, fun j s hj => ⟨h1, 0, rfl, by rw [Nat.zero_add]; exact h4.cell (by simp [hj])⟩, fun h => by cases h⟩

theorem Clones.chg {w w' : World} {yss : List (List ByteArray)} {zs : List Value} (h : Clones w yss zs) (c : Chg [] w w') : Clones w' yss zs := fun j v hj => by
  obtain ⟨ys, h1, h2, h3, h4⟩ := h j v hj
  exact ⟨ys, h1, h2, h3, h4.chg c (by simp)⟩

theorem Clones.snoc {w : World} {yss : List (List ByteArray)} {zs : List Value} {g : Nat} {L : List Value} (h : Clones w yss zs) (hg : Blk w g 22 L) {ys : List ByteArray} {b : Nat} (hy : yss[zs.length]? = some ys) (hb : Blk w b 9 (ys.map Value.string)) (k : Nat) (u : Value) :
    Clones (w.setCell ⟨g, k, none⟩ u) yss (zs ++ [.slice (some ⟨b, 0, none⟩) ys.length ys.length]) := fun j v hj => by
  have far : ∀ {c : Nat} {M : List Value}, Blk w c 9 M → Blk (w.setCell ⟨g, k, none⟩ u) c 9 M := fun hc => hc.setOther (fun e => by
    have e' : _ = g := e
    subst e'; have := hc.type' hg; omega) u
  by_cases hjl : j < zs.length
  · rw [List.getElem?_append_left hjl] at hj
    obtain ⟨ys', h1, h2, h3, h4⟩ := h j v hj
    exact ⟨ys', h1, h2, h3, far h4⟩
  · have hlt := (List.getElem?_eq_some_iff.1 hj).1
    simp at hlt
    obtain rfl : j = zs.length := by omega
    simp at hj
    exact ⟨ys, b, hy, hj.symm, far hb⟩

theorem made_blk2 (w : World) (z : Value) (n : Nat) (e : TypeId) : Blk (w.alloc (.cells (madeCells #[z] n) e)) w.heap.size e (List.replicate n z) := by
  have := made_blk w z n e
  simpa using this

theorem set_snoc (zs : List Value) (n : Nat) (z u : Value) (h : zs.length < n) : (zs ++ List.replicate (n - zs.length) z).set zs.length u = (zs ++ [u]) ++ List.replicate (n - (zs ++ [u]).length) z := by
  rw [List.set_append, if_neg (by omega), Nat.sub_self]
  obtain ⟨m, hm⟩ : ∃ m, n - zs.length = m + 1 := ⟨n - zs.length - 1, by omega⟩
  rw [hm, List.replicate_succ, List.set_cons_zero, List.length_append, List.length_singleton, show n - (zs.length + 1) = m by omega]
  simp

set_option maxHeartbeats 2000000 in
theorem cloneNested_any (ad : Addr) (ccap : Nat) (xss : List (Value × List ByteArray)) (w : World) (hn : Nest w (some ad) xss)
    (hl2 : xss.length ≤ 1000) (hp : ∀ p ∈ xss, 0 < p.2.length ∧ p.2.length ≤ 1000) :
    Calls Try.prog 31 #[.slice (some ad) xss.length ccap] w fun e w' => e = .returned (.slice (some ⟨w.heap.size, 0, none⟩) xss.length xss.length) ∧
      ∃ zs : List Value, zs.length = xss.length ∧ Nest w' (some ⟨w.heap.size, 0, none⟩) (zs.zip (xss.map (·.2))) ∧ Chg [] w w' := by
  have hmk := run_make_row' (P := Try.prog) 41 22 (.slice none 0 0) 24 Try.underlying41 Try.info22 rfl .i64 .i64 xss.length (by omega) (by omega)
  have hne := fun w a n c n2 c2 => Lib.run_eql_slice_nil (P := Try.prog) w 41 22 a n c n2 c2 Try.underlying41
  go_enter Try.func31, Try.ntmps31
  go_wp2
  go_loopw [4] (fun i wr => ∃ zs : List Value, zs.length ≤ xss.length ∧ i = .int .i64 zs.length ∧ Blk wr w.heap.size 22 (zs ++ List.replicate (xss.length - zs.length) (.slice none 0 0)) ∧ Clones wr (xss.map (·.2)) zs ∧ Chg [] w wr) (fun i _ => xss.length - (intOf i).toNat)
  case atStart => exact ⟨[], Nat.zero_le _, rfl, by simpa using made_blk2 _ _ _ _, fun j v hj => by simp at hj, (Chg.refl _ _).alloc _⟩
  case round =>
    obtain ⟨zs, hk, rfl, hb, hcl, hc⟩ := hrel
    by_cases hlt : zs.length < xss.length
    · obtain ⟨v0, ys, hsk⟩ : ∃ v ys, xss[zs.length]? = some (v, ys) := ⟨xss[zs.length].1, xss[zs.length].2, by simp [hlt]⟩
      obtain ⟨b, off, had, hc0, hv⟩ := hn zs.length v0 ys hsk
      obtain rfl : ad = ⟨b, off, none⟩ := by simpa using had
      have hpk := hp (v0, ys) (List.mem_of_getElem? hsk)
      simp only at hpk
      obtain ⟨b2, off2, c2, rfl, hcs⟩ := hv.open hpk.1
      have hc1 := hc.cell hc0
      have HS : Hid (Strs wr (some ⟨b2, off2, none⟩) ys) := fun k s hks => ⟨b2, off2, rfl, hc.cell (hcs k s hks)⟩
      have HY : Hid ((xss.map (·.2))[zs.length]? = some ys) := by show _ = _; rw [List.getElem?_map, hsk]; rfl
      have HB := And.intro hb (And.intro hcl hc)
      have HB' : Hid (Blk wr w.heap.size 22 (zs ++ List.replicate (xss.length - zs.length) (.slice none 0 0)) ∧ Clones wr (xss.map (·.2)) zs ∧ Chg [] w wr) := HB
      have HSS : Hid (∀ n, n = zs.length → zs.length < xss.length → True) := fun _ _ _ => trivial
      clear HB hb hcl hc hsk hv hcs hc0 hp hn had HSS
      go_wp2_with fail
      refine (clone_some ⟨b2, off2, none⟩ ys c2 wr HS.out (by omega)).mono ?_
      rintro e w1 ⟨rfl, hnb, hc2⟩
      obtain ⟨hb, hcl, hc⟩ := HB'.out
      have hb1 := hb.chg hc2 (by simp)
      have hcell2 : w1.cell? ⟨w.heap.size, zs.length, none⟩ = some (.slice none 0 0) := hb1.cell (by rw [List.getElem?_append_right (Nat.le_refl _), Nat.sub_self, List.getElem?_replicate, if_pos (by omega)])
      have hfr := hb1.frozen zs.length
      have hb2 := hb1.set zs.length (.slice (some ⟨wr.heap.size, 0, none⟩) ys.length ys.length)
      rw [set_snoc _ _ _ _ hlt] at hb2
      have R : Hid (Blk (w1.setCell ⟨w.heap.size, zs.length, none⟩ (.slice (some ⟨wr.heap.size, 0, none⟩) ys.length ys.length)) w.heap.size 22 ((zs ++ [.slice (some ⟨wr.heap.size, 0, none⟩) ys.length ys.length]) ++ List.replicate (xss.length - (zs ++ [Value.slice (some ⟨wr.heap.size, 0, none⟩) ys.length ys.length]).length) (.slice none 0 0)) ∧
          Clones (w1.setCell ⟨w.heap.size, zs.length, none⟩ (.slice (some ⟨wr.heap.size, 0, none⟩) ys.length ys.length)) (xss.map (·.2)) (zs ++ [.slice (some ⟨wr.heap.size, 0, none⟩) ys.length ys.length]) ∧
          Chg [] w (w1.setCell ⟨w.heap.size, zs.length, none⟩ (.slice (some ⟨wr.heap.size, 0, none⟩) ys.length ys.length))) :=
        ⟨hb2, (hcl.chg hc2).snoc hb1 HY.out hnb _ _, (hc.trans hc2).setCell (Or.inr (Nat.le_refl _)) _⟩
      clear hb hcl hc hb1 hb2 hnb hc2 hc1
      go_wp2
      go_roundw
      case rel => exact ⟨zs ++ [.slice (some ⟨wr.heap.size, 0, none⟩) ys.length ys.length], by simp; omega, by simp, R.out.1, R.out.2.1, R.out.2.2⟩
      case measure => simp [intOf]; omega
    · have hzl : zs.length = xss.length := by omega
      have HZ : Hid (zs.length = xss.length) := hzl
      clear hzl
      go_wp2
      go_ret
      refine ⟨rfl, zs, HZ.out, hcl.nest ?_, hc⟩
      rw [HZ.out, Nat.sub_self] at hb
      simpa using hb
end Go.Proofs.Qxb6601743a
