import Derived.Test.Qxb6601743aRd
import Derived.Test.Qxb6601743aSl
namespace Go.Proofs.Qxb6601743a
open Go.RowKit

theorem Strs.chg {w w' : World} {a : Option Addr} {xs : List ByteArray} (h : Strs w a xs) (c : Chg [] w w') : Strs w' a xs := fun k s hk => by
  obtain ⟨b, off, ha, hc⟩ := h k s hk
  exact ⟨b, off, ha, c.cell hc⟩

theorem StrV.chg {w w' : World} {v : Value} {xs : List ByteArray} (h : StrV w v xs) (c : Chg [] w w') : StrV w' v xs := by
  obtain ⟨a, n, hv, hs, hn⟩ := h
  exact ⟨a, n, hv, hs.chg c, hn⟩

theorem Nest.chg {w w' : World} {a : Option Addr} {xss : List (Value × List ByteArray)} (h : Nest w a xss) (c : Chg [] w w') : Nest w' a xss := fun k v xs hk => by
  obtain ⟨b, off, ha, hc, hs⟩ := h k v xs hk
  exact ⟨b, off, ha, c.cell hc, hs.chg c⟩

/-- A slice of strings with an element, its address and its cells. -/
theorem StrV.open {w : World} {v : Value} {xs : List ByteArray} (h : StrV w v xs) (hp : 0 < xs.length) : ∃ b off c, v = .slice (some ⟨b, off, none⟩) xs.length c ∧ ∀ k s, xs[k]? = some s → w.cell? ⟨b, off + k, none⟩ = some (.string s) := by
  obtain ⟨a, c, rfl, hs, _⟩ := h
  obtain ⟨b, off, rfl, _⟩ := hs 0 xs[0] (by simp [hp])
  refine ⟨b, off, c, rfl, fun k s hk => ?_⟩
  obtain ⟨b', off', h1, h2⟩ := hs k s hk
  simp at h1
  obtain ⟨rfl, rfl⟩ := h1
  exact h2

theorem ownsRow_strV {w : World} {B : Nat} {v : Value} {n : Nat} {xs : List ByteArray} (h : w.ownsRow B 9 1 v n (xs.map Value.string)) : StrV w v xs := by
  obtain ⟨hl, h⟩ := h
  simp at hl
  rcases h with ⟨rfl, rfl⟩ | ⟨g, cap, cur, rfl, hg, hh, hn, hm, hs, ht⟩
  · have : xs = [] := List.eq_nil_of_length_eq_zero hl
    subst this
    exact ⟨none, 0, rfl, fun k s hk => by simp at hk, fun _ => rfl⟩
  · refine ⟨_, cap, by rw [hl], fun k s hk => ⟨g, 0, rfl, ?_⟩, fun h => by cases h⟩
    have h1 : (xs.map Value.string)[k]? = some (.string s) := by simp [hk]
    rw [← ht, List.getElem?_take] at h1
    split at h1
    · rw [Nat.zero_add]; simp [World.cell?, hh]; simpa using h1
    · cases h1

theorem ownsRow_lo {w : World} {B e : Nat} {v : Value} {n : Nat} {xs : List Value} (h : w.ownsRow B e 1 v n xs) : ∀ ad m c, v = .slice (some ad) m c → B ≤ ad.block := by
  rintro ad m c rfl
  rcases h.2 with ⟨h, _⟩ | ⟨g, cap, cur, hv, hg, _⟩
  · cases h
  · simp at hv
    rw [hv.1]; exact hg

/-- A slice that no changed block touches reads as it did. -/
theorem StrV.chgS {S : List Nat} {w w' : World} {v : Value} {xs : List ByteArray} (h : StrV w v xs) (c : Chg S w w') (hs : ∀ ad m c, v = .slice (some ad) m c → ad.block ∉ S) : StrV w' v xs := by
  obtain ⟨a, n, rfl, hst, hn⟩ := h
  refine ⟨a, n, rfl, fun k s hk => ?_, hn⟩
  obtain ⟨b, off, rfl, hc⟩ := hst k s hk
  exact ⟨b, off, rfl, c.cell hc (show b ∉ S from hs ⟨b, off, none⟩ _ _ rfl)⟩

/-- child 0, parent key 0, child 1, .. : what the first k rounds gather. -/
def interTo (pk : List ByteArray) (cks : List (List ByteArray)) : Nat → List ByteArray
  | 0 => []
  | k + 1 => interTo pk cks k ++ (cks.getD k [] ++ pk[k]?.toList)

theorem interTo_le (pk : List ByteArray) (cks : List (List ByteArray)) (M : Nat) (h : ∀ c ∈ cks, c.length ≤ M) : ∀ k, (interTo pk cks k).length ≤ k * (M + 1)
  | 0 => by simp [interTo]
  | k + 1 => by
    have h1 := interTo_le pk cks M h k
    have h2 : (cks.getD k []).length ≤ M := by
      rw [List.getD_eq_getElem?_getD]
      cases hk : cks[k]? with
      | none => simp
      | some c => simpa using h c (List.mem_of_getElem? hk)
    have h3 : (pk[k]?.toList).length ≤ 1 := by cases pk[k]? <;> simp
    rw [interTo, List.length_append, List.length_append, Nat.add_mul]
    omega

theorem below_chg {w w' : World} (h : Below w.heap.size w w') : Chg [] w w' := Chg.of_below h

theorem strs_oneCell (xs : List ByteArray) : ∀ u ∈ xs.map Value.string, u.oneCell' = true := by
  intro u hu
  obtain ⟨_, _, rfl⟩ := List.mem_map.1 hu
  rfl

theorem Try.info9 : (Try.prog.info? 9).map (fun i => (i.zero, i.size, i.bytes)) = some (some (.string ByteArray.empty), 1, 16) := by kernel_rfl

set_option maxHeartbeats 2000000 in
theorem interleave_any (a ca : Option Addr) (cap ccap : Nat) (xs : List ByteArray) (xss : List (Value × List ByteArray)) (w : World) (hs : Strs w a xs) (hn : Nest w ca xss)
    (hl : xs.length ≤ 1000) (hl2 : xss.length ≤ 1000) (hp : ∀ p ∈ xss, 0 < p.2.length ∧ p.2.length ≤ 1000) :
    Calls Try.prog 33 #[.slice a xs.length cap, .slice ca xss.length ccap] w fun e w' => ∃ v, e = .returned v ∧ StrV w' v (interTo xs (xss.map (·.2)) xss.length) ∧ (∀ ad m c, v = .slice (some ad) m c → w.heap.size ≤ ad.block) ∧ Chg [] w w' := by
  obtain ⟨i0, hi, hz0, hz1, hz2⟩ := info_parts Try.info9
  have hM : ∀ c ∈ xss.map (·.2), c.length ≤ 1000 := fun c hc => by
    obtain ⟨p, hp1, rfl⟩ := List.mem_map.1 hc
    exact (hp p hp1).2
  go_enter Try.func33, Try.ntmps33
  go_wp2
  go_loopw [5, 6] (fun v i wr => ∃ k : Nat, k ≤ xss.length ∧ i = .int .i64 k ∧ wr.ownsRow w.heap.size 9 1 v (interTo xs (xss.map (·.2)) k).length ((interTo xs (xss.map (·.2)) k).map Value.string) ∧ Below w.heap.size w wr) (fun _ i _ => xss.length - (intOf i).toNat)
  case atStart => exact ⟨0, Nat.zero_le _, rfl, World.ownsRow_nil _ _ _ _, Below.refl _ _⟩
  case round =>
    obtain ⟨k, hk, rfl, hown, hnx⟩ := hrel
    by_cases hlt : k < xss.length
    · obtain ⟨v0, ys, hsk⟩ : ∃ v ys, xss[k]? = some (v, ys) := ⟨xss[k].1, xss[k].2, by simp [hlt]⟩
      obtain ⟨b, off, rfl, hc, hv⟩ := hn k v0 ys hsk
      have hpk := hp (v0, ys) (List.mem_of_getElem? hsk)
      simp only at hpk
      obtain ⟨b2, off2, c2, rfl, hcs⟩ := hv.open hpk.1
      have hc' := (hnx.cell (p := ⟨b, off + k, none⟩) (World.block_lt_of_cell? w _ hc)).trans hc
      have hn1 : ∀ j u, (ys.map Value.string)[j]? = some u → wr.cell? ((⟨b2, off2, none⟩ : Addr).add j) = some u := fun j u hj => by
        rw [List.getElem?_map] at hj
        cases hy : ys[j]? with
        | none => rw [hy] at hj; cases hj
        | some s =>
          rw [hy] at hj
          simp at hj
          subst hj
          rw [Addr.add_lit]
          have := hcs j s hy
          exact (hnx.cell (p := ⟨b2, off2 + j, none⟩) (World.block_lt_of_cell? w _ this)).trans this
      have HN : Hid (∀ j u, (ys.map Value.string)[j]? = some u → wr.cell? ((⟨b2, off2, none⟩ : Addr).add j) = some u) := hn1
      have hle := interTo_le xs (xss.map (·.2)) 1000 hM k
      have hle2 : (interTo xs (xss.map (·.2)) k).length ≤ 1001000 := Nat.le_trans hle (by have := Nat.mul_le_mul_right 1001 (show k ≤ 1000 by omega); omega)
      have HG : Hid ((xss.map (·.2)).getD k [] = ys) := by
        show _ = _
        rw [List.getD_eq_getElem?_getD, List.getElem?_map, hsk]; rfl
      have hsz := hnx.size
      have HP : Hid (∀ p ∈ xss, 0 < p.2.length ∧ p.2.length ≤ 1000) := hp
      clear hn1 hsk hcs hc hv hn hp hM
      obtain ⟨IT, hIT⟩ : ∃ IT, IT = interTo xs (xss.map (·.2)) k := ⟨_, rfl⟩
      rw [← hIT] at hown hle2
      have HI : Hid (IT = interTo xs (xss.map (·.2)) k) := hIT
      clear hIT hle
      by_cases hkx : k < xs.length
      · obtain ⟨s, hsk⟩ : ∃ s, xs[k]? = some s := ⟨xs[k], by simp [hkx]⟩
        obtain ⟨b3, off3, rfl, hc3⟩ := hs k s hsk
        have HX : Hid (xs[k]? = some s) := hsk
        have HC : Hid (w.cell? ⟨b3, off3 + k, none⟩ = some (.string s)) := hc3
        clear hs hsk hc3
        go_wp2_with (at_builtin; refine wpList_append_own _ rfl (.tmp 13) (.tmp 17) 22 rfl w.heap.size 9 i0 (.string ByteArray.empty) 1 16 Try.underlying22 hi hz0 hz1 hz2 rfl (by decide) _ _ _ rfl hown ⟨b2, off2, none⟩ ys.length c2 (ys.map Value.string) rfl (by simp) HN.out (strs_oneCell ys) (by unfold maxLen; omega) (by omega) hsz ?_)
        intro v1 w1 hown1 hgrow1 _
        have hnx1 := hnx.grown hgrow1 hsz (fun k' h => (hown.lt k' h).1)
        have hc4 := (hnx1.cell (p := ⟨b3, off3 + k, none⟩) (World.block_lt_of_cell? w _ HC.out)).trans HC.out
        have hsz1 := hnx1.size
        clear hown hgrow1 hc'
        go_wp2_with (at_builtin; refine wpList_append_own _ rfl (.tmp 23) (.tmp 28) 22 rfl w.heap.size 9 i0 (.string ByteArray.empty) 1 16 Try.underlying22 hi hz0 hz1 hz2 rfl (by decide) _ _ _ rfl (hown1.alloc _) ⟨w1.heap.size, 0, none⟩ 1 1 [.string s] rfl rfl (cell_one_new _ _ _) (by simp [Value.oneCell']) (by unfold maxLen; omega) (by omega) (by simp; omega) ?_)
        intro v2 w2 hown2 hgrow2 _
        have hnx2 := (hnx1.alloc hsz1 _).grown hgrow2 (by simp; omega) (fun k' h => (hown1.lt k' h).1)
        have R : w2.ownsRow w.heap.size 9 1 v2 (interTo xs (xss.map (·.2)) (k + 1)).length ((interTo xs (xss.map (·.2)) (k + 1)).map Value.string) := by
          rw [interTo, HG.out, HX.out, ← HI.out]
          simpa [Nat.add_assoc] using hown2
        clear hown2 hgrow2 hown1
        go_wp2
        go_roundw
        case rel => exact ⟨k + 1, by omega, by go_num, R, hnx2⟩
        case measure => simp [intOf]; omega
      · have HX : Hid (xs[k]? = none) := List.getElem?_eq_none (by omega)
        go_wp2_with (at_builtin; refine wpList_append_own _ rfl (.tmp 13) (.tmp 17) 22 rfl w.heap.size 9 i0 (.string ByteArray.empty) 1 16 Try.underlying22 hi hz0 hz1 hz2 rfl (by decide) _ _ _ rfl hown ⟨b2, off2, none⟩ ys.length c2 (ys.map Value.string) rfl (by simp) HN.out (strs_oneCell ys) (by unfold maxLen; omega) (by omega) hsz ?_)
        intro v1 w1 hown1 hgrow1 _
        have hnx1 := hnx.grown hgrow1 hsz (fun k' h => (hown.lt k' h).1)
        have R : w1.ownsRow w.heap.size 9 1 v1 (interTo xs (xss.map (·.2)) (k + 1)).length ((interTo xs (xss.map (·.2)) (k + 1)).map Value.string) := by
          rw [interTo, HG.out, HX.out, ← HI.out]
          simpa using hown1
        clear hown1 hgrow1 hown
        go_wp2
        go_roundw
        case rel => exact ⟨k + 1, by omega, by go_num, R, hnx1⟩
        case measure => simp [intOf]; omega
    · go_wp2
      go_ret
      obtain rfl : k = xss.length := by omega
      exact ⟨_, rfl, ownsRow_strV hown, ownsRow_lo hown, below_chg hnx⟩
end Go.Proofs.Qxb6601743a
