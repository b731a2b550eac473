import Derived.Test.Qxb6601743aFg
namespace Go.Proofs.Qxb6601743a
open Go.RowKit

section
variable {w : World} {nd : Nat → Option Nd}

/-- merge, over the graph. -/
theorem merge_gr (G : Gr w nd) {n L i c r : Nat} {ni ci ri : Nd} (hn : nd n = some ni) (hl : ni.lv = L + 1) (hc0 : ni.kids[i]? = some c) (hr0 : ni.kids[i + 1]? = some r) (hci : nd c = some ci) (hri : nd r = some ri)
    (hc31 : ci.ks.length = 31) (hr31 : ri.ks.length = 31) : Calls Try.prog 50 #[ptr n, .int .i64 i] w fun e w' => e = .returned (.tuple #[]) ∧ ∃ O N S, Cut w w' nd O N S ∧ Ch O N n ni L i := by
  have ln := G.loc n ni hn
  have lc := G.loc c ci hci
  have lr := G.loc r ri hri
  obtain ⟨_, e, hcL, hnc⟩ := G.kid hn hl (List.mem_of_getElem? hc0)
  rw [hci] at e; cases e
  obtain ⟨_, e, hrL, hnr⟩ := G.kid hn hl (List.mem_of_getElem? hr0)
  rw [hri] at e; cases e
  have hcr : c ≠ r := fun e => by
    subst e
    have := inj_of (G.kN _ _ hn) hc0 hr0
    omega
  obtain ⟨hdn, hkl, _⟩ := ln.inner L hl
  obtain ⟨cn, hcn, hnc2⟩ := ln.kid.one hdn
  have hik := (List.getElem?_eq_some_iff.1 hr0).1
  obtain ⟨x, hx⟩ : ∃ x, ni.ks[i]? = some x := ⟨ni.ks[i]'(by omega), by simp⟩
  have hnh := ln.hi
  have hrk63 := G.kids64 hri
  have hck63 := G.kids64 hci
  refine (merge_any w n ni.g cn c ci.g r ri.g i ci.d ri.d ni.kv ni.cv ci.kv ci.cv ri.kv ri.cv x (ni.ks.map Value.string) (ni.kids.map ptr) (ci.ks.map Value.string) (ri.ks.map Value.string) (ci.kids.map ptr) (ri.kids.map ptr)
    ln.blk ln.key hnc2 lc.blk lc.key lr.blk lr.key lc.kid lr.kid (by rw [G.d_nil hci, G.d_nil hri, hcL, hrL]) (map_at hc0) (map_at hr0) (str_at hx) hnc hcr (G.ne_g hn hci hnc) (G.ne_g hci hri hcr) (G.ne_d hn hci hnc cn (by rw [hcn]; simp))
    (str_one _) (ptr_one _) (str_one _) (ptr_one _) (by simp; omega) (by simp; omega) (by simp; omega) (by simp; omega) (by simp; omega) (by simp; omega)).mono ?_
  rintro e w' ⟨rfl, h⟩
  exact ⟨rfl, merge_fin G hn hl hc0 hr0 hci hri hc31 hr31 hcn h⟩

/-- fill, over the graph. -/
theorem fill_gr (G : Gr w nd) {n L i c : Nat} {ni ci : Nd} (hn : nd n = some ni) (hl : ni.lv = L + 1) (hc0 : ni.kids[i]? = some c) (hci : nd c = some ci) (hc31 : ci.ks.length = 31) (h1 : 1 ≤ ni.ks.length)
    (hmin : ∀ b j, b ∈ ni.kids → nd b = some j → 31 ≤ j.ks.length) :
    Calls Try.prog 42 #[ptr n, .int .i64 i] w fun e w' => ∃ j : Nat, e = .returned (.int .i64 j) ∧ ∃ O N S, Cut w w' nd O N S ∧ Ch O N n ni L j := by
  have ln := G.loc n ni hn
  have lc := G.loc c ci hci
  obtain ⟨hdn, hkl, _⟩ := ln.inner L hl
  have hnh := ln.hi
  have hik := (List.getElem?_eq_some_iff.1 hc0).1
  obtain ⟨cn, hcn, hnc2⟩ := ln.kid.one hdn
  obtain ⟨_, e, hcL, hnc⟩ := G.kid hn hl (List.mem_of_getElem? hc0)
  rw [hci] at e; cases e
  have hck63 := G.kids64 hci
  have hleft : 0 < i → ∃ l li, ni.kids[i - 1]? = some l ∧ nd l = some li ∧ l ≠ c := fun h0 => by
    obtain ⟨l, hl0⟩ : ∃ l, ni.kids[i - 1]? = some l := ⟨ni.kids[i - 1]'(by omega), by simp⟩
    obtain ⟨li, hli, _, _⟩ := G.kid hn hl (List.mem_of_getElem? hl0)
    refine ⟨l, li, hl0, hli, fun e => ?_⟩
    subst e
    have := inj_of (G.kN _ _ hn) hc0 hl0
    omega
  by_cases hA : 0 < i ∧ ∃ l li, ni.kids[i - 1]? = some l ∧ nd l = some li ∧ 31 < li.ks.length
  · obtain ⟨h0, l, li, hl0, hli, hl31⟩ := hA
    exact fill_gr_left G hn hl hc0 hl0 h0 hci hli hc31 hl31
  have hlow : i = 0 ∨ (0 < i ∧ ∃ l li, ni.kids[i - 1]? = some l ∧ nd l = some li ∧ li.ks.length ≤ 31) := by
    rcases Nat.eq_zero_or_pos i with h0 | h0
    · exact Or.inl h0
    · obtain ⟨l, li, hl0, hli, _⟩ := hleft h0
      refine Or.inr ⟨h0, l, li, hl0, hli, ?_⟩
      rcases Nat.lt_or_ge 31 li.ks.length with h | h
      · exact absurd ⟨h0, l, li, hl0, hli, h⟩ hA
      · exact h
  by_cases hlast : i < ni.ks.length
  · obtain ⟨r, hr0⟩ : ∃ r, ni.kids[i + 1]? = some r := ⟨ni.kids[i + 1]'(by omega), by simp⟩
    obtain ⟨ri, hri, hrL, hnr⟩ := G.kid hn hl (List.mem_of_getElem? hr0)
    have hrmin := hmin r ri (List.mem_of_getElem? hr0) hri
    by_cases hr31 : 31 < ri.ks.length
    · exact fill_gr_right G hn hl hc0 hr0 hci hri hc31 hr31 hlow
    have hr31' : ri.ks.length = 31 := by omega
    have lr := G.loc r ri hri
    have hcr : c ≠ r := fun e => by
      subst e
      have := inj_of (G.kN _ _ hn) hc0 hr0
      omega
    obtain ⟨x, hx⟩ : ∃ x, ni.ks[i]? = some x := ⟨ni.ks[i]'(by omega), by simp⟩
    have hrk63 := G.kids64 hri
    rcases hlow with h0 | ⟨h0, l, li, hl0, hli, hl31⟩
    · refine (fill_merge0 w n ni.g cn c ci.g r ri.g i ci.d ri.d ni.kv ni.cv ci.kv ci.cv ri.kv ri.cv x (ni.ks.map Value.string) (ni.kids.map ptr) (ci.ks.map Value.string) (ri.ks.map Value.string) (ci.kids.map ptr) (ri.kids.map ptr)
        ln.blk ln.key hnc2 lc.blk lc.key lr.blk lr.key lc.kid lr.kid (by rw [G.d_nil hci, G.d_nil hri, hcL, hrL]) (map_at hc0) (map_at hr0) (str_at hx) hnc hcr (G.ne_g hn hci hnc) (G.ne_g hci hri hcr) (G.ne_d hn hci hnc cn (by rw [hcn]; simp))
        (str_one _) (ptr_one _) (str_one _) (ptr_one _) (by simp; omega) (by simp; omega) (by simp; omega) (by simp; omega) (by simp; omega) (by simp; omega) h0 (by simp; omega)).mono ?_
      rintro e w' ⟨rfl, h⟩
      exact ⟨i, rfl, merge_fin G hn hl hc0 hr0 hci hri hc31 hr31' hcn h⟩
    · obtain ⟨lkc, hlv⟩ := (G.loc l li hli).key.form
      have hlb := (G.loc l li hli).blk
      rw [hlv] at hlb
      refine (fill_merge1 w n ni.g cn c ci.g r ri.g i ci.d ri.d ni.kv ni.cv ci.kv ci.cv ri.kv ri.cv x (ni.ks.map Value.string) (ni.kids.map ptr) (ci.ks.map Value.string) (ri.ks.map Value.string) (ci.kids.map ptr) (ri.kids.map ptr)
        ln.blk ln.key hnc2 lc.blk lc.key lr.blk lr.key lc.kid lr.kid (by rw [G.d_nil hci, G.d_nil hri, hcL, hrL]) (map_at hc0) (map_at hr0) (str_at hx) hnc hcr (G.ne_g hn hci hnc) (G.ne_g hci hri hcr) (G.ne_d hn hci hnc cn (by rw [hcn]; simp))
        (str_one _) (ptr_one _) (str_one _) (ptr_one _) (by simp; omega) (by simp; omega) (by simp; omega) (by simp; omega) (by simp; omega) (by simp; omega) h0 l _ _ _ _ hlb (map_at hl0) (by simpa using hl31) (by simp; omega)).mono ?_
      rintro e w' ⟨rfl, h⟩
      exact ⟨i, rfl, merge_fin G hn hl hc0 hr0 hci hri hc31 hr31' hcn h⟩
  · -- the last child: into its left sibling
    have hi : i = ni.ks.length := by omega
    rcases hlow with h0 | ⟨h0, l, li, hl0, hli, hl31⟩
    · omega
    obtain ⟨m, rfl⟩ : ∃ m, i = m + 1 := ⟨i - 1, by omega⟩
    rw [Nat.add_sub_cancel] at hl0
    have ll := G.loc l li hli
    obtain ⟨_, e, hlL, hnl⟩ := G.kid hn hl (List.mem_of_getElem? hl0)
    rw [hli] at e; cases e
    have hlmin := hmin l li (List.mem_of_getElem? hl0) hli
    have hl31' : li.ks.length = 31 := by omega
    have hlc : l ≠ c := fun e => by
      subst e
      have := inj_of (G.kN _ _ hn) hc0 hl0
      omega
    obtain ⟨x, hx⟩ : ∃ x, ni.ks[m]? = some x := ⟨ni.ks[m]'(by omega), by simp⟩
    have hlk63 := G.kids64 hli
    refine (fill_mergeL w n ni.g cn l li.g c ci.g m li.d ci.d ni.kv ni.cv li.kv li.cv ci.kv ci.cv x (ni.ks.map Value.string) (ni.kids.map ptr) (li.ks.map Value.string) (ci.ks.map Value.string) (li.kids.map ptr) (ci.kids.map ptr)
      ln.blk ln.key hnc2 ll.blk ll.key lc.blk lc.key ll.kid lc.kid (by rw [G.d_nil hci, G.d_nil hli, hcL, hlL]) (map_at hl0) (map_at hc0) (str_at hx) hnl hlc (G.ne_g hn hli hnl) (G.ne_g hli hci hlc) (G.ne_d hn hli hnl cn (by rw [hcn]; simp))
      (str_one _) (ptr_one _) (str_one _) (ptr_one _) (by simp; omega) (by simp; omega) (by simp; omega) (by simp; omega) (by simp; omega) (by simp; omega) (m + 1) rfl (by simp; omega) (by simp; omega)).mono ?_
    rintro e w' ⟨rfl, h⟩
    exact ⟨m, rfl, merge_fin G hn hl hl0 hc0 hli hci hl31' hc31 hcn h⟩
end
end Go.Proofs.Qxb6601743a
