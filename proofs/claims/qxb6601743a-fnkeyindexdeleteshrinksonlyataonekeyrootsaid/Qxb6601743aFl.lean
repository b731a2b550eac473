import Derived.Test.Qxb6601743aFg2
import Derived.Deep.LoopGhost
namespace Go.Proofs.Qxb6601743a
open Go.RowKit

def IsStr (e : Ending) : Prop := ∃ s, e = .returned (.string s)

theorem hid' {p : Prop} (h : p) : Hid p := h

/-- A leaf's fields. -/
theorem Gr.leaf_form {w : World} {nd : Nat → Option Nd} (G : Gr w nd) {b : Nat} {i : Nd} (hb : nd b = some i) (hl : i.lv = 0) : ∃ kc, Blk w b 59 [.slice (some ⟨i.g, 0, none⟩) i.ks.length kc, .slice none 0 0] := by
  have lb := G.loc b i hb
  have hk := lb.kid
  rw [(G.d_nil hb).2 hl] at hk
  obtain ⟨kc, hkv⟩ := lb.key.form
  have := lb.blk
  rw [hk.nil_eq, hkv, List.length_map] at this
  exact ⟨kc, this⟩

/-- An inner node's fields. -/
theorem Gr.inner_form {w : World} {nd : Nat → Option Nd} (G : Gr w nd) {b L : Nat} {i : Nd} (hb : nd b = some i) (hl : i.lv = L + 1) :
    ∃ cn kc cc, i.d = [cn] ∧ Blk w b 59 [.slice (some ⟨i.g, 0, none⟩) i.ks.length kc, .slice (some ⟨cn, 0, none⟩) i.kids.length cc] ∧ ∀ k c, i.kids[k]? = some c → w.cell? ⟨cn, k, none⟩ = some (ptr c) := by
  have lb := G.loc b i hb
  obtain ⟨cn, hcn, ho⟩ := lb.kid.one (lb.inner L hl).1
  obtain ⟨kc, hkv⟩ := lb.key.form
  obtain ⟨sp, hcv, hB, _⟩ := ho
  have hb' := lb.blk
  rw [hcv, hkv, List.length_map, List.length_map] at hb'
  refine ⟨cn, kc, _, hcn, hb', fun k c hk => hB.cell ?_⟩
  have := (List.getElem?_eq_some_iff.1 hk).1
  rw [List.getElem?_append_left (by simpa using this)]
  exact map_at hk

theorem Gr.key_cell {w : World} {nd : Nat → Option Nd} (G : Gr w nd) {b k : Nat} {i : Nd} {s : ByteArray} (hb : nd b = some i) (hk : i.ks[k]? = some s) : w.cell? ⟨i.g, k, none⟩ = some (.string s) := by
  obtain ⟨sp, _, hB, _⟩ := (G.loc b i hb).key
  have := (List.getElem?_eq_some_iff.1 hk).1
  exact hB.cell (by rw [List.getElem?_append_left (by simpa using this)]; exact str_at hk)

theorem Gr.chg {w w' : World} {nd : Nat → Option Nd} (G : Gr w nd) (c : Chg [] w w') : Gr w' nd :=
  ⟨fun b i h => ⟨(G.loc b i h).blk.chg c (by simp), (G.loc b i h).key.chg c (by simp), (G.loc b i h).kid.chg c (by simp), (G.loc b i h).hi, (G.loc b i h).leaf, (G.loc b i h).inner⟩, G.gI, G.dI, G.kI, G.kN⟩

set_option maxHeartbeats 1000000 in
theorem first_gr (w : World) (nd : Nat → Option Nd) (G : Gr w nd) (L n : Nat) (ni : Nd) (hn : nd n = some ni) (hl : ni.lv = L) (hmin : ∀ b j, nd b = some j → j.lv ≤ L → 1 ≤ j.ks.length) :
    Calls Try.prog 49 #[ptr n] w fun e w' => IsStr e ∧ w' = w := by
  have HM := hid' hmin
  have H0 : Hid (nd n = some ni ∧ ni.lv = L) := ⟨hn, hl⟩
  have HG := hid' G
  clear hmin hn hl G
  go_enter Try.func49, Try.ntmps49
  go_wp2
  go_loopg [0] L (fun k p wr => ∃ b i, p = ptr b ∧ nd b = some i ∧ i.lv = k ∧ k ≤ L ∧ wr = w)
  case atStart => exact ⟨n, ni, rfl, H0.out.1, H0.out.2, Nat.le_refl _, rfl⟩
  case round =>
    obtain ⟨b, i, rfl, hb, hlv, hkL, rfl⟩ := hrel
    cases gk with
    | zero =>
      obtain ⟨kc, hB⟩ := HG.out.leaf_form hb hlv
      have h1 := HM.out b i hb (by omega)
      obtain ⟨s, hs⟩ : ∃ s, i.ks[0]? = some s := ⟨i.ks[0], by simp⟩
      have c1 := hB.cell (k := 0) rfl
      have c2 := HG.out.key_cell hb hs
      have t1 : (0 : Int) < (i.ks.length : Int) := by omega
      clear hs hlv hb
      go_wp2_with fail
      refine (leaf_any _ _ _ _ _ _ hB).mono ?_
      rintro e w1 ⟨rfl, rfl⟩
      clear hB
      go_wp2_with fail
      go_ret
      exact ⟨⟨s, rfl⟩, rfl⟩
    | succ k =>
      obtain ⟨cn, kc, cc, hcn, hB, hcell⟩ := HG.out.inner_form hb hlv
      have hlen := HG.out.kids_len hb (by omega)
      obtain ⟨c, hc⟩ : ∃ c, i.kids[0]? = some c := ⟨i.kids[0], by simp [hlen]⟩
      obtain ⟨ci, hci, hcl, _⟩ := HG.out.kid hb hlv (List.mem_of_getElem? hc)
      have c1 := hB.cell (k := 1) rfl
      have c2 := hcell 0 c hc
      have t1 : (0 : Int) < (i.kids.length : Int) := by omega
      have HC : Hid (nd c = some ci ∧ ci.lv = k) := ⟨hci, hcl⟩
      clear hc hci hcl hcell hlv hb hlen hcn
      go_wp2_with fail
      refine (leaf_any _ _ _ _ _ _ hB).mono ?_
      rintro e w1 ⟨rfl, rfl⟩
      clear hB
      go_wp2_with fail
      go_roundg k
      case measure => omega
      case rel => exact ⟨c, ci, rfl, HC.out.1, HC.out.2, by omega, rfl⟩

set_option maxHeartbeats 1000000 in
theorem last_gr (w : World) (nd : Nat → Option Nd) (G : Gr w nd) (L n : Nat) (ni : Nd) (hn : nd n = some ni) (hl : ni.lv = L) (hmin : ∀ b j, nd b = some j → j.lv ≤ L → 1 ≤ j.ks.length) :
    Calls Try.prog 48 #[ptr n] w fun e w' => IsStr e ∧ Chg [] w w' := by
  have HM := hid' hmin
  have H0 : Hid (nd n = some ni ∧ ni.lv = L) := ⟨hn, hl⟩
  have HG := hid' G
  clear hmin hn hl G
  go_enter Try.func48, Try.ntmps48
  go_wp2
  go_loopg [0] L (fun k p wr => ∃ b i, p = ptr b ∧ nd b = some i ∧ i.lv = k ∧ k ≤ L ∧ Chg [] w wr)
  case atStart => exact ⟨n, ni, rfl, H0.out.1, H0.out.2, Nat.le_refl _, Chg.refl _ _⟩
  case round =>
    obtain ⟨b, i, rfl, hb, hlv, hkL, hcw⟩ := hrel
    have HC0 := hid' hcw
    clear hcw
    cases gk with
    | zero =>
      obtain ⟨kc, hB⟩ := (HG.out.chg HC0.out).leaf_form hb hlv
      have h1 := HM.out b i hb (by omega)
      obtain ⟨s, hs⟩ : ∃ s, i.ks[i.ks.length - 1]? = some s := ⟨i.ks[i.ks.length - 1]'(by omega), by simp⟩
      have c1 := hB.cell (k := 0) rfl
      have c2 := (HG.out.chg HC0.out).key_cell hb hs
      have hh := (HG.out.loc b i hb).hi
      have t1 : (0 : Int) ≤ (i.ks.length : Int) - 1 := by omega
      have t2 : (i.ks.length : Int) - 1 < (i.ks.length : Int) := by omega
      have t3 : IntKind.i64.wrap ((i.ks.length : Int) - 1) = (i.ks.length : Int) - 1 := by rw [IntKind.wrap_i64]; omega
      have t4 : ((i.ks.length : Int) - 1).toNat = i.ks.length - 1 := by omega
      have t5 : (1 : Int) ≤ (i.ks.length : Int) := by omega
      clear hs hlv hb
      go_wp2_with fail
      refine (leaf_any _ _ _ _ _ _ hB).mono ?_
      rintro e w1 ⟨rfl, rfl⟩
      clear hB
      go_wp2_with fail
      refine wp_region_parts (fun w' => w'.cell? ⟨b, 0, none⟩ = some (.slice (some ⟨i.g, 0, none⟩) i.ks.length kc) ∧ w'.cell? ⟨i.g, i.ks.length - 1, none⟩ = some (.string s))
        [(0, false), (1, false), (2, false), (3, true), (4, false), (5, false), (6, false), (7, true), (8, false), (9, false), (10, false), (11, true)] [(12, true)] (by kernel_rfl) (fun _ _ _ _ _ h => h) (by kernel_rfl) ⟨c1, c2⟩ ?_
      simp only [pick, List.map_cons, List.map_nil, List.getElem?_toArray, List.getElem?_cons_zero, List.getElem?_cons_succ]
      repeat (refine Heads.cons (v := ?_) ?_ ?_; rotate_left 1; (· (intro w' hw'; (first | (obtain ⟨_, _⟩ := hw' rfl; clear hw') | clear hw'); go_simp; (try with_reducible rfl); done)); simp only [Act.put, List.setIfInBounds_toArray, List.set_cons_zero, List.set_cons_succ])
      refine Heads.nil ?_
      refine Rest.cons (fun K hK => ?_)
      go_simp
      refine hK.out _ _ (fun h => by cases h) (Rest.nil ?_)
      clear hK K

      go_wp2_with fail
      go_ret
      exact ⟨⟨s, rfl⟩, HC0.out.drew⟩
    | succ k =>
      obtain ⟨cn, kc, cc, hcn, hB, hcell⟩ := (HG.out.chg HC0.out).inner_form hb hlv
      have hlen := HG.out.kids_len hb (by omega)
      have hh := (HG.out.loc b i hb).hi
      obtain ⟨c, hc⟩ : ∃ c, i.kids[i.kids.length - 1]? = some c := ⟨i.kids[i.kids.length - 1]'(by omega), by simp⟩
      obtain ⟨ci, hci, hcl, _⟩ := HG.out.kid hb hlv (List.mem_of_getElem? hc)
      have c1 := hB.cell (k := 1) rfl
      have c2 := hcell _ c hc
      have t1 : (0 : Int) ≤ (i.kids.length : Int) - 1 := by omega
      have t2 : (i.kids.length : Int) - 1 < (i.kids.length : Int) := by omega
      have t3 : IntKind.i64.wrap ((i.kids.length : Int) - 1) = (i.kids.length : Int) - 1 := by rw [IntKind.wrap_i64]; omega
      have t4 : ((i.kids.length : Int) - 1).toNat = i.kids.length - 1 := by omega
      have t5 : (1 : Int) ≤ (i.kids.length : Int) := by omega
      have HC : Hid (nd c = some ci ∧ ci.lv = k) := ⟨hci, hcl⟩
      clear hc hci hcl hcell hlv hb hlen hcn
      go_wp2_with fail
      refine (leaf_any _ _ _ _ _ _ hB).mono ?_
      rintro e w1 ⟨rfl, rfl⟩
      clear hB
      go_wp2_with fail
      refine wp_region_parts (fun w' => w'.cell? ⟨b, 1, none⟩ = some (.slice (some ⟨cn, 0, none⟩) i.kids.length cc) ∧ w'.cell? ⟨cn, i.kids.length - 1, none⟩ = some (ptr c))
        [(0, false), (1, false), (2, false), (3, true), (4, false), (5, false), (6, false), (7, true), (8, false), (9, false), (10, false), (11, true)] [(12, true)] (by kernel_rfl) (fun _ _ _ _ _ h => h) (by kernel_rfl) ⟨c1, c2⟩ ?_
      simp only [pick, List.map_cons, List.map_nil, List.getElem?_toArray, List.getElem?_cons_zero, List.getElem?_cons_succ]
      repeat (refine Heads.cons (v := ?_) ?_ ?_; rotate_left 1; (· (intro w' hw'; (first | (obtain ⟨_, _⟩ := hw' rfl; clear hw') | clear hw'); go_simp; (try with_reducible rfl); done)); simp only [Act.put, List.setIfInBounds_toArray, List.set_cons_zero, List.set_cons_succ])
      refine Heads.nil ?_
      refine Rest.cons (fun K hK => ?_)
      go_simp
      refine hK.out _ _ (fun h => by cases h) (Rest.nil ?_)
      clear hK K

      go_wp2_with fail
      go_roundg k
      case measure => omega
      case rel => exact ⟨c, ci, rfl, HC.out.1, HC.out.2, by omega, HC0.out.drew⟩
end Go.Proofs.Qxb6601743a
