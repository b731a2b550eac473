import Derived.Test.Qxb6601743aTre
namespace Go.Proofs.Qxb6601743a
open Go.RowKit

/-- The key index at bx: of height h, r keys in its root. -/
def Ix (B : Nat) (w : World) (bx h r : Nat) : Prop :=
  B ≤ bx ∧ B ≤ w.heap.size ∧ ((h = 0 ∧ r = 0 ∧ Blk w bx 55 [.pointer none]) ∨ ∃ nd root ri H, h = H + 1 ∧ Blk w bx 55 [ptr root] ∧ Tr B w nd root H ∧ nd root = some ri ∧ ri.ks.length = r ∧ 1 ≤ r)

/-- What delete leaves. -/
def Shrunk (B : Nat) (w w' : World) (bx h r : Nat) : Prop := ∃ h' r', Ix B w' bx h' r' ∧ (h' = h ∨ (h = h' + 1 ∧ r = 1)) ∧ Below B w w'

theorem eql_ptr (w : World) (b : Nat) : (binOp .eql 34 (.pointer (some ⟨b, 0, none⟩)) (.pointer none)).run Try.prog w = .ok (.bool false) w := by kernel_rfl
theorem eql_nil (w : World) : (binOp .eql 34 (.pointer none) (.pointer none)).run Try.prog w = .ok (.bool true) w := by kernel_rfl

theorem Gr.form {w : World} {nd : Nat → Option Nd} (G : Gr w nd) {b : Nat} {i : Nd} (hb : nd b = some i) : ∃ kc cv, Blk w b 59 [.slice (some ⟨i.g, 0, none⟩) i.ks.length kc, cv] := by
  have lb := G.loc b i hb
  obtain ⟨kc, hkv⟩ := lb.key.form
  have := lb.blk
  rw [hkv, List.length_map] at this
  exact ⟨kc, _, this⟩

set_option maxHeartbeats 4000000 in
set_option maxRecDepth 100000 in
theorem delete_none (B bx : Nat) (key : ByteArray) (w : World) (hx : Blk w bx 55 [.pointer none]) (h1 : B ≤ bx) (h2 : B ≤ w.heap.size) :
    Calls Try.prog 41 #[ptr bx, .string key] w fun e w' => e = .returned (.tuple #[]) ∧ Shrunk B w w' bx 0 0 := by
  have c1 := hx.cell (k := 0) rfl
  have hq := eql_nil
  have HX := hid' hx
  clear hx
  go_enter Try.func41, Try.ntmps41
  go_wp2
  refine bodyPost_ret (results_none rfl _ _ _) rfl ?_
  exact ⟨rfl, 0, 0, ⟨h1, h2, Or.inl ⟨rfl, rfl, HX.out⟩⟩, Or.inl rfl, Below.refl _ _⟩

set_option maxHeartbeats 4000000 in
set_option maxRecDepth 100000 in
theorem delete_some (B bx root H r : Nat) (nd0 : Nat → Option Nd) (r0 : Nd) (key : ByteArray) (w : World) (hx : Blk w bx 55 [ptr root]) (T0 : Tr B w nd0 root H) (hr0 : nd0 root = some r0) (hrl : r0.ks.length = r) (hr1 : 1 ≤ r) (h1 : B ≤ bx) :
    Calls Try.prog 41 #[ptr bx, .string key] w fun e w' => e = .returned (.tuple #[]) ∧ Shrunk B w w' bx (H + 1) r := by
  have c1 := hx.cell (k := 0) rfl
  have hq := eql_ptr
  have HX := hid' hx
  have HT0 : Hid (Tr B w nd0 root H ∧ nd0 root = some r0 ∧ r0.ks.length = r) := ⟨T0, hr0, hrl⟩
  clear hx T0 hr0 hrl
  go_enter Try.func41, Try.ntmps41
  go_wp2
  clear c1 hq
  go_loopg [1, 4] H (fun k t1 t4 wr => ∃ key nd n ni ri, t1 = .string key ∧ t4 = ptr n ∧ Tr B wr nd root H ∧ nd n = some ni ∧ ni.lv = k ∧ nd root = some ri ∧ r ≤ ri.ks.length + 1 ∧ (n = root → r ≤ ri.ks.length) ∧ (n ≠ root → 32 ≤ ni.ks.length) ∧ Kept B w wr)
  case atStart =>
    obtain ⟨T0, hr0, hrl⟩ := HT0.out
    obtain ⟨j, hj, hjl⟩ := T0.rt
    rw [hr0] at hj; cases hj
    exact ⟨key, nd0, root, r0, r0, rfl, rfl, T0, hr0, hjl, hr0, by omega, fun _ => by omega, fun h => absurd rfl h, Kept.refl _ _⟩
  case round =>
    obtain ⟨key, nd, n, ni, ri, rfl, rfl, T, hn, hlv, hri, hr, hnr, h32, hkept⟩ := hrel
    clear HT0
    have HT := hid' T
    have HI : Hid (nd n = some ni ∧ ni.lv = gk ∧ nd root = some ri ∧ r ≤ ri.ks.length + 1 ∧ (n = root → r ≤ ri.ks.length) ∧ (n ≠ root → 32 ≤ ni.ks.length) ∧ Kept B w wr) := ⟨hn, hlv, hri, hr, hnr, h32, hkept⟩
    have hXr := hkept.idx bx _ HX.out
    have hh := (T.gr.loc n ni hn).hi
    have HXr := hid' hXr
    cases gk with
    | zero =>
      obtain ⟨kc, hB⟩ := T.gr.leaf_form hn hlv
      have hown := (T.gr.loc n ni hn).key
      obtain ⟨kc', hkv⟩ := hown.form
      rw [List.length_map] at hkv
      have hkc : kc' = kc := by
        have := (T.gr.loc n ni hn).blk.cell (k := 0) rfl
        rw [hB.cell (k := 0) rfl, hkv] at this
        simpa using this.symm
      rw [hkv, hkc] at hown
      have HO := hid' hown
      have HBn := hid' hB
      have d1 := hB.cell (k := 0) rfl
      clear hn hlv hri hnr h32 hkept hXr hown hkv hkc T
      go_wp2_with fail
      refine (search_any _ _ _ _ _ HO.out (by omega)).mono ?_
      rintro e w1 ⟨⟨i, f, rfl, hi, hf⟩, rfl⟩
      clear d1
      go_wp2_with fail
      refine (leaf_any _ _ _ _ _ _ HBn.out).mono ?_
      rintro e w1 ⟨rfl, rfl⟩
      cases f
      · have HTT : Hid (Tr B w1 nd root H ∧ nd root = some ri ∧ r ≤ ri.ks.length + 1 ∧ Kept B w w1) := ⟨HT.out, HI.out.2.2.1, HI.out.2.2.2.1, HI.out.2.2.2.2.2.2⟩
        clear HT HI HO HBn
        obtain ⟨Tz, hrz, hrle, hkz⟩ := HTT.out
        have hXz := hkz.idx bx _ HX.out
        have e1 := hXz.cell (k := 0) rfl
        obtain ⟨jz, hjz, hjl⟩ := Tz.rt
        rw [hrz] at hjz
        cases hjz
        by_cases hm : 0 < ri.ks.length
        · obtain ⟨kz, cz, hBz⟩ := Tz.gr.form hrz
          have e2 := hBz.cell (k := 0) rfl
          have e3 : (0 : Int) < (ri.ks.length : Int) := by omega
          have R : Hid (Shrunk B w w1 bx (H + 1) r) := ⟨H + 1, ri.ks.length, ⟨h1, Tz.sz, Or.inr ⟨nd, root, ri, H, rfl, hXz, Tz, hrz, rfl, hm⟩⟩, Or.inl rfl, hkz.bel⟩
          clear Tz hrz hrle hkz hXz hBz hjl HTT
          go_wp2_with fail
          go_end0
          exact ⟨rfl, R.out⟩
        · have e3 : ¬ (0 : Int) < (ri.ks.length : Int) := by omega
          have f0 := hXz.frozen 0
          rcases Nat.eq_zero_or_pos H with hH | hH
          · obtain ⟨kz, hBz⟩ := Tz.gr.leaf_form hrz (by omega)
            have e2 := hBz.cell (k := 0) rfl
            have HBz := hid' hBz
            have R : Hid (Shrunk B w (w1.setCell ⟨bx, 0, none⟩ (.pointer none)) bx (H + 1) r) := ⟨0, 0, ⟨h1, by have := Tz.sz; simpa [World.setCell] using this, Or.inl ⟨rfl, rfl, hXz.set 0 _⟩⟩, Or.inr ⟨by omega, by omega⟩, hkz.bel.setCell h1 _⟩
            clear Tz hrz hrle hkz hXz hBz hjl HTT hH
            go_wp2_with fail
            refine (leaf_any _ _ _ _ _ _ HBz.out).mono ?_
            rintro e w9 ⟨rfl, rfl⟩
            go_wp2_with fail
            go_end0
            exact ⟨rfl, R.out⟩
          · obtain ⟨G, hG⟩ : ∃ G, H = G + 1 := ⟨H - 1, by omega⟩
            obtain ⟨cn, kz, cz, _, hBz, hcz⟩ := Tz.gr.inner_form (L := G) hrz (by omega)
            have hkl := Tz.gr.kids_len hrz (by omega)
            obtain ⟨c0, hc0⟩ : ∃ c0, ri.kids = [c0] := List.length_eq_one_iff.1 (by omega)
            obtain ⟨ci, hci, _, hne⟩ := Tz.gr.kid (L := G) hrz (by omega) (c := c0) (by rw [hc0]; simp)
            have h31 := Tz.mn c0 ci hci hne.symm
            have e2 := hBz.cell (k := 0) rfl
            have e4 := hBz.cell (k := 1) rfl
            have e5 := hcz 0 c0 (by rw [hc0]; rfl)
            have e6 : ri.kids.length = 1 := by rw [hc0]; rfl
            rw [e6] at e4 hBz
            have HBz := hid' hBz
            have R : Hid (Shrunk B w (w1.setCell ⟨bx, 0, none⟩ (ptr c0)) bx (H + 1) r) := by
              rw [hG] at Tz
              obtain ⟨nds, Ts, hs⟩ := Tz.shrink hrz hc0 hci
              exact ⟨H, ci.ks.length, ⟨h1, (Ts.setIdx hXz 0 (ptr c0)).sz, Or.inr ⟨nds, c0, ci, G, hG, hXz.set 0 _, Ts.setIdx hXz 0 _, hs, rfl, by omega⟩⟩, Or.inr ⟨rfl, by omega⟩, hkz.bel.setCell h1 _⟩
            clear Tz hrz hrle hkz hXz hBz hjl HTT hH hG hcz hkl hc0 hci hne h31 e6
            go_wp2_with fail
            refine (leaf_any _ _ _ _ _ _ HBz.out).mono ?_
            rintro e w9 ⟨rfl, rfl⟩
            go_wp2_with fail
            go_end0
            exact ⟨rfl, R.out⟩
      · have hin := hf rfl
        have d1 := HBn.out.cell (k := 0) rfl
        have b2 : IntKind.i64.wrap ((i : Int) + 1) = (i : Int) + 1 := by rw [IntKind.wrap_i64]; omega
        clear hf
        go_wp2_with fail
        refine (deleteS' _ _ ni.g i (i + 1) (ni.ks.map Value.string) _ _ rfl (by omega) HO.out (by omega) (by simp; omega) (str_one _)).mono ?_
        rintro e w2 ⟨v2, rfl, ho2, g2⟩
        obtain ⟨KS, hKS⟩ : ∃ KS, KS = (ni.ks.map Value.string).take i ++ (ni.ks.map Value.string).drop (i + 1) := ⟨_, rfl⟩
        rw [← hKS] at ho2
        obtain ⟨p2, rfl⟩ := ho2.form
        obtain ⟨hn, hlv, hri, hr, hnr, h32, hkept⟩ := HI.out
        have T := HT.out
        have hgn : ni.g ≠ n := HO.out.ne HBn.out
        have hB2 := HBn.out.chg g2 (by simpa using hgn.symm)
        have f1 := hB2.cell (k := 0) rfl
        have f2 := hB2.frozen 0
        have hcv : ni.cv = .slice none 0 0 := by
          have := (T.gr.loc n ni hn).blk.cell (k := 1) rfl
          rw [HBn.out.cell (k := 1) rfl] at this
          simpa using this.symm
        have C : Cut w1 (w2.setCell ⟨n, 0, none⟩ (.slice (some ⟨ni.g, 0, none⟩) KS.length p2)) nd [(n, ni)] [(n, { ni with kv := .slice (some ⟨ni.g, 0, none⟩) KS.length p2, g := ni.g, ks := ni.ks.take i ++ ni.ks.drop (i + 1) })] [n, ni.g] :=
          cut_one T.gr hn ((g2.sub (by simp)).setCell (Or.inl (by simp)) _) (by simp) (by rw [hcv]; exact hB2.set 0 _) (by rw [List.map_append, List.map_take, List.map_drop, ← hKS]; exact ho2.setOther (ho2.ne hB2) _) (Or.inl rfl) (by simp; omega) (Or.inl hlv)
        have hk2 := T.kept C
        obtain ⟨nd', T', hn', hoth⟩ := T.one hn C rfl (fun h => by have := h32 h; simp; omega)
        obtain ⟨rz, hrz, hrle⟩ : ∃ rz, nd' root = some rz ∧ r ≤ rz.ks.length + 1 := by
          by_cases h : n = root
          · refine ⟨_, by rw [← h]; exact hn', ?_⟩
            have h5 := hnr h
            rw [← h, hn] at hri
            cases hri
            simp; omega
          · exact ⟨ri, by rw [hoth root (fun e => h e.symm)]; exact hri, hr⟩
        have HTT0 : Hid (Tr B (w2.setCell ⟨n, 0, none⟩ (.slice (some ⟨ni.g, 0, none⟩) KS.length p2)) nd' root H ∧ nd' root = some rz ∧ r ≤ rz.ks.length + 1 ∧ Kept B w (w2.setCell ⟨n, 0, none⟩ (.slice (some ⟨ni.g, 0, none⟩) KS.length p2))) := ⟨T', hrz, hrle, hkept.trans hk2⟩
        obtain ⟨W, hW⟩ : ∃ W, w2.setCell ⟨n, 0, none⟩ (.slice (some ⟨ni.g, 0, none⟩) KS.length p2) = W := ⟨_, rfl⟩
        rw [hW] at HTT0
        have HTT := HTT0
        clear T' hrz hrle hn' hoth hk2 C hcv hB2 HTT0 hn hlv hri hr hnr h32 hkept T HT HI HO HBn d1 g2 hgn ho2 hKS
        obtain ⟨Tz, hrz, hrle, hkz⟩ := HTT.out
        have hXz := hkz.idx bx _ HX.out
        have e1 := hXz.cell (k := 0) rfl
        obtain ⟨jz, hjz, hjl⟩ := Tz.rt
        rw [hrz] at hjz
        cases hjz
        by_cases hm : 0 < rz.ks.length
        · obtain ⟨kz, cz, hBz⟩ := Tz.gr.form hrz
          have e2 := hBz.cell (k := 0) rfl
          have e3 : (0 : Int) < (rz.ks.length : Int) := by omega
          have R : Hid (Shrunk B w W bx (H + 1) r) := ⟨H + 1, rz.ks.length, ⟨h1, Tz.sz, Or.inr ⟨nd', root, rz, H, rfl, hXz, Tz, hrz, rfl, hm⟩⟩, Or.inl rfl, hkz.bel⟩
          clear Tz hrz hrle hkz hXz hBz hjl HTT
          go_wp2_with fail
          go_end0
          exact ⟨rfl, R.out⟩
        · have e3 : ¬ (0 : Int) < (rz.ks.length : Int) := by omega
          have f0 := hXz.frozen 0
          rcases Nat.eq_zero_or_pos H with hH | hH
          · obtain ⟨kz, hBz⟩ := Tz.gr.leaf_form hrz (by omega)
            have e2 := hBz.cell (k := 0) rfl
            have HBz := hid' hBz
            have R : Hid (Shrunk B w (W.setCell ⟨bx, 0, none⟩ (.pointer none)) bx (H + 1) r) := ⟨0, 0, ⟨h1, by have := Tz.sz; simpa [World.setCell] using this, Or.inl ⟨rfl, rfl, hXz.set 0 _⟩⟩, Or.inr ⟨by omega, by omega⟩, hkz.bel.setCell h1 _⟩
            clear Tz hrz hrle hkz hXz hBz hjl HTT hH
            go_wp2_with fail
            refine (leaf_any _ _ _ _ _ _ HBz.out).mono ?_
            rintro e w9 ⟨rfl, rfl⟩
            go_wp2_with fail
            go_end0
            exact ⟨rfl, R.out⟩
          · obtain ⟨G, hG⟩ : ∃ G, H = G + 1 := ⟨H - 1, by omega⟩
            obtain ⟨cn, kz, cz, _, hBz, hcz⟩ := Tz.gr.inner_form (L := G) hrz (by omega)
            have hkl := Tz.gr.kids_len hrz (by omega)
            obtain ⟨c0, hc0⟩ : ∃ c0, rz.kids = [c0] := List.length_eq_one_iff.1 (by omega)
            obtain ⟨ci, hci, _, hne⟩ := Tz.gr.kid (L := G) hrz (by omega) (c := c0) (by rw [hc0]; simp)
            have h31 := Tz.mn c0 ci hci hne.symm
            have e2 := hBz.cell (k := 0) rfl
            have e4 := hBz.cell (k := 1) rfl
            have e5 := hcz 0 c0 (by rw [hc0]; rfl)
            have e6 : rz.kids.length = 1 := by rw [hc0]; rfl
            rw [e6] at e4 hBz
            have HBz := hid' hBz
            have R : Hid (Shrunk B w (W.setCell ⟨bx, 0, none⟩ (ptr c0)) bx (H + 1) r) := by
              rw [hG] at Tz
              obtain ⟨nds, Ts, hs⟩ := Tz.shrink hrz hc0 hci
              exact ⟨H, ci.ks.length, ⟨h1, (Ts.setIdx hXz 0 (ptr c0)).sz, Or.inr ⟨nds, c0, ci, G, hG, hXz.set 0 _, Ts.setIdx hXz 0 _, hs, rfl, by omega⟩⟩, Or.inr ⟨rfl, by omega⟩, hkz.bel.setCell h1 _⟩
            clear Tz hrz hrle hkz hXz hBz hjl HTT hH hG hcz hkl hc0 hci hne h31 e6
            go_wp2_with fail
            refine (leaf_any _ _ _ _ _ _ HBz.out).mono ?_
            rintro e w9 ⟨rfl, rfl⟩
            go_wp2_with fail
            go_end0
            exact ⟨rfl, R.out⟩
    | succ L =>
      have h1n : 1 ≤ ni.ks.length := by
        by_cases h : n = root
        · have := hnr h
          rw [h, hri] at hn
          cases hn
          omega
        · have := h32 h; omega
      obtain ⟨cn, kc, cc, hcn, hB, hcell⟩ := T.gr.inner_form hn hlv
      have hown := (T.gr.loc n ni hn).key
      obtain ⟨kc', hkv⟩ := hown.form
      rw [List.length_map] at hkv
      have hkc : kc' = kc := by
        have := (T.gr.loc n ni hn).blk.cell (k := 0) rfl
        rw [hB.cell (k := 0) rfl, hkv] at this
        simpa using this.symm
      have HKV : Hid (ni.kv = .slice (some ⟨ni.g, 0, none⟩) ni.ks.length kc) := by show _ = _; rw [hkv, hkc]
      rw [hkv, hkc] at hown
      have HO := hid' hown
      have HBn := hid' hB
      have hkl := T.gr.kids_len hn (by omega)
      have HKL := hid' hkl
      have HCE := hid' hcell
      have HK : Hid (∀ k c, ni.kids[k]? = some c → ∃ ci kcc cvv, nd c = some ci ∧ ci.lv = L ∧ c ≠ root ∧ 31 ≤ ci.ks.length ∧ ci.ks.length ≤ 63 ∧ Blk wr c 59 [.slice (some ⟨ci.g, 0, none⟩) ci.ks.length kcc, cvv]) := fun k c hk => by
        obtain ⟨ci, hci, hcl, _⟩ := T.gr.kid hn hlv (List.mem_of_getElem? hk)
        have hne := T.ne_root hci (by have := T.lv_le hn; omega)
        obtain ⟨kcc, cvv, hb⟩ := T.gr.form hci
        exact ⟨ci, kcc, cvv, hci, hcl, hne, T.mn c ci hci hne, (T.gr.loc c ci hci).hi, hb⟩
      have HMIN : Hid (∀ b j, nd b = some j → j.lv ≤ L → 1 ≤ j.ks.length) := fun b j hb hj => by
        have := T.mn b j hb (T.ne_root hb (by have := T.lv_le hn; omega))
        omega
      have d1 := hB.cell (k := 0) rfl
      have d2 := hB.cell (k := 1) rfl
      have hk64 : ni.kids.length ≤ 64 := by omega
      clear hn hlv hri hr hnr h32 hkept hXr hown hkv hkc T hkl hcell hcn
      go_wp2_with fail
      refine (search_any _ _ _ _ _ HO.out (by omega)).mono ?_
      rintro e w1 ⟨⟨i, f, rfl, hi, hf⟩, rfl⟩
      obtain ⟨c, hc⟩ : ∃ c, ni.kids[i]? = some c := ⟨ni.kids[i]'(by rw [HKL.out]; omega), by simp⟩
      obtain ⟨ci, kcc, cvv, hci, hcl, hcr, h31, h63, hBc⟩ := HK.out i c hc
      have e1 := HCE.out i c hc
      have e2 := hBc.cell (k := 0) rfl
      have e3 : (i : Int) < (ni.kids.length : Int) := by have := HKL.out; omega
      have HCI : Hid (ni.kids[i]? = some c ∧ nd c = some ci ∧ ci.lv = L ∧ c ≠ root) := ⟨hc, hci, hcl, hcr⟩
      clear hc hci hcl hcr hBc
      go_wp2_with fail
      refine (leaf_any _ _ _ _ _ _ HBn.out).mono ?_
      rintro e w1 ⟨rfl, rfl⟩
      cases f
      · clear hf
        by_cases hc31 : ci.ks.length = 31
        · have t1 : ((ci.ks.length : Int) == 31) = true := by simp; omega
          have HC31 := hid' hc31
          clear hc31
          go_wp2_with fail
          obtain ⟨hn, hlv, hri, hr, hnr, h32, hkept⟩ := HI.out
          have T := HT.out
          refine (fill_gr T.gr hn hlv HCI.out.1 HCI.out.2.1 HC31.out h1n (fun b j hb hj => T.mn b j hj (fun e => T.root_no n ni hn (e ▸ hb)))).mono ?_
          rintro e w2 ⟨j, rfl, O, N, S, C, D⟩
          obtain ⟨nd', ni', c', ci', ri', T', hn', hl', hj, hc', hcl', h32', hcr', hri', hroot⟩ := T.step hn hlv hri C D h32
          have hk2 := T.kept C
          clear HK HCE HO HBn HKV HCI HMIN d1 d2 e1 e2 e3 HC31 HXr
          obtain ⟨cn', kc', cc', _, hB', hcell'⟩ := T'.gr.inner_form hn' hl'
          have a1 := hB'.cell (k := 1) rfl
          have a2 := hcell' _ _ hj
          have a3 : (j : Int) < (ni'.kids.length : Int) := by have := (List.getElem?_eq_some_iff.1 hj).1; omega
          have HN : Hid (Tr B w2 nd' root H ∧ nd' c' = some ci' ∧ ci'.lv = L ∧ nd' root = some ri' ∧ r ≤ ri'.ks.length + 1 ∧ c' ≠ root ∧ 32 ≤ ci'.ks.length ∧ Kept B w w2) := by
            refine ⟨T', hc', hcl', hri', ?_, hcr', h32', hkept.trans hk2⟩
            by_cases hnr' : n = root
            · rw [if_pos hnr'] at hroot
              have := hnr hnr'
              omega
            · rw [if_neg hnr'] at hroot
              rw [hroot]
              exact hr
          clear T' hn' hl' hj hc' hcl' h32' hcr' hri' hroot C D hk2 hB' hcell' hn hlv hri hr hnr h32 hkept T HT HI
          go_wp2_with fail
          go_roundg L
          case measure => omega
          case rel => exact ⟨_, nd', c', ci', ri', rfl, rfl, HN.out.1, HN.out.2.1, HN.out.2.2.1, HN.out.2.2.2.1, HN.out.2.2.2.2.1, fun h => absurd h HN.out.2.2.2.2.2.1, fun _ => HN.out.2.2.2.2.2.2.1, HN.out.2.2.2.2.2.2.2⟩
        · have t1 : ((ci.ks.length : Int) == 31) = false := by simp; omega
          have hc32 : 32 ≤ ci.ks.length := by omega
          clear hc31
          go_wp2_with fail
          go_roundg L
          case measure => omega
          case rel => exact ⟨key, nd, c, ci, ri, rfl, rfl, HT.out, HCI.out.2.1, HCI.out.2.2.1, HI.out.2.2.1, HI.out.2.2.2.1, fun h => absurd h HCI.out.2.2.2, fun _ => hc32, HI.out.2.2.2.2.2.2⟩
      · have hin := hf rfl
        clear hf
        obtain ⟨q, hq⟩ : ∃ q, ni.kids[i + 1]? = some q := ⟨ni.kids[i + 1]'(by rw [HKL.out]; omega), by simp⟩
        obtain ⟨qi, kcq, cvq, hqi, hql, hqr, hq31, hq63, hBq⟩ := HK.out (i + 1) q hq
        have e4 := HCE.out (i + 1) q hq
        have e5 := hBq.cell (k := 0) rfl
        have b2 : IntKind.i64.wrap ((i : Int) + 1) = (i : Int) + 1 := by rw [IntKind.wrap_i64]; omega
        have b3 : (i : Int) + 1 < (ni.kids.length : Int) := by have := HKL.out; omega
        have b4 : (0 : Int) ≤ (i : Int) + 1 := by omega
        have b5 : ((i : Int) + 1).toNat = i + 1 := by omega
        have b6 : (i : Int) < (ni.ks.length : Int) := by omega
        have HQI : Hid (ni.kids[i + 1]? = some q ∧ nd q = some qi ∧ qi.lv = L ∧ q ≠ root) := ⟨hq, hqi, hql, hqr⟩
        clear hq hqi hql hqr hBq
        by_cases hA : 31 < ci.ks.length
        · have t1 : (31 : Int) < (ci.ks.length : Int) := by omega
          go_wp2_with fail
          refine (last_gr _ nd HT.out.gr L c ci HCI.out.2.1 HCI.out.2.2.1 HMIN.out).mono ?_
          rintro e w2 ⟨⟨s, rfl⟩, hcg⟩
          obtain ⟨hqk, hci, hql, hqr⟩ := HCI.out
          clear d1 d2 e1 e2 e4 e5 HQI
          obtain ⟨hn, hlv, hri, hr, hnr, h32, hkept⟩ := HI.out
          have T := HT.out.chg hcg
          have hkept := hkept.trans (Kept.of_chg hcg HT.out.sz)
          have hO2 := HO.out.chg hcg (by simp)
          have hB2 := HBn.out.chg hcg (by simp)
          obtain ⟨sp2, hv2, hOB, hom⟩ := hO2
          have hlt2 : i < (ni.ks.map Value.string).length := by simpa using hin
          have v1 := hB2.cell (k := 0) rfl
          have v2 : w2.cell? ⟨ni.g, i, none⟩ = some (.string ni.ks[i]) := T.gr.key_cell hn (by simp)
          have v3 := hOB.frozen i
          obtain ⟨W, hW⟩ : ∃ W, w2.setCell ⟨ni.g, i, none⟩ (.string s) = W := ⟨_, rfl⟩
          have hgn : ni.g ≠ n := HO.out.ne HBn.out
          have C : Cut w2 W nd [(n, ni)] [(n, { ni with kv := ni.kv, g := ni.g, ks := ni.ks.set i s })] [ni.g] := by
            rw [← hW]
            refine cut_one T.gr hn ((Chg.refl _ _).setCell (Or.inl (by simp)) _) (by simp) ((T.gr.loc n ni hn).blk.setOther hgn.symm _) ?_ (Or.inl rfl) (by simpa using (T.gr.loc n ni hn).hi) (Or.inr (by simp))
            refine ⟨sp2, ?_, ?_, ?_⟩
            · have := HKV.out
              rw [this, hv2]
              simp
            · have := hOB.set i (.string s)
              rw [List.set_append, if_pos hlt2] at this
              rw [List.map_set]
              exact this
            · rw [List.length_map, List.length_set, ← List.length_map (f := Value.string)]
              exact hom
          have hk2 := T.kept C
          obtain ⟨nd', T', hn', hoth⟩ := T.one hn C rfl (fun h => by have := h32 h; simp; omega)
          obtain ⟨ri', hri', hrle⟩ : ∃ ri', nd' root = some ri' ∧ r ≤ ri'.ks.length + 1 := by
            by_cases h : n = root
            · refine ⟨_, by rw [← h]; exact hn', ?_⟩
              rw [← h, hn] at hri
              cases hri
              simpa using hr
            · exact ⟨ri, by rw [hoth root (fun e => h e.symm)]; exact hri, hr⟩
          have hqn : c ≠ n := fun e => by
            subst e
            rw [hci] at hn
            cases hn
            omega
          have hq' : nd' c = some ci := by rw [hoth _ hqn]; exact hci
          obtain ⟨cn', kc', cc', _, hB', hcell'⟩ := T'.gr.inner_form (L := L) hn' hlv
          have a1 := hB'.cell (k := 1) rfl
          have a2 := hcell' i c hqk
          have a3 : (i : Int) < (ni.kids.length : Int) := by have := (List.getElem?_eq_some_iff.1 hqk).1; omega
          have HN : Hid (Tr B W nd' root H ∧ nd' c = some ci ∧ ci.lv = L ∧ nd' root = some ri' ∧ r ≤ ri'.ks.length + 1 ∧ c ≠ root ∧ 32 ≤ ci.ks.length ∧ Kept B w W) :=
            ⟨T', hq', hql, hri', hrle, hqr, by omega, hkept.trans hk2⟩
          clear T' hn' C hk2 hB' hcell' hn hlv hri hr hnr h32 hkept T HT HI hoth hri' hrle hq' hci hql hqr hqk hqn hB2 hOB hom hv2 hcg HK HCE HO HBn HKV
          go_wp2_with fail
          go_roundg L
          case measure => omega
          case rel => exact ⟨s, nd', c, ci, ri', rfl, rfl, HN.out.1, HN.out.2.1, HN.out.2.2.1, HN.out.2.2.2.1, HN.out.2.2.2.2.1, fun h => absurd h HN.out.2.2.2.2.2.1, fun _ => HN.out.2.2.2.2.2.2.1, HN.out.2.2.2.2.2.2.2⟩
        · have t1 : ¬ (31 : Int) < (ci.ks.length : Int) := by omega
          by_cases hA2 : 31 < qi.ks.length
          · have t2 : (31 : Int) < (qi.ks.length : Int) := by omega
            go_wp2_with fail
            refine (first_gr _ nd HT.out.gr L q qi HQI.out.2.1 HQI.out.2.2.1 HMIN.out).mono ?_
            rintro e w2 ⟨⟨s, rfl⟩, rfl⟩
            have hcg := Chg.refl [] w2
            obtain ⟨hqk, hqi, hql, hqr⟩ := HQI.out
            clear d1 d2 e1 e2 e4 e5 HCI
            obtain ⟨hn, hlv, hri, hr, hnr, h32, hkept⟩ := HI.out
            have T := HT.out.chg hcg
            have hkept := hkept.trans (Kept.of_chg hcg HT.out.sz)
            have hO2 := HO.out.chg hcg (by simp)
            have hB2 := HBn.out.chg hcg (by simp)
            obtain ⟨sp2, hv2, hOB, hom⟩ := hO2
            have hlt2 : i < (ni.ks.map Value.string).length := by simpa using hin
            have v1 := hB2.cell (k := 0) rfl
            have v2 : w2.cell? ⟨ni.g, i, none⟩ = some (.string ni.ks[i]) := T.gr.key_cell hn (by simp)
            have v3 := hOB.frozen i
            obtain ⟨W, hW⟩ : ∃ W, w2.setCell ⟨ni.g, i, none⟩ (.string s) = W := ⟨_, rfl⟩
            have hgn : ni.g ≠ n := HO.out.ne HBn.out
            have C : Cut w2 W nd [(n, ni)] [(n, { ni with kv := ni.kv, g := ni.g, ks := ni.ks.set i s })] [ni.g] := by
              rw [← hW]
              refine cut_one T.gr hn ((Chg.refl _ _).setCell (Or.inl (by simp)) _) (by simp) ((T.gr.loc n ni hn).blk.setOther hgn.symm _) ?_ (Or.inl rfl) (by simpa using (T.gr.loc n ni hn).hi) (Or.inr (by simp))
              refine ⟨sp2, ?_, ?_, ?_⟩
              · have := HKV.out
                rw [this, hv2]
                simp
              · have := hOB.set i (.string s)
                rw [List.set_append, if_pos hlt2] at this
                rw [List.map_set]
                exact this
              · rw [List.length_map, List.length_set, ← List.length_map (f := Value.string)]
                exact hom
            have hk2 := T.kept C
            obtain ⟨nd', T', hn', hoth⟩ := T.one hn C rfl (fun h => by have := h32 h; simp; omega)
            obtain ⟨ri', hri', hrle⟩ : ∃ ri', nd' root = some ri' ∧ r ≤ ri'.ks.length + 1 := by
              by_cases h : n = root
              · refine ⟨_, by rw [← h]; exact hn', ?_⟩
                rw [← h, hn] at hri
                cases hri
                simpa using hr
              · exact ⟨ri, by rw [hoth root (fun e => h e.symm)]; exact hri, hr⟩
            have hqn : q ≠ n := fun e => by
              subst e
              rw [hqi] at hn
              cases hn
              omega
            have hq' : nd' q = some qi := by rw [hoth _ hqn]; exact hqi
            obtain ⟨cn', kc', cc', _, hB', hcell'⟩ := T'.gr.inner_form (L := L) hn' hlv
            have a1 := hB'.cell (k := 1) rfl
            have a2 := hcell' (i + 1) q hqk
            have a3 : (i : Int) + 1 < (ni.kids.length : Int) := by have := (List.getElem?_eq_some_iff.1 hqk).1; omega
            have HN : Hid (Tr B W nd' root H ∧ nd' q = some qi ∧ qi.lv = L ∧ nd' root = some ri' ∧ r ≤ ri'.ks.length + 1 ∧ q ≠ root ∧ 32 ≤ qi.ks.length ∧ Kept B w W) :=
              ⟨T', hq', hql, hri', hrle, hqr, by omega, hkept.trans hk2⟩
            clear T' hn' C hk2 hB' hcell' hn hlv hri hr hnr h32 hkept T HT HI hoth hri' hrle hq' hqi hql hqr hqk hqn hB2 hOB hom hv2 hcg HK HCE HO HBn HKV
            go_wp2_with fail
            go_roundg L
            case measure => omega
            case rel => exact ⟨s, nd', q, qi, ri', rfl, rfl, HN.out.1, HN.out.2.1, HN.out.2.2.1, HN.out.2.2.2.1, HN.out.2.2.2.2.1, fun h => absurd h HN.out.2.2.2.2.2.1, fun _ => HN.out.2.2.2.2.2.2.1, HN.out.2.2.2.2.2.2.2⟩
          · have t2 : ¬ (31 : Int) < (qi.ks.length : Int) := by omega
            go_wp2_with fail
            obtain ⟨hn, hlv, hri, hr, hnr, h32, hkept⟩ := HI.out
            have T := HT.out
            refine (merge_gr T.gr hn hlv HCI.out.1 HQI.out.1 HCI.out.2.1 HQI.out.2.1 (by omega) (by omega)).mono ?_
            rintro e w2 ⟨rfl, O, N, S, C, D⟩
            obtain ⟨nd', ni', c', ci', ri', T', hn', hl', hj, hc', hcl', h32', hcr', hri', hroot⟩ := T.step hn hlv hri C D h32
            have hk2 := T.kept C
            clear HK HCE HO HBn HKV HCI HMIN d1 d2 e1 e2 e3 e4 e5 HQI HXr
            obtain ⟨cn', kc', cc', _, hB', hcell'⟩ := T'.gr.inner_form hn' hl'
            have a1 := hB'.cell (k := 1) rfl
            have a2 := hcell' _ _ hj
            have a3 : (i : Int) < (ni'.kids.length : Int) := by have := (List.getElem?_eq_some_iff.1 hj).1; omega
            have HN : Hid (Tr B w2 nd' root H ∧ nd' c' = some ci' ∧ ci'.lv = L ∧ nd' root = some ri' ∧ r ≤ ri'.ks.length + 1 ∧ c' ≠ root ∧ 32 ≤ ci'.ks.length ∧ Kept B w w2) := by
              refine ⟨T', hc', hcl', hri', ?_, hcr', h32', hkept.trans hk2⟩
              by_cases hnr' : n = root
              · rw [if_pos hnr'] at hroot
                have := hnr hnr'
                omega
              · rw [if_neg hnr'] at hroot
                rw [hroot]
                exact hr
            clear T' hn' hl' hj hc' hcl' h32' hcr' hri' hroot C D hk2 hB' hcell' hn hlv hri hr hnr h32 hkept T HT HI
            go_wp2_with fail
            go_roundg L
            case measure => omega
            case rel => exact ⟨_, nd', c', ci', ri', rfl, rfl, HN.out.1, HN.out.2.1, HN.out.2.2.1, HN.out.2.2.2.1, HN.out.2.2.2.2.1, fun h => absurd h HN.out.2.2.2.2.2.1, fun _ => HN.out.2.2.2.2.2.2.1, HN.out.2.2.2.2.2.2.2⟩
end Go.Proofs.Qxb6601743a
