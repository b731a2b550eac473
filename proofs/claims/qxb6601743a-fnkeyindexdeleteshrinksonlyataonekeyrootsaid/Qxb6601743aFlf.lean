import Derived.Test.Qxb6601743aPln
import Derived.Test.Qxb6601743aIno
import Derived.Test.Qxb6601743aFil2
import Derived.Test.Qxb6601743aFil3
import Derived.Test.Qxb6601743aFil4
namespace Go.Proofs.Qxb6601743a
open Go.RowKit

theorem inj_of {α : Type} {l : List α} (h : l.Nodup) {a b : Nat} {x : α} (ha : l[a]? = some x) (hb : l[b]? = some x) : a = b :=
  (List.getElem?_inj (List.getElem?_eq_some_iff.1 ha).1 h).1 (ha.trans hb.symm)

/-- The leaves of a node: blocks bs, their key rows gs, their keys cks. -/
def Fam (w : World) (bs gs : List Nat) (cks : List (List ByteArray)) : Prop :=
  ∀ (k b g : Nat) (ys : List ByteArray), bs[k]? = some b → gs[k]? = some g → cks[k]? = some ys → ∃ kv, Blk w b 59 [kv, .slice none 0 0] ∧ Own w 9 kv g (ys.map Value.string)

theorem Fam.at {w : World} {bs gs : List Nat} {cks : List (List ByteArray)} (h : Fam w bs gs cks) (h1 : bs.length = cks.length) (h2 : gs.length = cks.length) {k : Nat} {ys : List ByteArray} (hk : cks[k]? = some ys) :
    ∃ b g kv, bs[k]? = some b ∧ gs[k]? = some g ∧ Blk w b 59 [kv, .slice none 0 0] ∧ Own w 9 kv g (ys.map Value.string) := by
  have hlt := (List.getElem?_eq_some_iff.1 hk).1
  obtain ⟨b, hb⟩ : ∃ b, bs[k]? = some b := ⟨bs[k]'(by omega), by simp⟩
  obtain ⟨g, hg⟩ : ∃ g, gs[k]? = some g := ⟨gs[k]'(by omega), by simp⟩
  obtain ⟨kv, h3, h4⟩ := h k b g ys hb hg hk
  exact ⟨b, g, kv, hb, hg, h3, h4⟩

/-- A leaf that no changed block touches is a leaf still. -/
theorem Fam.keep {w w' : World} {bs gs : List Nat} {cks : List (List ByteArray)} {S : List Nat} (h : Fam w bs gs cks) (c : Chg S w w') {k b g : Nat} {ys : List ByteArray} (hb : bs[k]? = some b) (hg : gs[k]? = some g) (hk : cks[k]? = some ys)
    (n1 : b ∉ S) (n2 : g ∉ S) : Leaf w' (ptr b) ys := by
  obtain ⟨kv, h3, h4⟩ := h k b g ys hb hg hk
  exact ⟨b, g, kv, rfl, h3.chg c n1, h4.chg c n2⟩

theorem str_one (xs : List ByteArray) : ∀ u ∈ xs.map Value.string, u.oneCell' = true := strs_oneCell xs
theorem ptr_one (bs : List Nat) : ∀ u ∈ bs.map ptr, u.oneCell' = true := by
  intro u hu; obtain ⟨_, _, rfl⟩ := List.mem_map.1 hu; rfl

theorem kids_nil (w : World) : Kids w (.slice none 0 0) [] [] := Or.inl ⟨rfl, rfl, rfl⟩
theorem Kids.nil_eq {w : World} {v : Value} {xs : List Value} (h : Kids w v [] xs) : v = .slice none 0 0 := by
  rcases h with ⟨h, _⟩ | ⟨b, h, _⟩
  · exact h
  · cases h

/-- What fill leaves, over leaves. -/
def Filled (w : World) (bp : Nat) (pk : List ByteArray) (cks : List (List ByteArray)) (i : Nat) (j : Nat) (w' : World) (S : List Nat) : Prop :=
  ∃ pk' cks' cps' nkv' ncv' kn' cn', Good pk cks i pk' cks' j ∧ Blk w' bp 59 [nkv', ncv'] ∧ Own w' 9 nkv' kn' (pk'.map Value.string) ∧ Own w' 34 ncv' cn' cps' ∧ cps'.length = cks'.length ∧
    (∀ (k : Nat) (c : Value) (ys : List ByteArray), cps'[k]? = some c → cks'[k]? = some ys → Leaf w' c ys) ∧ Chg S w w'

theorem fill_leaf (w : World) (bp kn cn i : Nat) (nkv ncv : Value) (pk : List ByteArray) (bs gs : List Nat) (cks : List (List ByteArray)) (c : List ByteArray)
    (hP : Blk w bp 59 [nkv, ncv]) (hk : Own w 9 nkv kn (pk.map Value.string)) (hcv : Own w 34 ncv cn (bs.map ptr)) (hF : Fam w bs gs cks) (h1 : bs.length = cks.length) (h2 : gs.length = cks.length)
    (nb : bs.Nodup) (ng : gs.Nodup) (hpb : bp ∉ bs) (hkg : kn ∉ gs) (hpk1 : 1 ≤ pk.length) (hlen : cks.length = pk.length + 1) (hpk : pk.length ≤ 63) (hall : ∀ y ∈ cks, 31 ≤ y.length ∧ y.length ≤ 63)
    (hci : cks[i]? = some c) (hc31 : c.length = 31) :
    Calls Try.prog 42 #[ptr bp, .int .i64 i] w fun e w' => ∃ j : Nat, e = .returned (.int .i64 j) ∧ Filled w bp pk cks i j w' ([bp, kn, cn] ++ bs ++ gs) := by
  have hil : i < cks.length := (List.getElem?_eq_some_iff.1 hci).1
  obtain ⟨bc, kc, ckv, hbc, hgc, hC, hck⟩ := hF.at h1 h2 hci
  have hne : ∀ {k b : Nat}, bs[k]? = some b → bp ≠ b := fun h e => hpb (e ▸ List.mem_of_getElem? h)
  have hkne : ∀ {k g : Nat}, gs[k]? = some g → kn ≠ g := fun h e => hkg (e ▸ List.mem_of_getElem? h)
  have hcp : ∀ {k b : Nat}, bs[k]? = some b → (bs.map ptr)[k]? = some (ptr b) := fun h => by rw [List.getElem?_map, h]; rfl
  have hpx : ∀ {k : Nat} {x : ByteArray}, pk[k]? = some x → (pk.map Value.string)[k]? = some (.string x) := fun h => by rw [List.getElem?_map, h]; rfl
  -- how a leaf other than the touched ones is kept
  have keep : ∀ {w' : World} {S : List Nat} (hS : Chg S w w') (k b g : Nat) (ys : List ByteArray), bs[k]? = some b → gs[k]? = some g → cks[k]? = some ys → b ∉ S → g ∉ S → Leaf w' (ptr b) ys := fun hS k b g ys hb hg hy n1 n2 => hF.keep hS hb hg hy n1 n2
  have lb : (bs.map ptr).length ≤ 1000000 := by simp; omega
  have lp : (pk.map Value.string).length ≤ 1000000 := by simp; omega
  have lc : (c.map Value.string).length ≤ 1000000 := by simp; omega
  have cnC : cn ≠ bc := hcv.ne hC
  have cnk : cn ≠ kc := hcv.ne2 hck
  have cnn : cn ≠ kn := hcv.ne2 hk
  have getB : ∀ {k : Nat} {v : Value}, (bs.map ptr)[k]? = some v → ∃ b, bs[k]? = some b ∧ v = ptr b := fun {k v} h => by
    rw [List.getElem?_map] at h
    cases hb : bs[k]? with
    | none => rw [hb] at h; cases h
    | some b => rw [hb] at h; exact ⟨b, rfl, by simpa using h.symm⟩
  have getG : ∀ {k b : Nat}, bs[k]? = some b → ∃ g, gs[k]? = some g := fun {k b} h => by
    have := (List.getElem?_eq_some_iff.1 h).1
    exact ⟨gs[k]'(by omega), by simp⟩
  by_cases hA : 0 < i ∧ ∃ l, cks[i - 1]? = some l ∧ 31 < l.length
  · obtain ⟨h0, l, hl, hl31⟩ := hA
    obtain ⟨l0, y, rfl⟩ : ∃ l0 y, l = l0 ++ [y] := ⟨l.dropLast, l.getLast (List.ne_nil_of_length_pos (by omega)), (List.dropLast_concat_getLast _).symm⟩
    obtain ⟨bl, kl, lkv, hbl, hgl, hL, hlk⟩ := hF.at h1 h2 hl
    obtain ⟨x, hx⟩ : ∃ x, pk[i - 1]? = some x := ⟨pk[i - 1]'(by omega), by simp⟩
    have hl63 := hall _ (List.mem_of_getElem? hl)
    simp at hl63 hl31
    have ncl : bc ≠ bl := fun e => by subst e; have := inj_of nb hbc hbl; omega
    have kcl : kc ≠ kl := fun e => by subst e; have := inj_of ng hgc hgl; omega
    refine (fill_left w bp kn cn bc kc bl kl i [] [] nkv ncv ckv _ lkv _ x y (pk.map Value.string) (bs.map ptr) (c.map Value.string) (l0.map Value.string) [] [] hP hk hcv hC hck hL (by simpa using hlk) (kids_nil w) (kids_nil w) Iff.rfl h0 (hcp hbc) (hcp hbl) (hpx hx) (by simp; omega)
      (hne hbc) (hne hbl) ncl (hkne hgc) (hkne hgl) kcl (by simp) (str_one c) (str_one l0) (by simp) (by simp) (by simp) lp lb lc (by simp; omega) (by simp) (by simp)).mono ?_
    rintro e w' ⟨rfl, ckv', ccv', kc', dcs', lkv', lcv', q1, q2, q3, q4, q5, q6, q7, q8, q9, q10, q11, q12⟩
    obtain rfl : dcs' = [] := q11.2 rfl
    obtain rfl := q5.nil_eq
    obtain rfl := q8.nil_eq
    refine ⟨i, rfl, pk.set (i - 1) y, (cks.set (i - 1) l0).set i (x :: c), bs.map ptr, nkv, ncv, kn, cn, good_left pk cks i x y l0 c h0 hx hl hci (by omega) hc31 hlen hall, q1, by rw [List.map_set]; exact q2, hcv.chg q12 ?_, by simp [h1], ?_, q12.sub ?_⟩
    · simp [cnC, cnk, cnn, hcv.ne hL, hcv.ne2 hlk]
    · intro k v ys hk1 hk2
      obtain ⟨b, hb, rfl⟩ := getB hk1
      by_cases hki : k = i
      · subst hki
        rw [hbc] at hb
        obtain rfl : bc = b := by simpa using hb
        rw [List.getElem?_set_self (by simp; omega)] at hk2
        obtain rfl : x :: c = ys := by simpa using hk2
        exact ⟨bc, kc', ckv', rfl, q3, q4⟩
      · rw [List.getElem?_set_ne (by omega)] at hk2
        by_cases hkl : k = i - 1
        · subst hkl
          rw [hbl] at hb
          obtain rfl : bl = b := by simpa using hb
          rw [List.getElem?_set_self (by omega)] at hk2
          obtain rfl : l0 = ys := by simpa using hk2
          exact ⟨bl, kl, lkv', rfl, q6, q7⟩
        · rw [List.getElem?_set_ne (by omega)] at hk2
          obtain ⟨g, hg⟩ := getG hb
          obtain ⟨kv', hB, hO⟩ := hF k b g ys hb hg hk2
          refine keep q12 k b g ys hb hg hk2 ?_ ?_
          · have n1 : b ≠ bc := fun e => hki (inj_of nb (e ▸ hb) hbc)
            have n2 : b ≠ bl := fun e => hkl (inj_of nb (e ▸ hb) hbl)
            simp [n1, n2, (hck.ne hB).symm, (hk.ne hB).symm, (hlk.ne hB).symm]
          · have n1 : g ≠ kc := fun e => hki (inj_of ng (e ▸ hg) hgc)
            have n2 : g ≠ kl := fun e => hkl (inj_of ng (e ▸ hg) hgl)
            simp [n1, n2, hO.ne hC, (hkne hg).symm, hO.ne hL]
    · have m1 := List.mem_of_getElem? hbc
      have m2 := List.mem_of_getElem? hgc
      have m3 := List.mem_of_getElem? hbl
      have m4 := List.mem_of_getElem? hgl
      intro z hz
      simp at hz ⊢
      rcases hz with rfl | rfl | rfl | rfl | rfl <;> simp [*]
  have hA' : i = 0 ∨ ∃ m, (cks.map List.length)[i - 1]? = some m ∧ m ≤ 31 := by
    by_cases h0 : i = 0
    · exact Or.inl h0
    · right
      have hlt : i - 1 < cks.length := by omega
      refine ⟨cks[i - 1].length, by simp [hlt], ?_⟩
      have h1 : ¬ 31 < cks[i - 1].length := fun h => hA ⟨by omega, cks[i - 1], by simp [hlt], h⟩
      omega
  have left : 0 < i → ∃ bl ln lcap la lcv, Blk w bl 59 [.slice la ln lcap, lcv] ∧ (bs.map ptr)[i - 1]? = some (ptr bl) ∧ ln ≤ 31 := fun h0 => by
    rcases hA' with h | ⟨m, hm, hm2⟩
    · omega
    · obtain ⟨l, hl⟩ : ∃ l, cks[i - 1]? = some l := ⟨cks[i - 1]'(by omega), by simp⟩
      rw [List.getElem?_map, hl] at hm
      obtain rfl : l.length = m := by simpa using hm
      obtain ⟨bl, kl, lkv, hbl, hgl, hL, hlk⟩ := hF.at h1 h2 hl
      obtain ⟨cp, rfl⟩ := hlk.form
      exact ⟨bl, _, _, _, _, hL, hcp hbl, by simpa using hm2⟩
  by_cases hR : ∃ r, cks[i + 1]? = some r ∧ 31 < r.length
  · obtain ⟨r, hr, hr31⟩ := hR
    obtain ⟨y, r0, rfl⟩ : ∃ y r0, r = y :: r0 := List.exists_cons_of_length_pos (by omega)
    obtain ⟨br, kr, rkv, hbr, hgr, hRb, hrk⟩ := hF.at h1 h2 hr
    have hrl := (List.getElem?_eq_some_iff.1 hr).1
    obtain ⟨x, hx⟩ : ∃ x, pk[i]? = some x := ⟨pk[i]'(by omega), by simp⟩
    have hr63 := hall _ (List.mem_of_getElem? hr)
    simp at hr63 hr31
    have ncr : bc ≠ br := fun e => by subst e; have := inj_of nb hbc hbr; omega
    have kcr : kc ≠ kr := fun e => by subst e; have := inj_of ng hgc hgr; omega
    have fin : ∀ (e : Ending) (w' : World), (e = .returned (.int .i64 i) ∧ ∃ ckv' ccv' kc' dcs' rkv' rcv', Blk w' bp 59 [nkv, ncv] ∧ Own w' 9 nkv kn ((pk.map Value.string).set i (.string y)) ∧
        Blk w' bc 59 [ckv', ccv'] ∧ Own w' 9 ckv' kc' (c.map Value.string ++ [.string x]) ∧ Kids w' ccv' dcs' ([] ++ List.take 1 []) ∧ Blk w' br 59 [rkv', rcv'] ∧ Own w' 9 rkv' kr (r0.map Value.string) ∧ Kids w' rcv' [] (List.drop 1 []) ∧
        (kc' = kc ∨ w.heap.size ≤ kc') ∧ (∀ d ∈ dcs', d ∈ ([] : List Nat) ∨ w.heap.size ≤ d) ∧ (dcs' = [] ↔ ([] : List Nat) = []) ∧ Chg ([bc, kc, kn, br, kr] ++ [] ++ []) w w') →
        ∃ j : Nat, e = .returned (.int .i64 j) ∧ Filled w bp pk cks i j w' ([bp, kn, cn] ++ bs ++ gs) := by
      rintro e w' ⟨rfl, ckv', ccv', kc', dcs', rkv', rcv', q1, q2, q3, q4, q5, q6, q7, q8, q9, q10, q11, q12⟩
      obtain rfl : dcs' = [] := q11.2 rfl
      obtain rfl := q5.nil_eq
      obtain rfl := q8.nil_eq
      refine ⟨i, rfl, pk.set i y, (cks.set (i + 1) r0).set i (c ++ [x]), bs.map ptr, nkv, ncv, kn, cn, good_right pk cks i x y r0 c hA' hx hr hci (by omega) hc31 hlen hall, q1, by rw [List.map_set]; exact q2, hcv.chg q12 ?_, by simp [h1], ?_, q12.sub ?_⟩
      · simp [cnC, cnk, cnn, hcv.ne hRb, hcv.ne2 hrk]
      · intro k v ys hk1 hk2
        obtain ⟨b, hb, rfl⟩ := getB hk1
        by_cases hki : k = i
        · subst hki
          rw [hbc] at hb
          obtain rfl : bc = b := by simpa using hb
          rw [List.getElem?_set_self (by simp; omega)] at hk2
          obtain rfl : c ++ [x] = ys := by simpa using hk2
          exact ⟨bc, kc', ckv', rfl, q3, by simpa using q4⟩
        · rw [List.getElem?_set_ne (by omega)] at hk2
          by_cases hkl : k = i + 1
          · subst hkl
            rw [hbr] at hb
            obtain rfl : br = b := by simpa using hb
            rw [List.getElem?_set_self (by omega)] at hk2
            obtain rfl : r0 = ys := by simpa using hk2
            exact ⟨br, kr, rkv', rfl, q6, q7⟩
          · rw [List.getElem?_set_ne (by omega)] at hk2
            obtain ⟨g, hg⟩ := getG hb
            obtain ⟨kv', hB, hO⟩ := hF k b g ys hb hg hk2
            refine keep q12 k b g ys hb hg hk2 ?_ ?_
            · have n1 : b ≠ bc := fun e => hki (inj_of nb (e ▸ hb) hbc)
              have n2 : b ≠ br := fun e => hkl (inj_of nb (e ▸ hb) hbr)
              simp [n1, n2, (hck.ne hB).symm, (hk.ne hB).symm, (hrk.ne hB).symm]
            · have n1 : g ≠ kc := fun e => hki (inj_of ng (e ▸ hg) hgc)
              have n2 : g ≠ kr := fun e => hkl (inj_of ng (e ▸ hg) hgr)
              simp [n1, n2, hO.ne hC, (hkne hg).symm, hO.ne hRb]
      · have m1 := List.mem_of_getElem? hbc
        have m2 := List.mem_of_getElem? hgc
        have m3 := List.mem_of_getElem? hbr
        have m4 := List.mem_of_getElem? hgr
        intro z hz
        simp at hz ⊢
        rcases hz with rfl | rfl | rfl | rfl | rfl <;> simp [*]
    by_cases h0 : 0 < i
    · obtain ⟨bl, ln, lcap, la, lcv, hL, hl1, hl2⟩ := left h0
      exact (fill_right1 w bp kn cn bc kc br kr i [] [] nkv ncv ckv _ rkv _ x y (pk.map Value.string) (bs.map ptr) (c.map Value.string) (r0.map Value.string) [] [] hP hk hcv hC hck hRb hrk (kids_nil w) (kids_nil w) Iff.rfl h0 bl ln lcap la lcv hL hl1 hl2 (hcp hbc) (hcp hbr) (hpx hx) (by simp; omega)
        (hne hbc) (hne hbr) ncr (hkne hgc) (hkne hgr) kcr (by simp) (str_one r0) (by simp) (by simp) lb lc (by simp; omega) (by simp) (by simp)).mono fin
    · exact (fill_right0 w bp kn cn bc kc br kr i [] [] nkv ncv ckv _ rkv _ x y (pk.map Value.string) (bs.map ptr) (c.map Value.string) (r0.map Value.string) [] [] hP hk hcv hC hck hRb hrk (kids_nil w) (kids_nil w) Iff.rfl (by omega) (hcp hbc) (hcp hbr) (hpx hx) (by simp; omega)
        (hne hbc) (hne hbr) ncr (hkne hgc) (hkne hgr) kcr (by simp) (str_one r0) (by simp) (by simp) lb lc (by simp; omega) (by simp) (by simp)).mono fin
  -- the merging ways
  have mrg : ∀ (m : Nat) (x : ByteArray) (a b : List ByteArray) (ba ka bb kb : Nat) (akv bkv : Value) (hx : pk[m]? = some x) (ha : cks[m]? = some a) (hb : cks[m + 1]? = some b) (hba : bs[m]? = some ba) (hga : gs[m]? = some ka) (hbb : bs[m + 1]? = some bb) (hgb : gs[m + 1]? = some kb)
      (hA1 : Blk w ba 59 [akv, .slice none 0 0]) (hA2 : Own w 9 akv ka (a.map Value.string)) (hB1 : Blk w bb 59 [bkv, .slice none 0 0]) (hB2 : Own w 9 bkv kb (b.map Value.string)) (hG : Good pk cks i (pk.take m ++ pk.drop (m + 1)) (cks.take m ++ (a ++ [x] ++ b) :: cks.drop (m + 2)) m)
      (e : Ending) (w' : World), (e = .returned (.int .i64 m) ∧ ∃ nkv' ncv' ckv' ccv' kc' dcs',
        Blk w' bp 59 [nkv', ncv'] ∧ Own w' 9 nkv' kn ((pk.map Value.string).take m ++ (pk.map Value.string).drop (m + 1)) ∧ Own w' 34 ncv' cn ((bs.map ptr).take (m + 1) ++ (bs.map ptr).drop (m + 2)) ∧
        Blk w' ba 59 [ckv', ccv'] ∧ Own w' 9 ckv' kc' (a.map Value.string ++ [.string x] ++ b.map Value.string) ∧ Kids w' ccv' dcs' ([] ++ []) ∧
        (kc' = ka ∨ w.heap.size ≤ kc') ∧ (∀ d ∈ dcs', d ∈ ([] : List Nat) ∨ w.heap.size ≤ d) ∧ (dcs' = [] ↔ ([] : List Nat) = []) ∧ Chg ([bp, kn, cn, ba, ka] ++ []) w w') →
      ∃ j : Nat, e = .returned (.int .i64 j) ∧ Filled w bp pk cks i j w' ([bp, kn, cn] ++ bs ++ gs) := by
    rintro m x a b ba ka bb kb akv bkv hx ha hb hba hga hbb hgb hA1 hA2 hB1 hB2 hG e w' ⟨rfl, nkv', ncv', ckv', ccv', kc', dcs', q1, q2, q3, q4, q5, q6, q7, q8, q9, q10⟩
    obtain rfl : dcs' = [] := q9.2 rfl
    obtain rfl := q6.nil_eq
    have hml := (List.getElem?_eq_some_iff.1 hb).1
    have lt1 : ((bs.map ptr).take (m + 1)).length = m + 1 := by simp; omega
    have lt2 : (cks.take m).length = m := by simp; omega
    refine ⟨m, rfl, _, _, (bs.map ptr).take (m + 1) ++ (bs.map ptr).drop (m + 2), nkv', ncv', kn, cn, hG, q1, by simpa using q2, q3, by simp; omega, ?_, q10.sub ?_⟩
    · intro k v ys hk1 hk2
      by_cases hkm : k < m + 1
      · rw [List.getElem?_append_left (by omega), List.getElem?_take, if_pos hkm] at hk1
        obtain ⟨b', hb', rfl⟩ := getB hk1
        by_cases hke : k = m
        · subst hke
          rw [hba] at hb'
          obtain rfl : ba = b' := by simpa using hb'
          rw [List.getElem?_append_right (by omega), lt2, Nat.sub_self] at hk2
          obtain rfl : a ++ [x] ++ b = ys := by simpa using hk2
          exact ⟨ba, kc', ckv', rfl, q4, by simpa using q5⟩
        · rw [List.getElem?_append_left (by omega), List.getElem?_take, if_pos (by omega)] at hk2
          obtain ⟨g, hg⟩ := getG hb'
          obtain ⟨kv', hB, hO⟩ := hF k b' g ys hb' hg hk2
          refine keep q10 k b' g ys hb' hg hk2 ?_ ?_
          · have n1 : b' ≠ ba := fun e => hke (inj_of nb (e ▸ hb') hba)
            simp [n1, (hne hb').symm, (hk.ne hB).symm, (hcv.ne hB).symm, (hA2.ne hB).symm]
          · have n1 : g ≠ ka := fun e => hke (inj_of ng (e ▸ hg) hga)
            simp [n1, hO.ne hP, (hkne hg).symm, (hcv.ne2 hO).symm, hO.ne hA1]
      · rw [List.getElem?_append_right (by omega), lt1, List.getElem?_drop] at hk1
        obtain ⟨b', hb', rfl⟩ := getB hk1
        rw [List.getElem?_append_right (by omega), lt2, show k - m = (k - (m + 1)) + 1 by omega, List.getElem?_cons_succ, List.getElem?_drop] at hk2
        obtain ⟨g, hg⟩ := getG hb'
        obtain ⟨kv', hB, hO⟩ := hF _ b' g ys hb' hg hk2
        refine keep q10 _ b' g ys hb' hg hk2 ?_ ?_
        · have n1 : b' ≠ ba := fun e => by have := inj_of nb (e ▸ hb') hba; omega
          simp [n1, (hne hb').symm, (hk.ne hB).symm, (hcv.ne hB).symm, (hA2.ne hB).symm]
        · have n1 : g ≠ ka := fun e => by have := inj_of ng (e ▸ hg) hga; omega
          simp [n1, hO.ne hP, (hkne hg).symm, (hcv.ne2 hO).symm, hO.ne hA1]
    · have m1 := List.mem_of_getElem? hba
      have m2 := List.mem_of_getElem? hga
      intro z hz
      simp at hz ⊢
      rcases hz with rfl | rfl | rfl | rfl | rfl <;> simp [*]
  have hc31' : ∀ d, cks[i]? = some d → d.length = 31 := by
    intro d hd
    rw [hci] at hd
    obtain rfl : c = d := by simpa using hd
    exact hc31
  by_cases hil2 : i < pk.length
  · obtain ⟨b, hb⟩ : ∃ b, cks[i + 1]? = some b := ⟨cks[i + 1]'(by omega), by simp⟩
    obtain ⟨x, hx⟩ : ∃ x, pk[i]? = some x := ⟨pk[i], by simp [hil2]⟩
    obtain ⟨bb, kb, bkv, hbb, hgb, hB1, hB2⟩ := hF.at h1 h2 hb
    have hb63 := hall _ (List.mem_of_getElem? hb)
    have hb31 : b.length = 31 := by
      have h3 : ¬ 31 < b.length := fun h' => hR ⟨b, hb, h'⟩
      omega
    have ncb : bc ≠ bb := fun e => by subst e; have := inj_of nb hbc hbb; omega
    have kcb : kc ≠ kb := fun e => by subst e; have := inj_of ng hgc hgb; omega
    have ht : table (cks.map List.length) i = ((cks.map List.length).take i ++ [c.length + b.length + 1] ++ (cks.map List.length).drop (i + 2), i) := by
      rw [table_merge hA' (lens_get hci) (lens_get hb) (by omega), mTo_all _ _ _ (by simp; omega)]
    have hG := good_merge pk cks i i x c b hx hci hb (Or.inl rfl) hc31' ht hc31 hb31 hlen hall
    have fin := mrg i x c b bc kc bb kb ckv bkv hx hci hb hbc hgc hbb hgb hC hck hB1 hB2 hG
    by_cases h0 : 0 < i
    · obtain ⟨bl, ln, lcap, la, lcv, hL, hl1, hl2⟩ := left h0
      exact (fill_merge1 w bp kn cn bc kc bb kb i [] [] nkv ncv ckv _ bkv _ x (pk.map Value.string) (bs.map ptr) (c.map Value.string) (b.map Value.string) [] [] hP hk hcv hC hck hB1 hB2 (kids_nil w) (kids_nil w) Iff.rfl (hcp hbc) (hcp hbb) (hpx hx)
        (hne hbc) ncb (hkne hgc) kcb (by simp) (str_one pk) (ptr_one bs) (str_one b) (by simp) lp lb lc (by simp; omega) (by simp) (by simp) h0 bl ln lcap la lcv hL hl1 hl2 (by simp; omega)).mono fin
    · exact (fill_merge0 w bp kn cn bc kc bb kb i [] [] nkv ncv ckv _ bkv _ x (pk.map Value.string) (bs.map ptr) (c.map Value.string) (b.map Value.string) [] [] hP hk hcv hC hck hB1 hB2 (kids_nil w) (kids_nil w) Iff.rfl (hcp hbc) (hcp hbb) (hpx hx)
        (hne hbc) ncb (hkne hgc) kcb (by simp) (str_one pk) (ptr_one bs) (str_one b) (by simp) lp lb lc (by simp; omega) (by simp) (by simp) (by omega) (by simp; omega)).mono fin
  · have hip : 0 < i := by
      rcases Nat.lt_or_ge 0 i with h | h
      · exact h
      · omega
    obtain ⟨m, rfl⟩ : ∃ m, i = m + 1 := ⟨i - 1, by omega⟩
    obtain ⟨a, ha⟩ : ∃ a, cks[m]? = some a := ⟨cks[m]'(by omega), by simp⟩
    obtain ⟨x, hx⟩ : ∃ x, pk[m]? = some x := ⟨pk[m]'(by omega), by simp⟩
    obtain ⟨ba, ka, akv, hba, hga, hA1, hA2⟩ := hF.at h1 h2 ha
    have ha63 := hall _ (List.mem_of_getElem? ha)
    have ha31 : a.length = 31 := by
      rcases hA' with h | ⟨q, hq, hq2⟩
      · omega
      · rw [Nat.add_sub_cancel, lens_get ha] at hq
        obtain rfl : a.length = q := by simpa using hq
        omega
    have ncb : ba ≠ bc := fun e => by subst e; have := inj_of nb hba hbc; omega
    have kcb : ka ≠ kc := fun e => by subst e; have := inj_of ng hga hgc; omega
    have ht : table (cks.map List.length) (m + 1) = ((cks.map List.length).take m ++ [a.length + c.length + 1] ++ (cks.map List.length).drop (m + 2), m) := by
      rw [table_last (by omega) (by simp; omega) (by rw [Nat.add_sub_cancel]; exact lens_get ha) (by omega) (lens_get hci), Nat.add_sub_cancel, mTo_all _ _ _ (by simp; omega)]
    have hG := good_merge pk cks (m + 1) m x a c hx ha hci (Or.inr rfl) hc31' ht ha31 hc31 hlen hall
    have fin := mrg m x a c ba ka bc kc akv ckv hx ha hci hba hga hbc hgc hA1 hA2 hC hck hG
    exact (fill_mergeL w bp kn cn ba ka bc kc m [] [] nkv ncv akv _ ckv _ x (pk.map Value.string) (bs.map ptr) (a.map Value.string) (c.map Value.string) [] [] hP hk hcv hA1 hA2 hC hck (kids_nil w) (kids_nil w) Iff.rfl (hcp hba) (hcp hbc) (hpx hx)
      (hne hba) ncb (hkne hga) kcb (by simp) (str_one pk) (ptr_one bs) (str_one c) (by simp) lp lb (by simp; omega) lc (by simp) (by simp) (m + 1) rfl (by simp; omega) (by simp; omega)).mono fin
end Go.Proofs.Qxb6601743a
