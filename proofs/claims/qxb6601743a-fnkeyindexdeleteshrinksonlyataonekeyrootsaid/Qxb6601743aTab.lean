import Derived.Test.Qxb6601743aNst
import Derived.Test.Qxb6601743aMrg
namespace Go.Proofs.Qxb6601743a
open Go.RowKit

abbrev int (n : Nat) : Value := .int .i64 (n : Int)

theorem EI : Elem Try.prog 48 3 (.int .i64 0) 8 := ⟨Try.underlying48, by kernel_rfl, fun _ => by kernel_rfl, rfl, rfl, fun _ => by kernel_rfl⟩
theorem Try.info3 : (Try.prog.info? 3).map (fun i => (i.zero, i.size, i.bytes)) = some (some (.int .i64 0), 1, 8) := by kernel_rfl

/-- What the merging way of the table has gathered after k rounds. -/
def mTo (ls : List Nat) (lft s : Nat) : Nat → List Nat
  | 0 => []
  | k + 1 => mTo ls lft s k ++ (if k = lft then [s] else if k = lft + 1 then [] else ls[k]?.toList)

theorem mTo_le (ls : List Nat) (lft s : Nat) : ∀ k, (mTo ls lft s k).length ≤ k
  | 0 => by simp [mTo]
  | k + 1 => by
    have := mTo_le ls lft s k
    rw [mTo, List.length_append]
    split
    · simp; omega
    · split
      · simp; omega
      · cases ls[k]? <;> simp <;> omega

theorem mTo_low (ls : List Nat) (lft s : Nat) (h : lft ≤ ls.length) : ∀ k, k ≤ lft → mTo ls lft s k = ls.take k
  | 0, _ => by simp [mTo]
  | k + 1, hk => by
    rw [mTo, mTo_low ls lft s h k (by omega), if_neg (by omega), if_neg (by omega), List.take_add_one]

theorem mTo_high (ls : List Nat) (lft s : Nat) (h : lft + 2 ≤ ls.length) : ∀ m, mTo ls lft s (lft + 2 + m) = ls.take lft ++ [s] ++ (ls.drop (lft + 2)).take m
  | 0 => by
    show mTo ls lft s (lft + 1 + 1) = _
    rw [mTo, mTo, mTo_low ls lft s (by omega) lft (Nat.le_refl _)]
    simp
  | m + 1 => by
    show mTo ls lft s ((lft + 2 + m) + 1) = _
    rw [mTo, mTo_high ls lft s h m, if_neg (by omega), if_neg (by omega), List.take_add_one, List.getElem?_drop, List.append_assoc]

theorem mTo_all (ls : List Nat) (lft s : Nat) (h : lft + 2 ≤ ls.length) : mTo ls lft s ls.length = ls.take lft ++ [s] ++ ls.drop (lft + 2) := by
  have := mTo_high ls lft s h (ls.length - (lft + 2))
  rw [show lft + 2 + (ls.length - (lft + 2)) = ls.length by omega] at this
  rw [this, List.take_of_length_le (l := ls.drop (lft + 2)) (by simp)]

/-- The case table. -/
def table (ls : List Nat) (i : Nat) : List Nat × Nat :=
  if 0 < i ∧ 31 < ls.getD (i - 1) 0 then ((ls.set (i - 1) (ls.getD (i - 1) 0 - 1)).set i 32, i)
  else if i + 1 < ls.length ∧ 31 < ls.getD (i + 1) 0 then ((ls.set (i + 1) (ls.getD (i + 1) 0 - 1)).set i 32, i)
  else if i + 1 < ls.length then (ls.take i ++ [ls.getD i 0 + ls.getD (i + 1) 0 + 1] ++ ls.drop (i + 2), i)
  else (ls.take (i - 1) ++ [ls.getD (i - 1) 0 + ls.getD i 0 + 1] ++ ls.drop (i + 1), i - 1)

/-- A slice of ints that can be read. -/
def IntV (w : World) (v : Value) (ns : List Nat) : Prop := ∃ b c, v = .slice (some ⟨b, 0, none⟩) ns.length c ∧ ∀ k n, ns[k]? = some n → w.cell? ⟨b, k, none⟩ = some (int n)

theorem IntV.of_blk {w : World} {b c : Nat} {ns : List Nat} {L : List Value} (h : Blk w b 3 (ns.map int ++ L)) : IntV w (.slice (some ⟨b, 0, none⟩) ns.length c) ns :=
  ⟨b, c, rfl, fun k n hk => h.cell (by rw [List.getElem?_append_left (by simpa using (List.getElem?_eq_some_iff.1 hk).1), List.getElem?_map, hk]; rfl)⟩

theorem IntV.of_whole {w : World} {b c n : Nat} {ns : List Nat} (h : Blk w b 3 (ns.map int)) (hn : ns.length = n) : IntV w (.slice (some ⟨b, 0, none⟩) n c) ns := by
  subst hn; exact IntV.of_blk (L := []) (by simpa using h)

theorem make_run {P : Program} {t e : TypeId} {z : Value} {bytes : Nat} (E : Elem P t e z bytes) (L : Int) (l c : Nat) (hL : L = l) (hlc : l ≤ c) (hb : bytes * c ≤ 281474976710656) (h63 : c ≤ 9223372036854775807) (w : World) :
    (Instr.makeSlice t (.int .i64 L) (.int .i64 (c : Int))).run P w = .ok (.slice (some ⟨w.heap.size, 0, none⟩) l c) (w.alloc (.cells (List.replicate c z).toArray e)) := by
  obtain ⟨i, hi, hz, hs1, hby⟩ := info_parts E.info
  subst hL
  have := run_make (P := P) w t e i z E.und hi hz .i64 .i64 l c (by omega) (by omega) (by rw [hby]; have : (bytes : Int) * (c : Int) = ((bytes * c : Nat) : Int) := by simp
                                                                                          omega) (by omega)
  rw [this, hs1, Nat.mul_one, Int.toNat_natCast, Int.toNat_natCast, E.zc]
  have e1 : madeCells #[z] c = (List.replicate c z).toArray := by
    apply Array.ext'
    apply List.ext_getElem
    · simp [madeCells]
    · intro i h1 h2; simp [madeCells, Nat.mod_one]
  rw [e1]

theorem lens_step (ls : List Nat) (n k : Nat) (hk : k < n) (l : Nat) (hl : ls[k]? = some l) :
    (((ls.take k).map int) ++ List.replicate (n - k) (Value.int .i64 0)).set k (int l) = ((ls.take (k + 1)).map int) ++ List.replicate (n - (k + 1)) (Value.int .i64 0) := by
  have hlt := (List.getElem?_eq_some_iff.1 hl).1
  rw [List.set_append, if_neg (by simp; omega), List.take_add_one, hl]
  obtain ⟨m, hm⟩ : ∃ m, n - k = m + 1 := ⟨n - k - 1, by omega⟩
  have e : k - (List.map int (List.take k ls)).length = 0 := by simp; omega
  rw [e, hm, List.replicate_succ, List.set_cons_zero, show n - (k + 1) = m by omega]
  simp only [List.map_append, Option.toList_some, List.map_cons, List.map_nil, List.append_assoc, List.cons_append, List.nil_append]

theorem slice_lo {B b l k : Nat} (h : B ≤ b) : ∀ ad m c, Value.slice (some ⟨b, 0, none⟩) l k = .slice (some ad) m c → B ≤ ad.block := by
  intro ad m c e
  simp at e
  rw [← e.1]; exact h

theorem IntV.chgS {S : List Nat} {w w' : World} {v : Value} {ns : List Nat} (h : IntV w v ns) (c : Chg S w w') (hs : ∀ ad m c, v = .slice (some ad) m c → ad.block ∉ S) : IntV w' v ns := by
  obtain ⟨b, n, rfl, hc⟩ := h
  exact ⟨b, n, rfl, fun k m hk => c.cell (hc k m hk) (show b ∉ S from hs ⟨b, 0, none⟩ _ _ rfl)⟩

theorem own_made (w : World) (k : Nat) (hk : k ≤ 9223372036854775807) : Own (w.alloc (.cells (List.replicate k (Value.int .i64 0)).toArray 3)) 3 (.slice (some ⟨w.heap.size, 0, none⟩) 0 k) w.heap.size (([] : List Nat).map int) :=
  ⟨List.replicate k (.int .i64 0), by simp, by simpa using Blk.new w (List.replicate k (.int .i64 0)) 3, by simpa using hk⟩

theorem app_step {w wr W w3 : World} {ls N : List Nat} {v3 : Value} {g2 g3 : Nat} (hbl : Blk wr w.heap.size 3 (ls.map int)) (hcc : Chg [] w wr) (g1 : Chg [] wr W)
    (hor : (g3 = g2 ∧ Chg [g2] W w3 ∧ w3.heap.size = W.heap.size) ∨ (g3 = W.heap.size ∧ Chg [] W w3 ∧ w3.heap.size = W.heap.size + 1)) (hg1 : g2 ≠ w.heap.size) (hg2 : w.heap.size ≤ g2) (ho : Own w3 3 v3 g3 (N.map int)) :
    Blk w3 w.heap.size 3 (ls.map int) ∧ (∃ g, Own w3 3 v3 g (N.map int) ∧ g ≠ w.heap.size ∧ w.heap.size ≤ g) ∧ Chg [] w w3 := by
  have hB := hbl.chg g1 (by simp)
  have hlt := hB.lt
  rcases hor with ⟨rfl, h, _⟩ | ⟨rfl, h, _⟩
  · exact ⟨hB.chg h (by simpa using hg1.symm), ⟨_, ho, hg1, hg2⟩, (hcc.trans g1).then h (by simpa using hg2)⟩
  · exact ⟨hB.chg h (by simp), ⟨_, ho, by omega, by omega⟩, (hcc.trans g1).trans h⟩

theorem set_int (ls : List Nat) (k : Nat) (v : Int) (m : Nat) (h : v = m) : (ls.map int).set k (.int .i64 v) = (ls.set k m).map int := by
  subst h; rw [List.map_set]

theorem getD_of {ls : List Nat} {k l : Nat} (h : ls[k]? = some l) : ls.getD k 0 = l := by rw [List.getD_eq_getElem?_getD, h]; rfl

theorem table_left {ls : List Nat} {i l : Nat} (h0 : 0 < i) (h : ls[i - 1]? = some l) (hl : 31 < l) : table ls i = ((ls.set (i - 1) (l - 1)).set i 32, i) := by
  simp only [table, getD_of h]; rw [if_pos ⟨h0, hl⟩]

theorem table_right {ls : List Nat} {i l : Nat} (h0 : i = 0 ∨ ∃ m, ls[i - 1]? = some m ∧ m ≤ 31) (h : ls[i + 1]? = some l) (hl : 31 < l) : table ls i = ((ls.set (i + 1) (l - 1)).set i 32, i) := by
  have hlt := (List.getElem?_eq_some_iff.1 h).1
  have hn : ¬ (0 < i ∧ 31 < ls.getD (i - 1) 0) := by
    rintro ⟨a, b⟩
    rcases h0 with rfl | ⟨m, hm, hm2⟩
    · omega
    · rw [getD_of hm] at b; omega
  unfold table
  rw [if_neg hn, getD_of h, if_pos ⟨hlt, hl⟩]

theorem table_merge {ls : List Nat} {i l m : Nat} (h0 : i = 0 ∨ ∃ m, ls[i - 1]? = some m ∧ m ≤ 31) (hi : ls[i]? = some m) (h : ls[i + 1]? = some l) (hl : l ≤ 31) : table ls i = (mTo ls i (m + l + 1) ls.length, i) := by
  have hlt := (List.getElem?_eq_some_iff.1 h).1
  have hn : ¬ (0 < i ∧ 31 < ls.getD (i - 1) 0) := by
    rintro ⟨a, b⟩
    rcases h0 with rfl | ⟨m, hm, hm2⟩
    · omega
    · rw [getD_of hm] at b; omega
  unfold table
  rw [if_neg hn, getD_of h, if_neg (by omega), if_pos hlt, getD_of hi, mTo_all _ _ _ (by omega)]

theorem table_last {ls : List Nat} {i l m : Nat} (h0 : 0 < i) (hlast : ls.length = i + 1) (h : ls[i - 1]? = some l) (hl : l ≤ 31) (hi : ls[i]? = some m) : table ls i = (mTo ls (i - 1) (l + m + 1) ls.length, i - 1) := by
  unfold table
  rw [if_neg (by rw [getD_of h]; omega), if_neg (by omega), if_neg (by omega), getD_of h, getD_of hi, mTo_all _ _ _ (by omega), show i - 1 + 2 = i + 1 by omega]

set_option maxHeartbeats 4000000 in
set_option maxRecDepth 100000 in
theorem fillTable_any (ad : Addr) (ccap : Nat) (xss : List (Value × List ByteArray)) (i : Nat) (w : World) (hn : Nest w (some ad) xss)
    (hl2 : xss.length ≤ 1000) (hlo : 2 ≤ xss.length) (hp : ∀ p ∈ xss, 31 ≤ p.2.length ∧ p.2.length ≤ 63) (hi : i < xss.length) (h31 : (xss.map (·.2.length))[i]? = some 31) :
    Calls Try.prog 34 #[.slice (some ad) xss.length ccap, .int .i64 i] w fun e w' => ∃ v, e = .returned (.tuple #[v, .int .i64 (table (xss.map (·.2.length)) i).2]) ∧
      IntV w' v (table (xss.map (·.2.length)) i).1 ∧ (∀ ad m c, v = .slice (some ad) m c → w.heap.size ≤ ad.block) ∧ Chg [] w w' := by
  obtain ⟨ls, hls⟩ : ∃ ls, ls = xss.map (·.2.length) := ⟨_, rfl⟩
  have hL : ls.length = xss.length := by rw [hls]; simp
  have hall : ∀ k l, ls[k]? = some l → 31 ≤ l ∧ l ≤ 63 := fun k l hk => by
    rw [hls, List.getElem?_map] at hk
    cases hx : xss[k]? with
    | none => rw [hx] at hk; cases hk
    | some p =>
      rw [hx] at hk
      simp at hk
      subst hk
      exact hp p (List.mem_of_getElem? hx)
  have hread : ∀ k, k < xss.length → ∃ b off a2 l c2, ad = ⟨b, off, none⟩ ∧ w.cell? ⟨b, off + k, none⟩ = some (.slice a2 l c2) ∧ ls[k]? = some l := fun k hk => by
    obtain ⟨b, off, had, hc, a2, c2, hv, _⟩ := hn k xss[k].1 xss[k].2 (by simp [hk])
    refine ⟨b, off, a2, xss[k].2.length, c2, by simpa using had, by rw [hc, hv], ?_⟩
    rw [hls, List.getElem?_map]
    simp [hk]
  rw [← hls] at h31 ⊢
  clear hls hn hp
  obtain ⟨n, hnn⟩ : ∃ n, n = xss.length := ⟨_, rfl⟩
  rw [← hnn] at hl2 hlo hi hread hL ⊢
  clear hnn
  have HL : Hid (ls.length = n) := hL
  clear hL
  have HR : Hid (∀ k, k < n → ∃ b off a2 l c2, ad = ⟨b, off, none⟩ ∧ w.cell? ⟨b, off + k, none⟩ = some (.slice a2 l c2) ∧ ls[k]? = some l) := hread
  have HA : Hid (∀ k l, ls[k]? = some l → 31 ≤ l ∧ l ≤ 63) := hall
  have H31 : Hid (ls[i]? = some 31) := h31
  clear hread hall h31
  have hmk := run_make_row' (P := Try.prog) 48 3 (.int .i64 0) 8 Try.underlying48 Try.info3 rfl .i64 .i64 n (by omega) (by omega)
  go_enter Try.func34, Try.ntmps34
  go_wp2
  go_loopw [8] (fun t wr => ∃ k : Nat, k ≤ n ∧ t = .int .i64 k ∧ Blk wr w.heap.size 3 (((ls.take k).map int) ++ List.replicate (n - k) (.int .i64 0)) ∧ Chg [] w wr) (fun t _ => n - (intOf t).toNat)
  case atStart => exact ⟨0, Nat.zero_le _, rfl, by simpa using made_blk2 w (.int .i64 0) n 3, (Chg.refl _ _).alloc _⟩
  case round =>
    obtain ⟨k, hk, rfl, hb, hc⟩ := hrel
    by_cases hlt : k < n
    · obtain ⟨b, off, a2, l, c2, rfl, hc0, hlk⟩ := HR.out k hlt
      have hcell := hc.cell hc0
      have hcell2 : wr.cell? ⟨w.heap.size, k, none⟩ = some (.int .i64 0) := by
        apply hb.cell
        rw [List.getElem?_append_right (by simp; omega)]
        have hh := HL.out
        simp [List.getElem?_replicate]; omega
      have hfr := hb.frozen k
      have hb' := hb.set k (int l)
      rw [lens_step ls n k hlt l hlk] at hb'
      have R : Hid (Blk (wr.setCell ⟨w.heap.size, k, none⟩ (int l)) w.heap.size 3 (((ls.take (k + 1)).map int) ++ List.replicate (n - (k + 1)) (.int .i64 0)) ∧ Chg [] w (wr.setCell ⟨w.heap.size, k, none⟩ (int l))) :=
        ⟨hb', hc.setCell (Or.inr (Nat.le_refl _)) _⟩
      clear hb hc hb' hc0 hlk
      go_wp2
      go_roundw
      case rel => exact ⟨k + 1, by omega, by go_num, R.out.1, R.out.2⟩
      case measure => simp [intOf]; omega
    · have hkn : k = n := by omega
      subst hkn
      have hb1 : Blk wr w.heap.size 3 (ls.map int) := by
        have hh := HL.out
        rw [List.take_of_length_le (by omega), Nat.sub_self] at hb
        simpa using hb
      clear hb
      have cellOf : ∀ {W : World} {M : List Nat} (t l : Nat), Blk W w.heap.size 3 (M.map int) → M[t]? = some l → W.cell? ⟨w.heap.size, t, none⟩ = some (int l) := fun t l hB h => hB.cell (by rw [List.getElem?_map, h]; rfl)
      have hcl := Chg.setCell (S := []) (a := w) (w := wr) hc (p := ⟨w.heap.size, 0, none⟩) (Or.inr (Nat.le_refl _))
      clear hcl
      have c31 := cellOf i 31 hb1 H31.out
      have fr := hb1.frozen
      have e0 : IntKind.i64.wrap ((i : Int) - 1) = (i : Int) - 1 := by rw [IntKind.wrap_i64]; omega
      by_cases hA : 0 < i ∧ ∃ l, ls[i - 1]? = some l ∧ 31 < l
      · obtain ⟨hi0, l, hl, hl31⟩ := hA
        have hl63 := HA.out _ _ hl
        have c30 := cellOf (i - 1) l hb1 hl
        have HT : Hid (table ls i = ((ls.set (i - 1) (l - 1)).set i 32, i)) := table_left hi0 hl hl31
        have b1 : (0 : Int) < (i : Int) := by omega
        have b2 : ((i : Int) - 1).toNat = i - 1 := by omega
        have b3 : (1 : Int) ≤ (i : Int) := by omega
        have b4 : (i : Int) - 1 < (k : Int) := by omega
        have b5 : (31 : Int) < (l : Int) := by omega
        have hB2 := hb1.set (i - 1) (.int .i64 ((l : Int) - 1))
        rw [set_int ls (i - 1) _ (l - 1) (by omega)] at hB2
        have hne : (ls.set (i - 1) (l - 1))[i]? = some 31 := by rw [List.getElem?_set_ne (by omega)]; exact H31.out
        have c32 := cellOf i 31 hB2 hne
        have fr2 := hB2.frozen i
        have hB3 := hB2.set i (.int .i64 32)
        rw [set_int _ i (32 : Int) 32 rfl] at hB3
        have R : Hid (Blk ((wr.setCell ⟨w.heap.size, i - 1, none⟩ (.int .i64 ((l : Int) - 1))).setCell ⟨w.heap.size, i, none⟩ (.int .i64 32)) w.heap.size 3 (((ls.set (i - 1) (l - 1)).set i 32).map int) ∧
            Chg [] w ((wr.setCell ⟨w.heap.size, i - 1, none⟩ (.int .i64 ((l : Int) - 1))).setCell ⟨w.heap.size, i, none⟩ (.int .i64 32))) :=
          ⟨hB3, (hc.setCell (Or.inr (Nat.le_refl _)) _).setCell (Or.inr (Nat.le_refl _)) _⟩
        clear hB2 hB3 hne hl hb1 hc cellOf
        go_wp2
        go_ret2
        rw [HT.out]
        refine ⟨_, rfl, ?_, slice_lo (Nat.le_refl _), R.out.2⟩
        exact IntV.of_whole R.out.1 (by simp [HL.out])
      have hA' : i = 0 ∨ ∃ m, ls[i - 1]? = some m ∧ m ≤ 31 := by
        by_cases h0 : i = 0
        · exact Or.inl h0
        · right
          have hlt : i - 1 < ls.length := by rw [HL.out]; omega
          refine ⟨ls[i - 1], by simp [hlt], ?_⟩
          have h1 : ¬ 31 < ls[i - 1] := fun h => hA ⟨by omega, ls[i - 1], by simp [hlt], h⟩
          omega
      have HA' : Hid (i = 0 ∨ ∃ m, ls[i - 1]? = some m ∧ m ≤ 31) := hA'
      clear hA hA'
      have bA : ¬ (0 : Int) < (i : Int) ∧ decide ((0 : Int) < (i : Int)) = false ∨ (0 : Int) < (i : Int) ∧ ((i : Int) - 1).toNat = i - 1 ∧ (1 : Int) ≤ (i : Int) ∧ (i : Int) - 1 < (k : Int) ∧ ∃ m : Nat, wr.cell? ⟨w.heap.size, i - 1, none⟩ = some (int m) ∧ ¬ (31 : Int) < (m : Int) ∧ decide ((31 : Int) < (m : Int)) = false := by
        rcases HA'.out with h | ⟨m, hm, hm2⟩
        · left; simp; omega
        · by_cases h0 : 0 < i
          · right; exact ⟨by omega, by omega, by omega, by omega, m, cellOf _ _ hb1 hm, by omega, by simp; omega⟩
          · left; simp; omega
      by_cases hB : ∃ l, ls[i + 1]? = some l ∧ 31 < l
      · obtain ⟨l, hl, hl31⟩ := hB
        have hl63 := HA.out _ _ hl
        have hlt2 : i + 1 < k := by have := (List.getElem?_eq_some_iff.1 hl).1; rw [HL.out] at this; exact this
        have c30 := cellOf (i + 1) l hb1 hl
        have HT : Hid (table ls i = ((ls.set (i + 1) (l - 1)).set i 32, i)) := table_right HA'.out hl hl31
        have b2 : ((i : Int) + 1).toNat = i + 1 := by omega
        have b4 : (i : Int) + 1 < (k : Int) := by omega
        have b5 : (31 : Int) < (l : Int) := by omega
        have hB2 := hb1.set (i + 1) (.int .i64 ((l : Int) - 1))
        rw [set_int ls (i + 1) _ (l - 1) (by omega)] at hB2
        have hne : (ls.set (i + 1) (l - 1))[i]? = some 31 := by rw [List.getElem?_set_ne (by omega)]; exact H31.out
        have c32 := cellOf i 31 hB2 hne
        have fr2 := hB2.frozen i
        have hB3 := hB2.set i (.int .i64 32)
        rw [set_int _ i (32 : Int) 32 rfl] at hB3
        have R : Hid (Blk ((wr.setCell ⟨w.heap.size, i + 1, none⟩ (.int .i64 ((l : Int) - 1))).setCell ⟨w.heap.size, i, none⟩ (.int .i64 32)) w.heap.size 3 (((ls.set (i + 1) (l - 1)).set i 32).map int) ∧
            Chg [] w ((wr.setCell ⟨w.heap.size, i + 1, none⟩ (.int .i64 ((l : Int) - 1))).setCell ⟨w.heap.size, i, none⟩ (.int .i64 32))) :=
          ⟨hB3, (hc.setCell (Or.inr (Nat.le_refl _)) _).setCell (Or.inr (Nat.le_refl _)) _⟩
        clear hB2 hB3 hne hl hb1 hc cellOf
        rcases bA with ⟨bA, bA'⟩ | ⟨b6, b7, b8, b9, m, cm, bm, bm'⟩
        all_goals
          go_wp2
          go_ret2
          rw [HT.out]
          refine ⟨_, rfl, ?_, slice_lo (Nat.le_refl _), R.out.2⟩
          exact IntV.of_whole R.out.1 (by simp [HL.out])
      -- the merging ways
      obtain ⟨lft, hlf⟩ : ∃ lft : Nat, (lft = i ∧ i + 1 < k) ∨ (i = lft + 1 ∧ i + 1 = k) := by
        by_cases h : i + 1 < k
        · exact ⟨i, Or.inl ⟨rfl, h⟩⟩
        · exact ⟨i - 1, Or.inr ⟨by omega, by omega⟩⟩
      have hl1 : lft + 1 < k := by omega
      obtain ⟨x, hx⟩ : ∃ x, ls[lft]? = some x := ⟨ls[lft]'(by rw [HL.out]; omega), by simp⟩
      obtain ⟨y, hy⟩ : ∃ y, ls[lft + 1]? = some y := ⟨ls[lft + 1]'(by rw [HL.out]; omega), by simp⟩
      have hx63 := HA.out _ _ hx
      have hy63 := HA.out _ _ hy
      have HT : Hid (table ls i = (mTo ls lft (x + y + 1) ls.length, lft)) := by
        rcases hlf with ⟨rfl, h⟩ | ⟨h1, h2⟩
        · exact table_merge HA'.out hx hy (by have h3 : ¬ 31 < y := fun h' => hB ⟨y, hy, h'⟩; omega)
        · subst h1
          rcases HA'.out with h | ⟨m, hm, hm2⟩
          · omega
          · rw [Nat.add_sub_cancel, hx] at hm
            obtain rfl : x = m := by simpa using hm
            exact table_last (by omega) (by rw [HL.out]; omega) hx hm2 hy
      have bB : (i + 1 < k ∧ (i : Int) + 1 < (k : Int) ∧ ((i : Int) + 1).toNat = i + 1 ∧ ∃ l : Nat, wr.cell? ⟨w.heap.size, i + 1, none⟩ = some (int l) ∧ ¬ (31 : Int) < (l : Int) ∧ decide ((31 : Int) < (l : Int)) = false) ∨ (¬ (i : Int) + 1 < (k : Int) ∧ decide ((i : Int) + 1 < (k : Int)) = false ∧ (k : Int) ≤ (i : Int) + 1) := by
        by_cases h : i + 1 < k
        · left
          have hlt : i + 1 < ls.length := by rw [HL.out]; exact h
          have h3 : ¬ 31 < ls[i + 1] := fun h' => hB ⟨ls[i + 1], by simp [hlt], h'⟩
          exact ⟨h, by omega, by omega, ls[i + 1], cellOf _ _ hb1 (by simp [hlt]), by omega, by simp; omega⟩
        · right; exact ⟨by omega, by simp; omega, by omega⟩
      have CX := fun (W : World) (hW : Blk W w.heap.size 3 (ls.map int)) => And.intro (cellOf lft x hW hx) (cellOf (lft + 1) y hW hy)
      have HC : Hid (∀ (W : World) (hW : Blk W w.heap.size 3 (ls.map int)), W.cell? ⟨w.heap.size, lft, none⟩ = some (int x) ∧ W.cell? ⟨w.heap.size, lft + 1, none⟩ = some (int y)) := CX
      have HCO : Hid (∀ {W : World} (t l : Nat), Blk W w.heap.size 3 (ls.map int) → ls[t]? = some l → W.cell? ⟨w.heap.size, t, none⟩ = some (int l)) := fun t l hB h => cellOf t l hB h
      have hmk2 := make_run EI 0 0 k rfl (by omega) (by omega) (by omega)
      have HLF : Hid ((lft = i ∧ i + 1 < k) ∨ (i = lft + 1 ∧ i + 1 = k)) := hlf
      have el1 : IntKind.i64.wrap (lft : Int) = (lft : Int) := by rw [IntKind.wrap_i64]; omega
      have el2 : IntKind.i64.wrap ((lft : Int) + 1) = (lft : Int) + 1 := by rw [IntKind.wrap_i64]; omega
      clear hB CX cellOf hx hy
      rcases HLF.out with ⟨h1, h2⟩ | ⟨h1, h2⟩
      · subst h1
        rcases bB with ⟨_, b6, b7, l, cl, bl, bl'⟩ | ⟨b6, _⟩
        case inr => omega
        have bge : ¬ (k : Int) ≤ (lft : Int) + 1 := by omega
        rcases bA with ⟨bA, bA'⟩ | ⟨a6, a7, a8, a9, m, cm, bm, bm'⟩
        · go_wp2
          go_loopw [10, 11] (fun v t wq => ∃ k2 : Nat, k2 ≤ k ∧ t = .int .i64 k2 ∧ Blk wq w.heap.size 3 (ls.map int) ∧ (∃ g2, Own wq 3 v g2 ((mTo ls lft (x + y + 1) k2).map int) ∧ g2 ≠ w.heap.size ∧ w.heap.size ≤ g2) ∧ Chg [] w wq) (fun _ t _ => k - (intOf t).toNat)
          case atStart => exact ⟨0, Nat.zero_le _, rfl, hb1.alloc _, ⟨wr.heap.size, own_made wr k (by omega), by have := hb1.lt; omega, hc.size⟩, hc.alloc _⟩
          case round =>
            obtain ⟨k2, hk2, rfl, hbl, ⟨g2, ho, hg1, hg2⟩, hcc⟩ := hrel
            have hmle := mTo_le ls lft (x + y + 1) k2
            by_cases hlt2 : k2 < k
            · obtain ⟨MT, hMT⟩ : ∃ MT, MT = mTo ls lft (x + y + 1) k2 := ⟨_, rfl⟩
              rw [← hMT] at ho hmle
              have HMT : Hid (MT = mTo ls lft (x + y + 1) k2) := hMT
              clear hMT
              obtain ⟨sp, rfl, hoB, hom⟩ := id ho
              rw [List.length_map] at hom ⊢
              by_cases hkL : k2 = lft
              · have t1 : ((k2 : Int) == (lft : Int)) = true := by rw [beq_iff_eq]; omega
                obtain ⟨q1, q2⟩ := HC.out _ hbl
                have t3 : (lft : Int) < (k : Int) := by omega
                have t4 : (lft : Int) + 1 < (k : Int) := by omega
                have t5 : (0 : Int) ≤ (lft : Int) + 1 := by omega
                have t6 : ((lft : Int) + 1).toNat = lft + 1 := by omega
                have t7 : IntKind.i64.wrap ((x : Int) + (y : Int)) = (x : Int) + (y : Int) := by rw [IntKind.wrap_i64]; omega
                have t8 : IntKind.i64.wrap ((x : Int) + (y : Int) + 1) = (x : Int) + (y : Int) + 1 := by rw [IntKind.wrap_i64]; omega
                have HK : Hid (k2 = lft) := hkL
                clear hkL
                go_wp2
                refine wp_region_parts (fun w' => w'.cell? ⟨w.heap.size, lft, none⟩ = some (int x) ∧ w'.cell? ⟨w.heap.size, lft + 1, none⟩ = some (int y))
                  [(0, false), (1, false), (2, false), (3, false), (4, true), (5, false), (6, false), (7, false), (8, false), (9, true), (10, false), (11, false)] [(12, true), (13, true), (14, true)] (by kernel_rfl) (fun _ _ _ _ _ h => h) (by kernel_rfl) ⟨q1, q2⟩ ?_
                simp only [pick, List.map_cons, List.map_nil, List.getElem?_toArray, List.getElem?_cons_zero, List.getElem?_cons_succ]
                repeat (refine Heads.cons (v := ?_) ?_ ?_; rotate_left 1; (· (intro w' hw'; (first | (obtain ⟨_, _⟩ := hw' rfl; clear hw') | clear hw'); go_simp; (try with_reducible rfl); done)); simp only [Act.put, List.setIfInBounds_toArray, List.set_cons_zero, List.set_cons_succ])
                refine Heads.nil ?_
                refine Rest.cons (fun K hK => ?_)
                go_simp
                refine hK.out _ _ (fun h => by cases h) ?_
                clear hK K
                have g1 : Chg [] wr ((wr.alloc (.cells #[.int .i64 ((x : Int) + (y : Int) + 1)] 3)).drew) := ((Chg.refl _ _).alloc _).drew
                have lx : Blk ((wr.alloc (.cells #[.int .i64 ((x : Int) + (y : Int) + 1)] 3)).drew) wr.heap.size 3 [.int .i64 ((x : Int) + (y : Int) + 1)] := Blk.new wr [.int .i64 ((x : Int) + (y : Int) + 1)] 3
                obtain ⟨v3, g3, w3, hr3, ho3, hor3⟩ := append_blk EI (hoB.chg g1 (by simp)) (by rw [List.length_map]; exact hom) ⟨wr.heap.size, 0, none⟩ 1 1 [.int .i64 ((x : Int) + (y : Int) + 1)] rfl (lx.cells 0 [.int .i64 ((x : Int) + (y : Int) + 1)] (fun j v hj => by simpa using hj)) (by simp [Value.oneCell']) (by rw [List.length_map]; omega) (by rw [List.length_map]; omega)
                rw [List.length_map] at hr3
                refine Rest.cons (fun K hK => wp_append_eq _ _ 48 48 rfl _ _ rfl rfl hr3 ?_)
                refine hK.out _ _ (fun h => by cases h) ?_
                clear hK K hr3
                simp only [Act.put, List.setIfInBounds_toArray, List.set_cons_zero, List.set_cons_succ]
                refine Rest.cons (fun K hK => ?_)
                go_simp
                refine hK.out _ _ (fun h => by cases h) (Rest.nil ?_)
                clear hK K
                have R : Hid (Blk w3 w.heap.size 3 (ls.map int) ∧ (∃ g2, Own w3 3 v3 g2 ((mTo ls lft (x + y + 1) (k2 + 1)).map int) ∧ g2 ≠ w.heap.size ∧ w.heap.size ≤ g2) ∧ Chg [] w w3) := by
                  refine app_step hbl hcc g1 hor3 hg1 hg2 ?_
                  rw [mTo, ← HMT.out, if_pos HK.out, List.map_append]
                  have e9 : [int (x + y + 1)] = [Value.int .i64 ((x : Int) + (y : Int) + 1)] := by simp [int]
                  simpa [e9] using ho3
                clear ho3 hor3 g1 lx hoB ho hbl hcc
                go_wp2
                go_roundw
                case rel => exact ⟨k2 + 1, by omega, by go_num, R.out.1, R.out.2.1, R.out.2.2⟩
                case measure => simp [intOf]; omega
              · have t1 : ((k2 : Int) == (lft : Int)) = false := by rw [beq_eq_false_iff_ne]; omega
                by_cases hkM : k2 = lft + 1
                · have t2 : ((k2 : Int) != (lft : Int) + 1) = false := by rw [bne_eq_false_iff_eq]; omega
                  have R : Hid (Blk wr w.heap.size 3 (ls.map int) ∧ (∃ g2', Own wr 3 (.slice (some ⟨g2, 0, none⟩) MT.length (MT.length + sp.length)) g2' ((mTo ls lft (x + y + 1) (k2 + 1)).map int) ∧ g2' ≠ w.heap.size ∧ w.heap.size ≤ g2') ∧ Chg [] w wr) := by
                    refine ⟨hbl, ⟨g2, ?_, hg1, hg2⟩, hcc⟩
                    rw [mTo, ← HMT.out, if_neg hkL, if_pos hkM, List.append_nil]
                    rw [List.length_map] at ho
                    exact ho
                  clear hoB ho hbl hcc hkL hkM
                  go_wp2
                  go_roundw
                  case rel => exact ⟨k2 + 1, by omega, by go_num, R.out.1, R.out.2.1, R.out.2.2⟩
                  case measure => simp [intOf]; omega
                · have t2 : ((k2 : Int) != (lft : Int) + 1) = true := by rw [bne_iff_ne]; omega
                  obtain ⟨z, hz⟩ : ∃ z, ls[k2]? = some z := ⟨ls[k2]'(by rw [HL.out]; omega), by simp⟩
                  have q1 := HCO.out k2 z hbl hz
                  have g1 : Chg [] wr (wr.alloc (.cells #[int z] 3)) := (Chg.refl _ _).alloc _
                  have lx : Blk (wr.alloc (.cells #[int z] 3)) wr.heap.size 3 [int z] := Blk.new wr [int z] 3
                  obtain ⟨v3, g3, w3, hr3, ho3, hor3⟩ := append_blk EI (hoB.chg g1 (by simp)) (by rw [List.length_map]; exact hom) ⟨wr.heap.size, 0, none⟩ 1 1 [int z] rfl (lx.cells 0 [int z] (fun j v hj => by simpa using hj)) (by simp [Value.oneCell']) (by rw [List.length_map]; omega) (by rw [List.length_map]; omega)
                  rw [List.length_map] at hr3
                  have R : Hid (Blk w3 w.heap.size 3 (ls.map int) ∧ (∃ g2, Own w3 3 v3 g2 ((mTo ls lft (x + y + 1) (k2 + 1)).map int) ∧ g2 ≠ w.heap.size ∧ w.heap.size ≤ g2) ∧ Chg [] w w3) := by
                    refine app_step hbl hcc g1 hor3 hg1 hg2 ?_
                    rw [mTo, ← HMT.out, if_neg hkL, if_neg hkM, hz, List.map_append]
                    simpa using ho3
                  clear ho3 hor3 g1 lx hoB ho hbl hcc hkL hkM hz
                  go_wp2_with (at_builtin; refine Lib.wpList_append_run _ rfl _ _ _ _ rfl _ _ rfl rfl _ _ (hr3 _) ?_)
                  go_roundw
                  case rel => exact ⟨k2 + 1, by omega, by go_num, R.out.1, R.out.2.1, R.out.2.2⟩
                  case measure => simp [intOf]; omega
            · obtain rfl : k2 = k := by omega
              obtain ⟨sp, rfl, hoB, hom⟩ := id ho
              rw [List.length_map]
              have HF : Hid (Blk wr g2 3 ((mTo ls lft (x + y + 1) k2).map int ++ sp) ∧ Chg [] w wr ∧ w.heap.size ≤ g2) := ⟨hoB, hcc, hg2⟩
              clear hoB ho hbl hcc
              go_wp2
              go_ret2
              rw [HT.out]
              refine ⟨_, rfl, ?_, slice_lo HF.out.2.2, HF.out.2.1⟩
              show IntV wr _ (mTo ls lft (x + y + 1) ls.length)
              rw [HL.out]
              exact IntV.of_blk HF.out.1
        · go_wp2
          go_loopw [10, 11] (fun v t wq => ∃ k2 : Nat, k2 ≤ k ∧ t = .int .i64 k2 ∧ Blk wq w.heap.size 3 (ls.map int) ∧ (∃ g2, Own wq 3 v g2 ((mTo ls lft (x + y + 1) k2).map int) ∧ g2 ≠ w.heap.size ∧ w.heap.size ≤ g2) ∧ Chg [] w wq) (fun _ t _ => k - (intOf t).toNat)
          case atStart => exact ⟨0, Nat.zero_le _, rfl, hb1.alloc _, ⟨wr.heap.size, own_made wr k (by omega), by have := hb1.lt; omega, hc.size⟩, hc.alloc _⟩
          case round =>
            obtain ⟨k2, hk2, rfl, hbl, ⟨g2, ho, hg1, hg2⟩, hcc⟩ := hrel
            have hmle := mTo_le ls lft (x + y + 1) k2
            by_cases hlt2 : k2 < k
            · obtain ⟨MT, hMT⟩ : ∃ MT, MT = mTo ls lft (x + y + 1) k2 := ⟨_, rfl⟩
              rw [← hMT] at ho hmle
              have HMT : Hid (MT = mTo ls lft (x + y + 1) k2) := hMT
              clear hMT
              obtain ⟨sp, rfl, hoB, hom⟩ := id ho
              rw [List.length_map] at hom ⊢
              by_cases hkL : k2 = lft
              · have t1 : ((k2 : Int) == (lft : Int)) = true := by rw [beq_iff_eq]; omega
                obtain ⟨q1, q2⟩ := HC.out _ hbl
                have t3 : (lft : Int) < (k : Int) := by omega
                have t4 : (lft : Int) + 1 < (k : Int) := by omega
                have t5 : (0 : Int) ≤ (lft : Int) + 1 := by omega
                have t6 : ((lft : Int) + 1).toNat = lft + 1 := by omega
                have t7 : IntKind.i64.wrap ((x : Int) + (y : Int)) = (x : Int) + (y : Int) := by rw [IntKind.wrap_i64]; omega
                have t8 : IntKind.i64.wrap ((x : Int) + (y : Int) + 1) = (x : Int) + (y : Int) + 1 := by rw [IntKind.wrap_i64]; omega
                have HK : Hid (k2 = lft) := hkL
                clear hkL
                go_wp2
                refine wp_region_parts (fun w' => w'.cell? ⟨w.heap.size, lft, none⟩ = some (int x) ∧ w'.cell? ⟨w.heap.size, lft + 1, none⟩ = some (int y))
                  [(0, false), (1, false), (2, false), (3, false), (4, true), (5, false), (6, false), (7, false), (8, false), (9, true), (10, false), (11, false)] [(12, true), (13, true), (14, true)] (by kernel_rfl) (fun _ _ _ _ _ h => h) (by kernel_rfl) ⟨q1, q2⟩ ?_
                simp only [pick, List.map_cons, List.map_nil, List.getElem?_toArray, List.getElem?_cons_zero, List.getElem?_cons_succ]
                repeat (refine Heads.cons (v := ?_) ?_ ?_; rotate_left 1; (· (intro w' hw'; (first | (obtain ⟨_, _⟩ := hw' rfl; clear hw') | clear hw'); go_simp; (try with_reducible rfl); done)); simp only [Act.put, List.setIfInBounds_toArray, List.set_cons_zero, List.set_cons_succ])
                refine Heads.nil ?_
                refine Rest.cons (fun K hK => ?_)
                go_simp
                refine hK.out _ _ (fun h => by cases h) ?_
                clear hK K
                have g1 : Chg [] wr ((wr.alloc (.cells #[.int .i64 ((x : Int) + (y : Int) + 1)] 3)).drew) := ((Chg.refl _ _).alloc _).drew
                have lx : Blk ((wr.alloc (.cells #[.int .i64 ((x : Int) + (y : Int) + 1)] 3)).drew) wr.heap.size 3 [.int .i64 ((x : Int) + (y : Int) + 1)] := Blk.new wr [.int .i64 ((x : Int) + (y : Int) + 1)] 3
                obtain ⟨v3, g3, w3, hr3, ho3, hor3⟩ := append_blk EI (hoB.chg g1 (by simp)) (by rw [List.length_map]; exact hom) ⟨wr.heap.size, 0, none⟩ 1 1 [.int .i64 ((x : Int) + (y : Int) + 1)] rfl (lx.cells 0 [.int .i64 ((x : Int) + (y : Int) + 1)] (fun j v hj => by simpa using hj)) (by simp [Value.oneCell']) (by rw [List.length_map]; omega) (by rw [List.length_map]; omega)
                rw [List.length_map] at hr3
                refine Rest.cons (fun K hK => wp_append_eq _ _ 48 48 rfl _ _ rfl rfl hr3 ?_)
                refine hK.out _ _ (fun h => by cases h) ?_
                clear hK K hr3
                simp only [Act.put, List.setIfInBounds_toArray, List.set_cons_zero, List.set_cons_succ]
                refine Rest.cons (fun K hK => ?_)
                go_simp
                refine hK.out _ _ (fun h => by cases h) (Rest.nil ?_)
                clear hK K
                have R : Hid (Blk w3 w.heap.size 3 (ls.map int) ∧ (∃ g2, Own w3 3 v3 g2 ((mTo ls lft (x + y + 1) (k2 + 1)).map int) ∧ g2 ≠ w.heap.size ∧ w.heap.size ≤ g2) ∧ Chg [] w w3) := by
                  refine app_step hbl hcc g1 hor3 hg1 hg2 ?_
                  rw [mTo, ← HMT.out, if_pos HK.out, List.map_append]
                  have e9 : [int (x + y + 1)] = [Value.int .i64 ((x : Int) + (y : Int) + 1)] := by simp [int]
                  simpa [e9] using ho3
                clear ho3 hor3 g1 lx hoB ho hbl hcc
                go_wp2
                go_roundw
                case rel => exact ⟨k2 + 1, by omega, by go_num, R.out.1, R.out.2.1, R.out.2.2⟩
                case measure => simp [intOf]; omega
              · have t1 : ((k2 : Int) == (lft : Int)) = false := by rw [beq_eq_false_iff_ne]; omega
                by_cases hkM : k2 = lft + 1
                · have t2 : ((k2 : Int) != (lft : Int) + 1) = false := by rw [bne_eq_false_iff_eq]; omega
                  have R : Hid (Blk wr w.heap.size 3 (ls.map int) ∧ (∃ g2', Own wr 3 (.slice (some ⟨g2, 0, none⟩) MT.length (MT.length + sp.length)) g2' ((mTo ls lft (x + y + 1) (k2 + 1)).map int) ∧ g2' ≠ w.heap.size ∧ w.heap.size ≤ g2') ∧ Chg [] w wr) := by
                    refine ⟨hbl, ⟨g2, ?_, hg1, hg2⟩, hcc⟩
                    rw [mTo, ← HMT.out, if_neg hkL, if_pos hkM, List.append_nil]
                    rw [List.length_map] at ho
                    exact ho
                  clear hoB ho hbl hcc hkL hkM
                  go_wp2
                  go_roundw
                  case rel => exact ⟨k2 + 1, by omega, by go_num, R.out.1, R.out.2.1, R.out.2.2⟩
                  case measure => simp [intOf]; omega
                · have t2 : ((k2 : Int) != (lft : Int) + 1) = true := by rw [bne_iff_ne]; omega
                  obtain ⟨z, hz⟩ : ∃ z, ls[k2]? = some z := ⟨ls[k2]'(by rw [HL.out]; omega), by simp⟩
                  have q1 := HCO.out k2 z hbl hz
                  have g1 : Chg [] wr (wr.alloc (.cells #[int z] 3)) := (Chg.refl _ _).alloc _
                  have lx : Blk (wr.alloc (.cells #[int z] 3)) wr.heap.size 3 [int z] := Blk.new wr [int z] 3
                  obtain ⟨v3, g3, w3, hr3, ho3, hor3⟩ := append_blk EI (hoB.chg g1 (by simp)) (by rw [List.length_map]; exact hom) ⟨wr.heap.size, 0, none⟩ 1 1 [int z] rfl (lx.cells 0 [int z] (fun j v hj => by simpa using hj)) (by simp [Value.oneCell']) (by rw [List.length_map]; omega) (by rw [List.length_map]; omega)
                  rw [List.length_map] at hr3
                  have R : Hid (Blk w3 w.heap.size 3 (ls.map int) ∧ (∃ g2, Own w3 3 v3 g2 ((mTo ls lft (x + y + 1) (k2 + 1)).map int) ∧ g2 ≠ w.heap.size ∧ w.heap.size ≤ g2) ∧ Chg [] w w3) := by
                    refine app_step hbl hcc g1 hor3 hg1 hg2 ?_
                    rw [mTo, ← HMT.out, if_neg hkL, if_neg hkM, hz, List.map_append]
                    simpa using ho3
                  clear ho3 hor3 g1 lx hoB ho hbl hcc hkL hkM hz
                  go_wp2_with (at_builtin; refine Lib.wpList_append_run _ rfl _ _ _ _ rfl _ _ rfl rfl _ _ (hr3 _) ?_)
                  go_roundw
                  case rel => exact ⟨k2 + 1, by omega, by go_num, R.out.1, R.out.2.1, R.out.2.2⟩
                  case measure => simp [intOf]; omega
            · obtain rfl : k2 = k := by omega
              obtain ⟨sp, rfl, hoB, hom⟩ := id ho
              rw [List.length_map]
              have HF : Hid (Blk wr g2 3 ((mTo ls lft (x + y + 1) k2).map int ++ sp) ∧ Chg [] w wr ∧ w.heap.size ≤ g2) := ⟨hoB, hcc, hg2⟩
              clear hoB ho hbl hcc
              go_wp2
              go_ret2
              rw [HT.out]
              refine ⟨_, rfl, ?_, slice_lo HF.out.2.2, HF.out.2.1⟩
              show IntV wr _ (mTo ls lft (x + y + 1) ls.length)
              rw [HL.out]
              exact IntV.of_blk HF.out.1
      · subst h1
        obtain ⟨cx, cy⟩ := HC.out wr hb1
        rcases bB with ⟨h, _⟩ | ⟨b6, b7, b8⟩
        case inl => omega
        rcases bA with ⟨bA, bA'⟩ | ⟨a6, a7, a8, a9, m, cm, bm, bm'⟩
        case inl => omega
        rw [Nat.add_sub_cancel, cx] at cm
        obtain rfl : x = m := by simp at cm; omega
        clear cm
        have e1 : (k : Int) ≤ (lft : Int) + 1 + 1 := by omega
        have e2 : decide ((lft : Int) + 1 + 1 < (k : Int)) = false := by simp; omega
        have e3 : ¬ (lft : Int) + 1 + 1 < (k : Int) := by omega
        have e4 : (lft : Int) < (k : Int) := by omega
        have e5 : IntKind.i64.wrap ((lft : Int) + 1 + 1) = (lft : Int) + 1 + 1 := by rw [IntKind.wrap_i64]; omega
        go_wp2
        go_loopw [10, 11] (fun v t wq => ∃ k2 : Nat, k2 ≤ k ∧ t = .int .i64 k2 ∧ Blk wq w.heap.size 3 (ls.map int) ∧ (∃ g2, Own wq 3 v g2 ((mTo ls lft (x + y + 1) k2).map int) ∧ g2 ≠ w.heap.size ∧ w.heap.size ≤ g2) ∧ Chg [] w wq) (fun _ t _ => k - (intOf t).toNat)
        case atStart => exact ⟨0, Nat.zero_le _, rfl, hb1.alloc _, ⟨wr.heap.size, own_made wr k (by omega), by have := hb1.lt; omega, hc.size⟩, hc.alloc _⟩
        case round =>
          obtain ⟨k2, hk2, rfl, hbl, ⟨g2, ho, hg1, hg2⟩, hcc⟩ := hrel
          have hmle := mTo_le ls lft (x + y + 1) k2
          by_cases hlt2 : k2 < k
          · obtain ⟨MT, hMT⟩ : ∃ MT, MT = mTo ls lft (x + y + 1) k2 := ⟨_, rfl⟩
            rw [← hMT] at ho hmle
            have HMT : Hid (MT = mTo ls lft (x + y + 1) k2) := hMT
            clear hMT
            obtain ⟨sp, rfl, hoB, hom⟩ := id ho
            rw [List.length_map] at hom ⊢
            by_cases hkL : k2 = lft
            · have t1 : ((k2 : Int) == (lft : Int)) = true := by rw [beq_iff_eq]; omega
              obtain ⟨q1, q2⟩ := HC.out _ hbl
              have t3 : (lft : Int) < (k : Int) := by omega
              have t4 : (lft : Int) + 1 < (k : Int) := by omega
              have t5 : (0 : Int) ≤ (lft : Int) + 1 := by omega
              have t6 : ((lft : Int) + 1).toNat = lft + 1 := by omega
              have t7 : IntKind.i64.wrap ((x : Int) + (y : Int)) = (x : Int) + (y : Int) := by rw [IntKind.wrap_i64]; omega
              have t8 : IntKind.i64.wrap ((x : Int) + (y : Int) + 1) = (x : Int) + (y : Int) + 1 := by rw [IntKind.wrap_i64]; omega
              have HK : Hid (k2 = lft) := hkL
              clear hkL
              go_wp2
              refine wp_region_parts (fun w' => w'.cell? ⟨w.heap.size, lft, none⟩ = some (int x) ∧ w'.cell? ⟨w.heap.size, lft + 1, none⟩ = some (int y))
                [(0, false), (1, false), (2, false), (3, false), (4, true), (5, false), (6, false), (7, false), (8, false), (9, true), (10, false), (11, false)] [(12, true), (13, true), (14, true)] (by kernel_rfl) (fun _ _ _ _ _ h => h) (by kernel_rfl) ⟨q1, q2⟩ ?_
              simp only [pick, List.map_cons, List.map_nil, List.getElem?_toArray, List.getElem?_cons_zero, List.getElem?_cons_succ]
              repeat (refine Heads.cons (v := ?_) ?_ ?_; rotate_left 1; (· (intro w' hw'; (first | (obtain ⟨_, _⟩ := hw' rfl; clear hw') | clear hw'); go_simp; (try with_reducible rfl); done)); simp only [Act.put, List.setIfInBounds_toArray, List.set_cons_zero, List.set_cons_succ])
              refine Heads.nil ?_
              refine Rest.cons (fun K hK => ?_)
              go_simp
              refine hK.out _ _ (fun h => by cases h) ?_
              clear hK K
              have g1 : Chg [] wr ((wr.alloc (.cells #[.int .i64 ((x : Int) + (y : Int) + 1)] 3)).drew) := ((Chg.refl _ _).alloc _).drew
              have lx : Blk ((wr.alloc (.cells #[.int .i64 ((x : Int) + (y : Int) + 1)] 3)).drew) wr.heap.size 3 [.int .i64 ((x : Int) + (y : Int) + 1)] := Blk.new wr [.int .i64 ((x : Int) + (y : Int) + 1)] 3
              obtain ⟨v3, g3, w3, hr3, ho3, hor3⟩ := append_blk EI (hoB.chg g1 (by simp)) (by rw [List.length_map]; exact hom) ⟨wr.heap.size, 0, none⟩ 1 1 [.int .i64 ((x : Int) + (y : Int) + 1)] rfl (lx.cells 0 [.int .i64 ((x : Int) + (y : Int) + 1)] (fun j v hj => by simpa using hj)) (by simp [Value.oneCell']) (by rw [List.length_map]; omega) (by rw [List.length_map]; omega)
              rw [List.length_map] at hr3
              refine Rest.cons (fun K hK => wp_append_eq _ _ 48 48 rfl _ _ rfl rfl hr3 ?_)
              refine hK.out _ _ (fun h => by cases h) ?_
              clear hK K hr3
              simp only [Act.put, List.setIfInBounds_toArray, List.set_cons_zero, List.set_cons_succ]
              refine Rest.cons (fun K hK => ?_)
              go_simp
              refine hK.out _ _ (fun h => by cases h) (Rest.nil ?_)
              clear hK K
              have R : Hid (Blk w3 w.heap.size 3 (ls.map int) ∧ (∃ g2, Own w3 3 v3 g2 ((mTo ls lft (x + y + 1) (k2 + 1)).map int) ∧ g2 ≠ w.heap.size ∧ w.heap.size ≤ g2) ∧ Chg [] w w3) := by
                refine app_step hbl hcc g1 hor3 hg1 hg2 ?_
                rw [mTo, ← HMT.out, if_pos HK.out, List.map_append]
                have e9 : [int (x + y + 1)] = [Value.int .i64 ((x : Int) + (y : Int) + 1)] := by simp [int]
                simpa [e9] using ho3
              clear ho3 hor3 g1 lx hoB ho hbl hcc
              go_wp2
              go_roundw
              case rel => exact ⟨k2 + 1, by omega, by go_num, R.out.1, R.out.2.1, R.out.2.2⟩
              case measure => simp [intOf]; omega
            · have t1 : ((k2 : Int) == (lft : Int)) = false := by rw [beq_eq_false_iff_ne]; omega
              by_cases hkM : k2 = lft + 1
              · have t2 : ((k2 : Int) != (lft : Int) + 1) = false := by rw [bne_eq_false_iff_eq]; omega
                have R : Hid (Blk wr w.heap.size 3 (ls.map int) ∧ (∃ g2', Own wr 3 (.slice (some ⟨g2, 0, none⟩) MT.length (MT.length + sp.length)) g2' ((mTo ls lft (x + y + 1) (k2 + 1)).map int) ∧ g2' ≠ w.heap.size ∧ w.heap.size ≤ g2') ∧ Chg [] w wr) := by
                  refine ⟨hbl, ⟨g2, ?_, hg1, hg2⟩, hcc⟩
                  rw [mTo, ← HMT.out, if_neg hkL, if_pos hkM, List.append_nil]
                  rw [List.length_map] at ho
                  exact ho
                clear hoB ho hbl hcc hkL hkM
                go_wp2
                go_roundw
                case rel => exact ⟨k2 + 1, by omega, by go_num, R.out.1, R.out.2.1, R.out.2.2⟩
                case measure => simp [intOf]; omega
              · have t2 : ((k2 : Int) != (lft : Int) + 1) = true := by rw [bne_iff_ne]; omega
                obtain ⟨z, hz⟩ : ∃ z, ls[k2]? = some z := ⟨ls[k2]'(by rw [HL.out]; omega), by simp⟩
                have q1 := HCO.out k2 z hbl hz
                have g1 : Chg [] wr (wr.alloc (.cells #[int z] 3)) := (Chg.refl _ _).alloc _
                have lx : Blk (wr.alloc (.cells #[int z] 3)) wr.heap.size 3 [int z] := Blk.new wr [int z] 3
                obtain ⟨v3, g3, w3, hr3, ho3, hor3⟩ := append_blk EI (hoB.chg g1 (by simp)) (by rw [List.length_map]; exact hom) ⟨wr.heap.size, 0, none⟩ 1 1 [int z] rfl (lx.cells 0 [int z] (fun j v hj => by simpa using hj)) (by simp [Value.oneCell']) (by rw [List.length_map]; omega) (by rw [List.length_map]; omega)
                rw [List.length_map] at hr3
                have R : Hid (Blk w3 w.heap.size 3 (ls.map int) ∧ (∃ g2, Own w3 3 v3 g2 ((mTo ls lft (x + y + 1) (k2 + 1)).map int) ∧ g2 ≠ w.heap.size ∧ w.heap.size ≤ g2) ∧ Chg [] w w3) := by
                  refine app_step hbl hcc g1 hor3 hg1 hg2 ?_
                  rw [mTo, ← HMT.out, if_neg hkL, if_neg hkM, hz, List.map_append]
                  simpa using ho3
                clear ho3 hor3 g1 lx hoB ho hbl hcc hkL hkM hz
                go_wp2_with (at_builtin; refine Lib.wpList_append_run _ rfl _ _ _ _ rfl _ _ rfl rfl _ _ (hr3 _) ?_)
                go_roundw
                case rel => exact ⟨k2 + 1, by omega, by go_num, R.out.1, R.out.2.1, R.out.2.2⟩
                case measure => simp [intOf]; omega
          · obtain rfl : k2 = k := by omega
            obtain ⟨sp, rfl, hoB, hom⟩ := id ho
            rw [List.length_map]
            have HF : Hid (Blk wr g2 3 ((mTo ls lft (x + y + 1) k2).map int ++ sp) ∧ Chg [] w wr ∧ w.heap.size ≤ g2) := ⟨hoB, hcc, hg2⟩
            clear hoB ho hbl hcc
            go_wp2
            go_ret2
            rw [HT.out]
            refine ⟨_, rfl, ?_, slice_lo HF.out.2.2, HF.out.2.1⟩
            show IntV wr _ (mTo ls lft (x + y + 1) ls.length)
            rw [HL.out]
            exact IntV.of_blk HF.out.1
end Go.Proofs.Qxb6601743a
