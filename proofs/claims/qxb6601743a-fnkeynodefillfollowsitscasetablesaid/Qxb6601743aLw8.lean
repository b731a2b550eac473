import Derived.Test.Qxb6601743aFlf
import Derived.Test.Qxb6601743aChk
import Derived.Test.Qxb6601743aDom
namespace Go.Proofs.Qxb6601743a
open Go.RowKit

theorem hid {p : Prop} (h : p) : Hid p := h

/-- The leaves made so far: blocks bs, rows gs; none twice; all behind B. -/
structure Made (B : Nat) (w : World) (bs gs : List Nat) (cks : List (List ByteArray)) : Prop where
  len : gs.length = bs.length
  fam : Fam w bs gs cks
  nb : bs.Nodup
  ng : gs.Nodup
  lob : ∀ b ∈ bs, B ≤ b ∧ b < w.heap.size
  log : ∀ g ∈ gs, B ≤ g ∧ g < w.heap.size

theorem Made.snoc {B : Nat} {w : World} {bs gs : List Nat} {cks : List (List ByteArray)} (h : Made B w bs gs cks) {w' : World} (c : Chg [] w w') {ys : List ByteArray} (hy : cks[bs.length]? = some ys) {b g : Nat} {kv : Value}
    (hb : Blk w' b 59 [kv, .slice none 0 0]) (hg : Own w' 9 kv g (ys.map Value.string)) (hbf : w.heap.size ≤ b) (hgf : w.heap.size ≤ g) (hB : B ≤ w.heap.size) : Made B w' (bs ++ [b]) (gs ++ [g]) cks := by
  refine ⟨by simp [h.len], ?_, ?_, ?_, ?_, ?_⟩
  · intro k b' g' ys' h1 h2 h3
    by_cases hk : k < bs.length
    · rw [List.getElem?_append_left hk] at h1
      rw [List.getElem?_append_left (by rw [h.len]; exact hk)] at h2
      obtain ⟨kv', q1, q2⟩ := h.fam k b' g' ys' h1 h2 h3
      exact ⟨kv', q1.chg c (by simp), q2.chg c (by simp)⟩
    · have := (List.getElem?_eq_some_iff.1 h1).1
      simp at this
      obtain rfl : k = bs.length := by omega
      rw [hy] at h3
      obtain rfl : ys = ys' := by simpa using h3
      rw [List.getElem?_append_right (Nat.le_refl _), Nat.sub_self] at h1
      rw [← h.len, List.getElem?_append_right (Nat.le_refl _), Nat.sub_self] at h2
      obtain rfl : b = b' := by simpa using h1
      obtain rfl : g = g' := by simpa using h2
      exact ⟨kv, hb, hg⟩
  · rw [List.nodup_append]
    refine ⟨h.nb, by simp, fun x hx y hy e => ?_⟩
    obtain rfl : y = b := by simpa using hy
    have := (h.lob x hx).2
    omega
  · rw [List.nodup_append]
    refine ⟨h.ng, by simp, fun x hx y hy e => ?_⟩
    obtain rfl : y = g := by simpa using hy
    have := (h.log x hx).2
    omega
  · intro x hx
    rcases List.mem_append.1 hx with hx | hx
    · have := h.lob x hx; exact ⟨this.1, Nat.lt_of_lt_of_le this.2 c.size⟩
    · obtain rfl : x = b := by simpa using hx
      exact ⟨by omega, hb.lt⟩
  · intro x hx
    rcases List.mem_append.1 hx with hx | hx
    · have := h.log x hx; exact ⟨this.1, Nat.lt_of_lt_of_le this.2 c.size⟩
    · obtain rfl : x = g := by simpa using hx
      exact ⟨by omega, hg.lt⟩

theorem Made.setOther {B : Nat} {w : World} {bs gs : List Nat} {cks : List (List ByteArray)} (h : Made B w bs gs cks) {p : Addr} {L : List Value} (hp : Blk w p.block 34 L) (u : Value) : Made B (w.setCell p u) bs gs cks := by
  have hsz : (w.setCell p u).heap.size = w.heap.size := by simp [World.setCell]
  refine ⟨h.len, ?_, h.nb, h.ng, by rw [hsz]; exact h.lob, by rw [hsz]; exact h.log⟩
  intro k b' g' ys' h1 h2 h3
  obtain ⟨kv', q1, q2⟩ := h.fam k b' g' ys' h1 h2 h3
  exact ⟨kv', q1.setOther (q1.ne hp) u, q2.setOther (q2.ne hp) u⟩

theorem set_snoc_ptr (bs : List Nat) (n b : Nat) (h : bs.length < n) : (bs.map ptr ++ List.replicate (n - bs.length) (Value.pointer none)).set bs.length (ptr b) = (bs ++ [b]).map ptr ++ List.replicate (n - (bs ++ [b]).length) (Value.pointer none) := by
  have := set_snoc (bs.map ptr) n (.pointer none) (ptr b) (by simpa using h)
  simpa using this

theorem table_len (ls : List Nat) (i : Nat) (h : i < ls.length) : (table ls i).1.length ≤ ls.length := by
  unfold table
  split
  · simp
  · split
    · simp
    · split
      · simp; omega
      · simp; omega

theorem own_whole {w : World} {b : Nat} {ys : List ByteArray} (h : Blk w b 9 (ys.map Value.string)) (hl : ys.length ≤ 1000000) : Own w 9 (.slice (some ⟨b, 0, none⟩) ys.length ys.length) b (ys.map Value.string) :=
  ⟨[], by simp, by simpa using h, by simp; omega⟩

theorem own_strV {w : World} {v : Value} {b : Nat} {ys : List ByteArray} (h : Own w 9 v b (ys.map Value.string)) : StrV w v ys := by
  obtain ⟨sp, rfl, hB, _⟩ := h
  rw [List.length_map]
  refine ⟨_, _, rfl, fun k s hk => ⟨b, 0, rfl, ?_⟩, fun h => by cases h⟩
  rw [Nat.zero_add]
  have hlt := (List.getElem?_eq_some_iff.1 hk).1
  exact hB.cell (by rw [List.getElem?_append_left (by simpa using hlt), List.getElem?_map, hk]; rfl)

set_option maxHeartbeats 4000000 in
set_option maxRecDepth 100000 in
theorem fill_law (a ca : Option Addr) (cap ccap : Nat) (i : Int) (xs : List ByteArray) (xss : List (Value × List ByteArray)) (w : World) (hs : Strs w a xs) (hn : Nest w ca xss) (hl : xs.length ≤ maxLen) (hl2 : xss.length ≤ maxLen)
    (hi : -9223372036854775808 ≤ i ∧ i ≤ 9223372036854775807) :
    Calls Try.prog 8 #[.slice a xs.length cap, .slice ca xss.length ccap, .int .i64 i] w fun e w' => e = .returned (.bool true) ∧ Chg [] w w' := by
  have K28 := bytes_fill a ca cap ccap i xs xss w hs hn hl hl2
  have K29 := fillBytes_any a ca cap ccap xs xss w hs hn hl hl2
  have K30 := domain_any a ca cap ccap i xs xss w hn hl hi
  have H28 := hid K28
  have H29 := hid K29
  have H30 := hid K30
  have HS := hid hs
  have HN := hid hn
  clear K28 K29 K30 hs hn
  go_enter Try.func8, Try.ntmps8
  go_wp2_with fail
  refine H28.out.mono ?_
  rintro e w1 ⟨⟨b28, rfl⟩, rfl⟩
  cases b28
  case false =>
    go_wp2_with fail
    go_ret
    exact ⟨rfl, Chg.refl _ _⟩
  go_wp2_with fail
  refine H29.out.mono ?_
  rintro e w1 ⟨⟨n29, rfl⟩, rfl⟩
  by_cases h29 : (1048576 : Int) < n29
  · go_wp2_with fail
    go_ret
    exact ⟨rfl, Chg.refl _ _⟩
  go_wp2_with fail
  refine H30.out.mono ?_
  rintro e w1 ⟨⟨b30, rfl, h30⟩, rfl⟩
  cases b30
  case false =>
    go_wp2_with fail
    go_ret
    exact ⟨rfl, Chg.refl _ _⟩
  have hD := h30 rfl
  clear h30 H28 H29 H30 h29
  obtain ⟨n1, n2, n3, n4, n5, n6, n7⟩ := hD
  rw [List.length_map] at n3
  obtain ⟨j, rfl⟩ : ∃ j : Nat, i = j := ⟨i.toNat, by omega⟩
  rw [Int.toNat_natCast] at n7
  have hall : ∀ p ∈ xss, 31 ≤ p.2.length ∧ p.2.length ≤ 63 := fun p hp => n6 _ (List.mem_map.2 ⟨p, hp, rfl⟩)
  have hall0 : ∀ p ∈ xss, 0 < p.2.length ∧ p.2.length ≤ 1000 := fun p hp => by have := hall p hp; omega
  obtain ⟨s0, hs0⟩ : ∃ s, xs[0]? = some s := ⟨xs[0]'(by omega), by simp⟩
  obtain ⟨p0, hp0⟩ : ∃ p, xss[0]? = some p := ⟨xss[0]'(by omega), by simp⟩
  obtain ⟨b0, off0, rfl, hq0⟩ := HS.out 0 s0 hs0
  obtain ⟨c0, coff0, rfl, hq1⟩ := HN.out 0 p0.1 p0.2 hp0
  clear hq0 hq1 hs0 hp0
  have HA := hid hall
  have HA0 := hid hall0
  have HM := hid n3
  have H7 := hid n7
  have n3' : xss.length ≤ 64 := by omega
  have n3'' : 2 ≤ xss.length := by omega
  have jlt : j < xss.length := by omega
  have jle : j ≤ xs.length := by omega
  have hmk := make_run EN (xss.length : Int) xss.length xss.length rfl (Nat.le_refl _) (by omega) (by omega)
  clear n6 n7 n3 hall hall0 hl hl2 hi n4 n5
  go_wp2_with fail
  refine (clone_some ⟨b0, off0, none⟩ xs cap w1 HS.out (by omega)).mono ?_
  rintro e w2 ⟨rfl, hB1, hc1⟩
  go_wp2_with fail
  refine (cloneNested_any ⟨c0, coff0, none⟩ ccap xss w2 (HN.out.chg hc1) (by omega) HA0.out).mono ?_
  rintro e w3 ⟨rfl, zs, hzl, hn2, hc2⟩
  have HB1 := hid (hB1.chg hc2 (by simp))
  have HN2 := hid hn2
  have HZ := hid hzl
  have HC := hid (hc1.trans hc2)
  have hsz3 : w2.heap.size ≤ w3.heap.size := hc2.size
  clear hB1 hn2 hzl hc1 hc2 HS HN
  go_wp2_with fail
  obtain ⟨cks, hcks⟩ : ∃ cks, cks = xss.map (·.2) := ⟨_, rfl⟩
  rw [← hcks] at HN2
  have HK := hid hcks
  have HKL : Hid (cks.length = xss.length) := by show _ = _; rw [hcks]; simp
  have HKA : Hid (∀ y ∈ cks, 31 ≤ y.length ∧ y.length ≤ 63) := fun y hy => by
    rw [hcks] at hy
    obtain ⟨p, hp, rfl⟩ := List.mem_map.1 hy
    exact HA.out p hp
  clear hcks
  go_loopw [8] (fun t wr => ∃ bs gs : List Nat, bs.length ≤ xss.length ∧ t = .int .i64 bs.length ∧ Blk wr w3.heap.size 34 (bs.map ptr ++ List.replicate (xss.length - bs.length) (.pointer none)) ∧ Made w3.heap.size wr bs gs cks ∧ Chg [] w3 wr) (fun t _ => xss.length - (intOf t).toNat)
  case atStart => exact ⟨[], [], Nat.zero_le _, rfl, by simpa using Blk.new w3 (List.replicate xss.length (.pointer none)) 34, ⟨rfl, fun k b g ys h => by simp at h, by simp, by simp, by simp, by simp⟩, (Chg.refl _ _).alloc _⟩
  case round =>
    obtain ⟨bs, gs, hk, rfl, hcb, hmd, hc3⟩ := hrel
    by_cases hlt : bs.length < xss.length
    · obtain ⟨ys, hys⟩ : ∃ ys, cks[bs.length]? = some ys := ⟨cks[bs.length]'(by rw [HKL.out]; exact hlt), by simp⟩
      obtain ⟨zv, hzv⟩ : ∃ zv, zs[bs.length]? = some zv := ⟨zs[bs.length]'(by rw [HZ.out]; exact hlt), by simp⟩
      obtain ⟨nb0, no0, hnb, hcell, hst⟩ := (HN2.out.chg hc3) bs.length zv ys (by rw [List.getElem?_zip_eq_some]; exact ⟨hzv, hys⟩)
      obtain ⟨rfl, rfl⟩ : w2.heap.size = nb0 ∧ 0 = no0 := by simpa using hnb
      have hy63 := HKA.out ys (List.mem_of_getElem? hys)
      obtain ⟨b2, off2, c2, rfl, hcs⟩ := hst.open (by omega)
      have HSt : Hid (Strs wr (some ⟨b2, off2, none⟩) ys) := fun k s hks => ⟨b2, off2, rfl, hcs k s hks⟩
      rw [Nat.zero_add] at hcell
      have HM3 : Hid (Blk wr w3.heap.size 34 (bs.map ptr ++ List.replicate (xss.length - bs.length) (.pointer none)) ∧ Made w3.heap.size wr bs gs cks ∧ Chg [] w3 wr) := ⟨hcb, hmd, hc3⟩
      have HY := hid hys
      have hwr : w3.heap.size ≤ wr.heap.size := hc3.size
      have hbi : (bs.length : Int) < (xss.length : Int) := by omega
      clear hcb hmd hc3 hys hzv hnb hst hcs
      go_wp2_with fail
      refine (clone_some ⟨b2, off2, none⟩ ys c2 wr HSt.out (by omega)).mono ?_
      rintro e w4 ⟨rfl, hB4, hc4⟩
      obtain ⟨hcb, hmd, hc3⟩ := HM3.out
      have hcb4 := hcb.chg hc4 (by simp)
      have hcl : ∀ o, (w4.alloc o).cell? ⟨w3.heap.size, bs.length, none⟩ = some (.pointer none) := fun o => (hcb4.alloc o).cell (by rw [List.getElem?_append_right (by simp), List.length_map, Nat.sub_self, List.getElem?_replicate, if_pos (by omega)])
      have hfr : ∀ o, (w4.alloc o).frozen? ⟨w3.heap.size, bs.length, none⟩ = false := fun o => (hcb4.alloc o).frozen _
      have R : Hid (Blk ((w4.alloc (.cells #[.slice (some ⟨wr.heap.size, 0, none⟩) ys.length ys.length, .slice none 0 0] 59)).setCell ⟨w3.heap.size, bs.length, none⟩ (ptr w4.heap.size)) w3.heap.size 34 ((bs ++ [w4.heap.size]).map ptr ++ List.replicate (xss.length - (bs ++ [w4.heap.size]).length) (.pointer none)) ∧
          Made w3.heap.size ((w4.alloc (.cells #[.slice (some ⟨wr.heap.size, 0, none⟩) ys.length ys.length, .slice none 0 0] 59)).setCell ⟨w3.heap.size, bs.length, none⟩ (ptr w4.heap.size)) (bs ++ [w4.heap.size]) (gs ++ [wr.heap.size]) cks ∧
          Chg [] w3 ((w4.alloc (.cells #[.slice (some ⟨wr.heap.size, 0, none⟩) ys.length ys.length, .slice none 0 0] 59)).setCell ⟨w3.heap.size, bs.length, none⟩ (ptr w4.heap.size))) := by
        have hca : Chg [] wr (w4.alloc (.cells #[.slice (some ⟨wr.heap.size, 0, none⟩) ys.length ys.length, .slice none 0 0] 59)) := hc4.alloc _
        refine ⟨?_, Made.setOther (L := bs.map ptr ++ List.replicate (xss.length - bs.length) (.pointer none)) ?_ (hcb4.alloc _) _, ((hc3.trans hc4).alloc _).setCell (Or.inr (Nat.le_refl _)) _⟩
        · have := (hcb4.alloc (.cells #[.slice (some ⟨wr.heap.size, 0, none⟩) ys.length ys.length, .slice none 0 0] 59)).set bs.length (ptr w4.heap.size)
          rw [set_snoc_ptr _ _ _ hlt] at this
          exact this
        · exact hmd.snoc hca HY.out (Blk.new w4 [.slice (some ⟨wr.heap.size, 0, none⟩) ys.length ys.length, .slice none 0 0] 59) (own_whole (hB4.alloc _) (by omega)) hc4.size (Nat.le_refl _) hwr
      clear hcb hmd hc3 hcb4 hB4 hc4 hcell
      go_wp2_with go_in
      go_roundw
      case rel => exact ⟨bs ++ [w4.heap.size], gs ++ [wr.heap.size], by simp; omega, by simp, R.out.1, R.out.2.1, R.out.2.2⟩
      case measure => simp [intOf]; omega
    · have hbl : bs.length = xss.length := by omega
      rw [hbl, Nat.sub_self, List.replicate_zero, List.append_nil] at hcb
      have HBL := hid hbl
      have hS1 : Strs wr (some ⟨w1.heap.size, 0, none⟩) xs := fun k s hk => ⟨w1.heap.size, 0, rfl, by rw [Nat.zero_add]; exact (HB1.out.chg hc3 (by simp)).cell (by rw [List.getElem?_map, hk]; rfl)⟩
      have HS1 := hid hS1
      have HM3 : Hid (Blk wr w3.heap.size 34 (bs.map ptr) ∧ Made w3.heap.size wr bs gs cks ∧ Chg [] w3 wr) := ⟨hcb, hmd, hc3⟩
      have hzip : (zs.zip cks).length = xss.length := by rw [List.length_zip, HZ.out, HKL.out, Nat.min_self]
      have hsnd : (zs.zip cks).map (·.2) = cks := List.map_snd_zip (by rw [HZ.out, HKL.out]; exact Nat.le_refl _)
      have hlens : (zs.zip cks).map (fun p => p.2.length) = cks.map List.length := by
        have h := congrArg (List.map List.length) hsnd
        rw [List.map_map] at h
        exact h
      have HZP : Hid ((zs.zip cks).length = xss.length ∧ (zs.zip cks).map (·.2) = cks ∧ (zs.zip cks).map (fun p => p.2.length) = cks.map List.length) := ⟨hzip, hsnd, hlens⟩
      have HZA : Hid (∀ p ∈ zs.zip cks, 31 ≤ p.2.length ∧ p.2.length ≤ 63) := fun p hp => HKA.out _ (List.of_mem_zip hp).2
      have hnlt : ¬ (bs.length : Int) < (xss.length : Int) := by omega
      clear hcb hmd hc3 hS1 hzip hsnd hlens hbl hlt
      go_wp2_with fail
      refine (clone_some ⟨w1.heap.size, 0, none⟩ xs xs.length wr HS1.out (by omega)).mono ?_
      rintro e w4 ⟨rfl, hB4, hc4⟩
      have HB4 := hid hB4
      have HC4 := hid hc4
      clear hB4 hc4
      go_wp2_with (go_at_call 32; go_in)
      have HC5 : Hid (Chg [] w3 (w4.alloc (.cells #[.slice (some ⟨wr.heap.size, 0, none⟩) xs.length xs.length, .slice (some ⟨w3.heap.size, 0, none⟩) xss.length xss.length] 59))) := (HM3.out.2.2.trans HC4.out).alloc _
      have K33 := interleave_any (some ⟨w1.heap.size, 0, none⟩) (some ⟨w2.heap.size, 0, none⟩) xs.length xss.length xs (zs.zip cks) (w4.alloc (.cells #[.slice (some ⟨wr.heap.size, 0, none⟩) xs.length xs.length, .slice (some ⟨w3.heap.size, 0, none⟩) xss.length xss.length] 59))
        (HS1.out.chg (HC4.out.alloc _)) (HN2.out.chg HC5.out) (by omega) (by rw [HZP.out.1]; omega) (fun p hp => by have := HZA.out p hp; omega)
      rw [HZP.out.1, HZP.out.2.1] at K33
      refine K33.mono ?_
      clear K33
      rintro e w5 ⟨vold, rfl, hold, hlo, hc5⟩
      have HOLD := hid (And.intro hold hlo)
      have HC6 := hid hc5
      clear hold hlo hc5
      go_wp2_with fail
      have K34 := fillTable_any ⟨w2.heap.size, 0, none⟩ xss.length (zs.zip cks) j w5 (HN2.out.chg (HC5.out.trans HC6.out)) (by rw [HZP.out.1]; omega) (by rw [HZP.out.1]; omega) HZA.out (by rw [HZP.out.1]; exact jlt) (by
        rw [HZP.out.2.2, HK.out, List.map_map]; exact H7.out)
      rw [HZP.out.1, HZP.out.2.2] at K34
      refine K34.mono ?_
      clear K34
      rintro e w6 ⟨vwant, rfl, hwant, hlo, hc6⟩
      have HW := hid (And.intro hwant hlo)
      have HC7 := hid hc6
      clear hwant hlo hc6
      go_wp2_with (go_at_call 35; go_in)
      have KF : Calls Try.prog 42 #[ptr w4.heap.size, .int .i64 j] w6 fun e w' => ∃ jj : Nat, e = .returned (.int .i64 jj) ∧ Filled w6 w4.heap.size xs cks j jj w' ([w4.heap.size, wr.heap.size, w3.heap.size] ++ bs ++ gs) := by
        have hcA := HC6.out.trans HC7.out
        have hc46 : Chg [] w4 w6 := ((Chg.refl [] w4).alloc _).trans hcA
        have hcR : Chg [] wr w6 := HC4.out.trans hc46
        obtain ⟨c, hc1, hc2⟩ : ∃ c, cks[j]? = some c ∧ c.length = 31 := by
          have h7 := H7.out
          rw [List.getElem?_map] at h7
          cases hx : xss[j]? with
          | none => rw [hx] at h7; cases h7
          | some p => rw [hx] at h7; exact ⟨p.2, by rw [HK.out, List.getElem?_map, hx]; rfl, by simpa using h7⟩
        have hmd := HM3.out.2.1
        refine fill_leaf w6 w4.heap.size wr.heap.size w3.heap.size j _ _ xs bs gs cks c ((Blk.new w4 [.slice (some ⟨wr.heap.size, 0, none⟩) xs.length xs.length, .slice (some ⟨w3.heap.size, 0, none⟩) xss.length xss.length] 59).chg hcA (by simp))
          ((own_whole HB4.out (by omega)).chg hc46 (by simp)) (Own.chg (w := wr) ⟨[], by simp [HBL.out], by simpa using HM3.out.1, by simp [HBL.out]; omega⟩ hcR (by simp)) ?_ (by rw [HBL.out, HKL.out]) (by rw [hmd.len, HBL.out, HKL.out]) hmd.nb hmd.ng ?_ ?_ n1 (by rw [HKL.out, HM.out]) n2 HKA.out hc1 hc2
        · intro k b g ys h1 h2 h3
          obtain ⟨kv, q1, q2⟩ := hmd.fam k b g ys h1 h2 h3
          exact ⟨kv, q1.chg hcR (by simp), q2.chg hcR (by simp)⟩
        · intro h
          have := (hmd.lob _ h).2
          have := HC4.out.size
          omega
        · intro h
          have := (hmd.log _ h).2
          omega
      refine KF.mono ?_
      clear KF
      rintro e w7 ⟨jj, rfl, pk', cks', cps', nkv', ncv', kn', cn', hG, hP, hOk, hOc, hcl, hlv, hc7⟩
      have hszR := HM3.out.2.2.size
      have hsz4 := HC4.out.size
      have hfar : ∀ s ∈ [w4.heap.size, wr.heap.size, w3.heap.size] ++ bs ++ gs, w3.heap.size ≤ s ∧ s < w4.heap.size + 1 := fun s hs => by
        simp at hs
        rcases hs with rfl | rfl | rfl | h | h
        · omega
        · omega
        · omega
        · have := HM3.out.2.1.lob s h; omega
        · have := HM3.out.2.1.log s h; omega
      have hc3A : Chg [] w3 w6 := HC5.out.trans (HC6.out.trans HC7.out)
      have hc37 : Chg [] w3 w7 := hc3A.then hc7 (fun s hs => Or.inr (hfar s hs).1)
      have HG := hid hG
      have HT1 := hid hc37
      have HTW : Hid (IntV w7 vwant (table (cks.map List.length) j).1) := HW.out.1.chgS hc7 (fun ad m c e hm => by
        have h1 := HW.out.2 ad m c e
        have h2 := (hfar _ hm).2
        have h3 := HC6.out.size
        simp at h3
        omega)
      have HTO : Hid (StrV w7 vold (interTo xs cks xss.length)) := (HOLD.out.1.chg HC7.out).chgS hc7 (fun ad m c e hm => by
        have h1 := HOLD.out.2 ad m c e
        have h2 := (hfar _ hm).2
        simp at h1
        omega)
      have HTN : Hid (Nest w7 (some ⟨w2.heap.size, 0, none⟩) (zs.zip cks)) := HN2.out.chg hc37
      have HTC : Hid (Chg [] w1 w7) := HC.out.trans hc37
      have HLV := hid hlv
      have HP : Hid (Blk w7 w4.heap.size 59 [nkv', ncv'] ∧ Own w7 9 nkv' kn' (pk'.map Value.string) ∧ Own w7 34 ncv' cn' cps') := ⟨hP, hOk, hOc⟩
      obtain ⟨kcp, rfl⟩ := hOk.form
      obtain ⟨ccp, rfl⟩ := hOc.form
      have hidx : ((jj : Int) != ((table (cks.map List.length) j).2 : Int)) = false := by rw [bne_eq_false_iff_eq, hG.idx]
      have p0 := hP.cell (k := 0) rfl
      have p1 := hP.cell (k := 1) rfl
      rw [List.length_map] at p0
      rw [hcl] at p1
      have hw2 := HTW.out
      rw [← hG.tab] at hw2
      obtain ⟨wb, wc, hvw, hwc⟩ := hw2
      rw [List.length_map] at hvw
      subst hvw
      have HWC : Hid (∀ k y, cks'[k]? = some y → w7.cell? ⟨wb, k, none⟩ = some (int y.length)) := fun k y hk => hwc k y.length (by rw [List.getElem?_map, hk]; rfl)
      obtain ⟨yj, ci, pp, g1, g2, g3, g4, g5⟩ := hG.run
      have hjl : jj < cks'.length := (List.getElem?_eq_some_iff.1 g1).1
      have hlenG := hG.len
      have hl64 : cks'.length ≤ 64 := by
        have h1 := congrArg List.length hG.tab
        have h2 := table_len (cks.map List.length) j (by rw [List.length_map, HKL.out]; exact jlt)
        rw [List.length_map] at h1 h2
        have h3 := HKL.out
        omega
      have hpl : pk'.length ≤ 63 := by omega
      have t1 : ((pk'.length : Int) != (cks'.length : Int) - 1) = false := by rw [bne_eq_false_iff_eq]; omega
      have t2 : ¬ (jj : Int) < 0 := by omega
      have t3 : ¬ (cks'.length : Int) ≤ (jj : Int) := by omega
      have t4 : decide ((cks'.length : Int) ≤ (jj : Int)) = false := by simp; omega
      have t5 : decide ((jj : Int) < 0) = false := by simp
      have t6 : ((cks'.length : Int) != (cks'.length : Int)) = false := by simp
      have t7 : IntKind.i64.wrap ((cks'.length : Int) - 1) = (cks'.length : Int) - 1 := by rw [IntKind.wrap_i64]; omega
      have HCL := hid hcl
      have HRUN : Hid (∃ yj ci pp, cks'[jj]? = some yj ∧ 31 < yj.length ∧ cks[j]? = some ci ∧ pp + ci.length ≤ yj.length ∧ ∀ t s, ci[t]? = some s → yj[pp + t]? = some s) := ⟨yj, ci, pp, g1, g2, g3, g4, g5⟩
      clear hG hc37 hc3A hfar hc7 hlv hP hOk hOc HW HOLD HN2 HC HM3 HB1 HB4 HC4 HC5 HC6 HC7 hszR hsz4 hwc hcl g1 g2 g3 g4 g5 hlenG
      go_wp2_with go_in
      have hne := fun w a n c n2 c2 => run_neq_slice_nil_any (P := Try.prog) w 45 34 a n c n2 c2 Try.underlying45
      have hnp := neq_nil_ptr
      have HALL : Hid (∀ y ∈ cks', 31 ≤ y.length ∧ y.length ≤ 63) := HG.out.all
      go_loopw [15, 16] (fun t _ wq => ∃ k : Nat, k ≤ cks'.length ∧ t = .int .i64 k ∧ wq = w7) (fun t _ _ => cks'.length - (intOf t).toNat)
      case atStart => exact ⟨0, Nat.zero_le _, rfl, rfl⟩
      case round =>
        obtain ⟨k, hk, rfl, rfl⟩ := hrel
        by_cases hlt : k < cks'.length
        · obtain ⟨ys, hys⟩ : ∃ ys, cks'[k]? = some ys := ⟨cks'[k], by simp [hlt]⟩
          obtain ⟨v, hv⟩ : ∃ v, cps'[k]? = some v := ⟨cps'[k]'(by rw [HCL.out]; exact hlt), by simp⟩
          obtain ⟨b, g, kv, rfl, hb, ho⟩ := HLV.out k v ys hv hys
          obtain ⟨csp, _, hcB, _⟩ := HP.out.2.2
          have c1 := hcB.cell (k := k) (by rw [List.getElem?_append_left (List.getElem?_eq_some_iff.1 hv).1]; exact hv)
          obtain ⟨kc, rfl⟩ := ho.form
          rw [List.length_map] at hb
          have c2 := hb.cell (k := 0) rfl
          have c3 := hb.cell (k := 1) rfl
          have c4 := HWC.out k ys hys
          have hy := HALL.out ys (List.mem_of_getElem? hys)
          have hki : (k : Int) < (cks'.length : Int) := by omega
          have u1 : ((ys.length : Int) != (ys.length : Int)) = false := by simp
          have u2 : ¬ (ys.length : Int) < 31 := by omega
          have u3 : decide ((ys.length : Int) < 31) = false := by simp; omega
          have u4 : ¬ (63 : Int) < (ys.length : Int) := by omega
          have u5 : decide ((63 : Int) < (ys.length : Int)) = false := by simp; omega
          clear hys hv hb ho hcB
          go_wp2_with go_in
          exact ⟨⟨k + 1, by omega, by simp, trivial⟩, by simp [intOf]; omega⟩
        · obtain ⟨yj, ci, pp, g1, g2, g3, g4, g5⟩ := HRUN.out
          obtain ⟨v, hv⟩ : ∃ v, cps'[jj]? = some v := ⟨cps'[jj]'(by rw [HCL.out]; exact hjl), by simp⟩
          obtain ⟨b, g, kv, rfl, hb, ho⟩ := HLV.out jj v yj hv g1
          obtain ⟨csp, _, hcB, _⟩ := HP.out.2.2
          have c1 := hcB.cell (k := jj) (by rw [List.getElem?_append_left (List.getElem?_eq_some_iff.1 hv).1]; exact hv)
          have HSV := hid (own_strV ho)
          obtain ⟨kc, rfl⟩ := ho.form
          rw [List.length_map] at hb HSV
          have c2 := hb.cell (k := 0) rfl
          have hcil := HKA.out ci (List.mem_of_getElem? g3)
          obtain ⟨zv, hzv⟩ : ∃ zv, zs[j]? = some zv := ⟨zs[j]'(by rw [HZ.out]; exact jlt), by simp⟩
          obtain ⟨nb0, no0, hnb, hcell, hst⟩ := HTN.out j zv ci (by rw [List.getElem?_zip_eq_some]; exact ⟨hzv, g3⟩)
          obtain ⟨rfl, rfl⟩ : w2.heap.size = nb0 ∧ 0 = no0 := by simpa using hnb
          rw [Nat.zero_add] at hcell
          have hy := HALL.out yj (List.mem_of_getElem? g1)
          have HRN : Hid (pp + ci.length ≤ yj.length ∧ ∀ t s, ci[t]? = some s → yj[pp + t]? = some s) := ⟨g4, g5⟩
          have HST := hid hst
          obtain ⟨zb, zo, zc, rfl, _⟩ := hst.open (by omega)
          have hki : ¬ (k : Int) < (cks'.length : Int) := by omega
          have hji : (jj : Int) < (cks'.length : Int) := by omega
          have hjx : (j : Int) < (xss.length : Int) := by omega
          have v1 : ¬ (yj.length : Int) ≤ 31 := by omega
          have v2 : decide ((yj.length : Int) ≤ 31) = false := by simp; omega
          clear hnb hv hb ho hcB hzv g1 g3 g4 g5
          go_wp2_with (go_at_call 37; go_in)
          refine (hasRun_any _ _ yj ci pp wr HSV.out HST.out (by omega) (by omega) HRN.out.1 HRN.out.2).mono ?_
          rintro e w8 ⟨rfl, hc8⟩
          have HC8 := hid hc8
          clear hc8
          go_wp2_with fail
          refine (inorder_root w8 w4.heap.size kn' cn' _ _ pk' cps' cks' (HP.out.1.chg HC8.out (by simp)) (HP.out.2.1.chg HC8.out (by simp)) (HP.out.2.2.chg HC8.out (by simp)) (fun k c ys h1 h2 => (HLV.out k c ys h1 h2).chg HC8.out) HCL.out (by have := HG.out.len; omega) (by omega) (fun y hy => by have := HALL.out y hy; omega)).mono ?_
          rintro e w9 ⟨vnew, rfl, hnew, hc9⟩
          have HNEW := hid hnew
          have HC9 := hid hc9
          clear hnew hc9
          go_wp2_with fail
          have hint : interTo xs cks xss.length = interTo pk' cks' cks'.length := by rw [HG.out.same, HKL.out]
          have hlen9 := interTo_le pk' cks' 63 (fun c hc => (HALL.out c hc).2) cks'.length
          have HTO9 := HTO.out.chg (HC8.out.trans HC9.out)
          rw [hint] at HTO9
          refine (equal_any _ _ _ w9 HNEW.out HTO9 (by omega)).mono ?_
          rintro e w10 ⟨rfl, hc10⟩
          have HC10 := hid hc10
          clear hc10 hint hlen9 HTO9
          go_wp2_with fail
          go_ret
          exact ⟨rfl, HTC.out.trans (HC8.out.trans (HC9.out.trans HC10.out))⟩
end Go.Proofs.Qxb6601743a
