import Derived.Test.Qxb6601743aSg
import Derived.Test.Qxb6601743aDlt
import Derived.Deep.Cut
namespace Go.Proofs.Qxb6601743a
open Go.RowKit

/-- The key index has a root; m bounds the root's keys. -/
def Sta (B : Nat) (w : World) (bx h m : Nat) (wr : World) : Prop :=
  ∃ nd root ri H, Blk wr bx 55 [ptr root] ∧ Tr B wr nd root H ∧ nd root = some ri ∧ (1 ≤ ri.ks.length ∨ (ri.ks.length = 0 ∧ H = 0)) ∧ H ≤ h ∧ Below B w wr ∧ ri.ks.length ≤ m

/-- What insert leaves. -/
def Grew (B : Nat) (w w' : World) (bx h : Nat) : Prop := ∃ h' r', Ix B w' bx h' r' ∧ h' ≤ h + 2 ∧ Below B w w'

/-- A root with one child and no key: what the new root is made of. -/
theorem grow_facts {B bx root H n g d : Nat} {w wc W0 : World} {nd : Nat → Option Nd} {ri : Nd} {kv cv : Value} (hX : Blk wc bx 55 [ptr root]) (T : Tr B wc nd root H) (hri : nd root = some ri) (h63 : ri.ks.length = 63) (hbel : Below B w wc) (hbx : B ≤ bx)
    (hN : Blk W0 n 59 [kv, cv]) (hk : Own W0 9 kv g (([] : List ByteArray).map Value.string)) (hcv : Own W0 34 cv d [ptr root]) (hc : Chg [] wc W0) (hn : wc.heap.size ≤ n) (hg : wc.heap.size ≤ g) (hd : wc.heap.size ≤ d) :
    Blk (W0.setCell ⟨bx, 0, none⟩ (ptr n)).drew bx 55 [ptr n] ∧ (∃ nd' ni, Tr B (W0.setCell ⟨bx, 0, none⟩ (ptr n)).drew nd' n (H + 1) ∧ nd' n = some ni ∧ ni.lv = H + 1 ∧ ni.ks.length = 0 ∧ ni.kids[0]? = some root ∧ nd' root = some ri) ∧ Below B w (W0.setCell ⟨bx, 0, none⟩ (ptr n)).drew := by
  have hX0 := hX.chg hc (by simp)
  have hrl : ri.lv = H := by
    obtain ⟨j, hj, hl⟩ := T.rt
    rw [hri] at hj; cases hj; exact hl
  obtain ⟨nd', T', hn', hr'⟩ := T.grow hri (by omega) hn (cut_root T.gr hri hn T.root_no hc hN hk hcv hg hd) (by simp [hrl])
  refine ⟨(hX0.set 0 _).drew, ⟨nd', _, (T'.setIdx hX0 0 (ptr n)).chg (Chg.refl _ _).drew, hn', by simp [hrl], rfl, rfl, hr'⟩, ?_⟩
  have h1 : Below B w W0 := hbel.trans (hc.below.mono T.sz)
  exact (h1.setCell hbx _).drew

set_option maxHeartbeats 4000000 in
set_option maxRecDepth 100000 in
theorem insert_any (B bx h r : Nat) (key : ByteArray) (w : World) (hI : Ix B w bx h r) : Calls Try.prog 40 #[ptr bx, .string key] w fun e w' => e = .returned (.tuple #[]) ∧ Grew B w w' bx h := by
  obtain ⟨hbx, hsz, hI⟩ := hI
  obtain ⟨Z, hZ⟩ : ∃ Z, Z = List.replicate 63 (Value.string ByteArray.empty) := ⟨_, rfl⟩
  have HZ : Hid (Z.length = 63) := by show _ = _; rw [hZ]; simp
  have hmk : ∀ w, (Instr.makeSlice 22 (.int .i64 0) (.int .i64 63)).run Try.prog w = .ok (.slice (some ⟨w.heap.size, 0, none⟩) 0 63) (w.alloc (.cells Z.toArray 9)) := fun w => by
    rw [hZ]; exact make_run ES 0 0 63 rfl (by omega) (by omega) (by omega) w
  clear hZ
  obtain ⟨rv, hx⟩ : ∃ rv, Blk w bx 55 [.pointer rv] := by
    rcases hI with ⟨_, _, h⟩ | ⟨_, _, _, _, _, h, _⟩
    · exact ⟨_, h⟩
    · exact ⟨_, h⟩
  have c1 := hx.cell (k := 0) rfl
  have HI := hid' hI
  have HX := hid' hx
  clear hI hx
  go_enter Try.func40, Try.ntmps40
  go_upto_if 11 with fail
  go_cut [] from 7 (fun wr => Sta B w bx h 63 wr)
  case first =>
    cases rv with
    | none =>
      have f0 : ∀ o1 o2, ((w.alloc o1).alloc o2).frozen? ⟨bx, 0, none⟩ = false := fun o1 o2 => ((HX.out.alloc o1).alloc o2).frozen 0
      have f1 : ∀ o1 o2, ((w.alloc o1).alloc o2).cell? ⟨bx, 0, none⟩ = some (.pointer none) := fun o1 o2 => ((HX.out.alloc o1).alloc o2).cell (k := 0) rfl
      have hq := eql_nil
      have R : Hid (Sta B w bx h 63 (((w.alloc (.cells Z.toArray 9)).alloc (.cells #[.slice (some ⟨w.heap.size, 0, none⟩) 0 63, .slice none 0 0] 59)).setCell ⟨bx, 0, none⟩ (ptr (w.heap.size + 1)))) := by
        have hs1 : (w.alloc (.cells Z.toArray 9)).heap.size = w.heap.size + 1 := by simp
        have hN := Blk.new (w.alloc (.cells Z.toArray 9)) [.slice (some ⟨w.heap.size, 0, none⟩) 0 63, .slice none 0 0] 59
        rw [hs1] at hN
        have hK : Own ((w.alloc (.cells Z.toArray 9)).alloc (.cells #[.slice (some ⟨w.heap.size, 0, none⟩) 0 63, .slice none 0 0] 59)) 9 (.slice (some ⟨w.heap.size, 0, none⟩) 0 63) w.heap.size (([] : List ByteArray).map Value.string) :=
          ⟨Z, by simp [HZ.out], by simpa using (Blk.new w Z 9).alloc _, by simp [HZ.out]⟩
        have hc : Chg [] w ((w.alloc (.cells Z.toArray 9)).alloc (.cells #[.slice (some ⟨w.heap.size, 0, none⟩) 0 63, .slice none 0 0] 59)) := ((Chg.refl _ _).alloc _).alloc _
        have G : Gr w (fun _ => none) := ⟨by simp, by simp, by simp, by simp, by simp⟩
        obtain ⟨nd', T', hn'⟩ := Tr.first (B := B) hsz (cut_leaf G (by omega) hc hN hK (Nat.le_refl _)) rfl
        have hX1 := HX.out.chg hc (by simp)
        have hbel : Below B w ((w.alloc (.cells Z.toArray 9)).alloc (.cells #[.slice (some ⟨w.heap.size, 0, none⟩) 0 63, .slice none 0 0] 59)) := hc.below.mono hsz
        exact ⟨nd', w.heap.size + 1, _, 0, hX1.set 0 _, T'.setIdx hX1 0 _, hn', Or.inr ⟨rfl, rfl⟩, Nat.zero_le _, hbel.setCell hbx _, by simp⟩
      clear HX HI
      go_wp2_with fail
      go_meet
      case rel => exact R.out
    | some p =>
      have R : Hid (p.off = 0 ∧ p.spot = none ∧ Sta B w bx h 63 w) := by
        rcases HI.out with ⟨_, _, hX'⟩ | ⟨nd, root, ri, H, rfl, hX', T, hri, hrl, hr1⟩
        · have := hX'.cell (k := 0) rfl
          rw [HX.out.cell (k := 0) rfl] at this
          simp at this
        · have := hX'.cell (k := 0) rfl
          rw [HX.out.cell (k := 0) rfl] at this
          obtain rfl : p = ⟨root, 0, none⟩ := by simpa using this
          exact ⟨rfl, rfl, nd, root, ri, H, hX', T, hri, Or.inl (by omega), by omega, Below.refl _ _, (T.gr.loc _ _ hri).hi⟩
      obtain ⟨pb, po, ps⟩ := p
      obtain ⟨rfl, rfl, _⟩ := R.out
      have hq := eql_ptr
      clear HX HI
      go_wp2_with fail
      go_meet
      case rel => exact R.out.2.2
  case rest =>
    obtain ⟨nd, root, ri, H, hX, T, hri, hr, hH, hbel, h63⟩ := hcut
    obtain ⟨kz, cz, hBz⟩ := T.gr.form hri
    have e1 := hX.cell (k := 0) rfl
    have e2 := hBz.cell (k := 0) rfl
    have HS : Hid (Blk wc bx 55 [ptr root] ∧ Tr B wc nd root H ∧ nd root = some ri ∧ (1 ≤ ri.ks.length ∨ (ri.ks.length = 0 ∧ H = 0)) ∧ H ≤ h ∧ Below B w wc) := ⟨hX, T, hri, hr, hH, hbel⟩
    clear hX T hri hr hH hbel hBz HX HI c1
    go_upto_if 26 with fail
    go_cut [] from 7 (fun wr => Sta B w bx (h + 1) 62 wr)
    case first =>
      by_cases hfull : ri.ks.length = 63
      · have t1 : ((ri.ks.length : Int) == 63) = true := by simp; omega
        have HF := hid' hfull
        clear hfull
        have hX := HS.out.1
        have f1 : ∀ o1, (wc.alloc o1).cell? ⟨bx, 0, none⟩ = some (ptr root) := fun o1 => (hX.alloc o1).cell (k := 0) rfl
        have f3 : ∀ o1 o2 o3, (((wc.alloc o1).alloc o2).alloc o3).cell? ⟨bx, 0, none⟩ = some (ptr root) := fun o1 o2 o3 => (((hX.alloc o1).alloc o2).alloc o3).cell (k := 0) rfl
        have f4 : ∀ o1 o2 o3, (((wc.alloc o1).alloc o2).alloc o3).frozen? ⟨bx, 0, none⟩ = false := fun o1 o2 o3 => (((hX.alloc o1).alloc o2).alloc o3).frozen 0
        clear hX
        go_wp2_with fail
        go_region
        · have hs1 : (wc.alloc (.cells Z.toArray 9)).heap.size = wc.heap.size + 1 := by simp
          have hs2 : ((wc.alloc (.cells Z.toArray 9)).alloc (.cells #[ptr root] 34)).heap.size = wc.heap.size + 1 + 1 := by simp
          have hN := Blk.new ((wc.alloc (.cells Z.toArray 9)).alloc (.cells #[ptr root] 34)) [.slice (some ⟨wc.heap.size, 0, none⟩) 0 63, .slice (some ⟨wc.heap.size + 1, 0, none⟩) 1 1] 59
          rw [hs2] at hN
          have n1 : Blk (((wc.alloc (.cells Z.toArray 9)).alloc (.cells #[ptr root] 34)).alloc (.cells #[.slice (some ⟨wc.heap.size, 0, none⟩) 0 63, .slice (some ⟨wc.heap.size + 1, 0, none⟩) 1 1] 59)) wc.heap.size 9 Z := ((Blk.new wc Z 9).alloc _).alloc _
          have n2 : Blk (((wc.alloc (.cells Z.toArray 9)).alloc (.cells #[ptr root] 34)).alloc (.cells #[.slice (some ⟨wc.heap.size, 0, none⟩) 0 63, .slice (some ⟨wc.heap.size + 1, 0, none⟩) 1 1] 59)) (wc.heap.size + 1) 34 [ptr root] := by
            have := Blk.new (wc.alloc (.cells Z.toArray 9)) [ptr root] 34
            rw [hs1] at this
            exact this.alloc _
          obtain ⟨hX, T, hri, hr, hH, hbel⟩ := HS.out
          have F := grow_facts hX T hri HF.out hbel hbx hN (⟨Z, by simp [HZ.out], by simpa using n1, by simp [HZ.out]⟩ : Own (((wc.alloc (.cells Z.toArray 9)).alloc (.cells #[ptr root] 34)).alloc (.cells #[.slice (some ⟨wc.heap.size, 0, none⟩) 0 63, .slice (some ⟨wc.heap.size + 1, 0, none⟩) 1 1] 59)) 9 (.slice (some ⟨wc.heap.size, 0, none⟩) 0 63) (wc.heap.size) (([] : List ByteArray).map Value.string))
            (⟨[], rfl, n2, by simp⟩ : Own (((wc.alloc (.cells Z.toArray 9)).alloc (.cells #[ptr root] 34)).alloc (.cells #[.slice (some ⟨wc.heap.size, 0, none⟩) 0 63, .slice (some ⟨wc.heap.size + 1, 0, none⟩) 1 1] 59)) 34 (.slice (some ⟨wc.heap.size + 1, 0, none⟩) 1 1) (wc.heap.size + 1) [ptr root]) ((((Chg.refl _ _).alloc _).alloc _).alloc _) (by omega) (by omega) (by omega)
          clear hX T hri hr hbel hN n1 n2 hs1 hs2 f1 f3 f4 e1 e2
          generalize World.drew (World.setCell _ _ _) = W at F ⊢
          obtain ⟨hXn, ⟨nd', ni, Tn, hn', hnl, hn0, hk0, hroot'⟩, hbel⟩ := F
          have e1 := hXn.cell (k := 0) rfl
          have HS2 : Hid (Blk W bx 55 [ptr (wc.heap.size + 1 + 1)] ∧ Tr B W nd' (wc.heap.size + 1 + 1) (H + 1) ∧ nd' (wc.heap.size + 1 + 1) = some ni ∧ ni.lv = H + 1 ∧ ni.ks.length = 0 ∧ ni.kids[0]? = some root ∧ nd' root = some ri ∧ Below B w W ∧ H ≤ h) := ⟨hXn, Tn, hn', hnl, hn0, hk0, hroot', hbel, hH⟩
          clear hXn Tn hn' hnl hn0 hk0 hroot' hbel hH HS
          go_wp2_with fail
          obtain ⟨hXn, Tn, hn', hnl, hn0, hk0, hroot', hbel, hH⟩ := HS2.out
          refine (split_gr (i := 0) Tn.gr hn' hnl hk0 hroot' HF.out (by omega)).mono ?_
          rintro e w2 ⟨rfl, O, N, S, C, D⟩
          obtain ⟨nd2, ni2, ci2, r2, qi2, ri2, T2, q1, q2, q3, q4, q5, q6, q7, q8, q9, q10, q11, q12, q13⟩ := Tn.split hn' hnl hk0 hn' C D
          have R : Hid (Sta B w bx (h + 1) 62 w2) := by
            rw [q1] at q12
            cases q12
            exact ⟨nd2, _, ni2, H + 1, (Tn.kept C).idx _ _ hXn, T2, q1, Or.inl (by omega), by omega, hbel.trans (Tn.kept C).bel, by omega⟩
          clear hXn Tn hn' hnl hn0 hk0 hroot' hbel hH HS2 C D T2 q1 q2 q3 q4 q5 q6 q7 q8 q9 q10 q11 q12 q13
          go_wp2_with fail
          go_meet
          case rel => exact R.out
        · have hs1 : (wc.alloc (.cells #[ptr root] 34)).heap.size = wc.heap.size + 1 := by simp
          have hs2 : ((wc.alloc (.cells #[ptr root] 34)).alloc (.cells Z.toArray 9)).heap.size = wc.heap.size + 1 + 1 := by simp
          have hN := Blk.new ((wc.alloc (.cells #[ptr root] 34)).alloc (.cells Z.toArray 9)) [.slice (some ⟨wc.heap.size + 1, 0, none⟩) 0 63, .slice (some ⟨wc.heap.size, 0, none⟩) 1 1] 59
          rw [hs2] at hN
          have n1 : Blk (((wc.alloc (.cells #[ptr root] 34)).alloc (.cells Z.toArray 9)).alloc (.cells #[.slice (some ⟨wc.heap.size + 1, 0, none⟩) 0 63, .slice (some ⟨wc.heap.size, 0, none⟩) 1 1] 59)) wc.heap.size 34 [ptr root] := ((Blk.new wc [ptr root] 34).alloc _).alloc _
          have n2 : Blk (((wc.alloc (.cells #[ptr root] 34)).alloc (.cells Z.toArray 9)).alloc (.cells #[.slice (some ⟨wc.heap.size + 1, 0, none⟩) 0 63, .slice (some ⟨wc.heap.size, 0, none⟩) 1 1] 59)) (wc.heap.size + 1) 9 Z := by
            have := Blk.new (wc.alloc (.cells #[ptr root] 34)) Z 9
            rw [hs1] at this
            exact this.alloc _
          obtain ⟨hX, T, hri, hr, hH, hbel⟩ := HS.out
          have F := grow_facts hX T hri HF.out hbel hbx hN (⟨Z, by simp [HZ.out], by simpa using n2, by simp [HZ.out]⟩ : Own (((wc.alloc (.cells #[ptr root] 34)).alloc (.cells Z.toArray 9)).alloc (.cells #[.slice (some ⟨wc.heap.size + 1, 0, none⟩) 0 63, .slice (some ⟨wc.heap.size, 0, none⟩) 1 1] 59)) 9 (.slice (some ⟨wc.heap.size + 1, 0, none⟩) 0 63) (wc.heap.size + 1) (([] : List ByteArray).map Value.string))
            (⟨[], rfl, n1, by simp⟩ : Own (((wc.alloc (.cells #[ptr root] 34)).alloc (.cells Z.toArray 9)).alloc (.cells #[.slice (some ⟨wc.heap.size + 1, 0, none⟩) 0 63, .slice (some ⟨wc.heap.size, 0, none⟩) 1 1] 59)) 34 (.slice (some ⟨wc.heap.size, 0, none⟩) 1 1) (wc.heap.size) [ptr root]) ((((Chg.refl _ _).alloc _).alloc _).alloc _) (by omega) (by omega) (by omega)
          clear hX T hri hr hbel hN n1 n2 hs1 hs2 f1 f3 f4 e1 e2
          generalize World.drew (World.setCell _ _ _) = W at F ⊢
          obtain ⟨hXn, ⟨nd', ni, Tn, hn', hnl, hn0, hk0, hroot'⟩, hbel⟩ := F
          have e1 := hXn.cell (k := 0) rfl
          have HS2 : Hid (Blk W bx 55 [ptr (wc.heap.size + 1 + 1)] ∧ Tr B W nd' (wc.heap.size + 1 + 1) (H + 1) ∧ nd' (wc.heap.size + 1 + 1) = some ni ∧ ni.lv = H + 1 ∧ ni.ks.length = 0 ∧ ni.kids[0]? = some root ∧ nd' root = some ri ∧ Below B w W ∧ H ≤ h) := ⟨hXn, Tn, hn', hnl, hn0, hk0, hroot', hbel, hH⟩
          clear hXn Tn hn' hnl hn0 hk0 hroot' hbel hH HS
          go_wp2_with fail
          obtain ⟨hXn, Tn, hn', hnl, hn0, hk0, hroot', hbel, hH⟩ := HS2.out
          refine (split_gr (i := 0) Tn.gr hn' hnl hk0 hroot' HF.out (by omega)).mono ?_
          rintro e w2 ⟨rfl, O, N, S, C, D⟩
          obtain ⟨nd2, ni2, ci2, r2, qi2, ri2, T2, q1, q2, q3, q4, q5, q6, q7, q8, q9, q10, q11, q12, q13⟩ := Tn.split hn' hnl hk0 hn' C D
          have R : Hid (Sta B w bx (h + 1) 62 w2) := by
            rw [q1] at q12
            cases q12
            exact ⟨nd2, _, ni2, H + 1, (Tn.kept C).idx _ _ hXn, T2, q1, Or.inl (by omega), by omega, hbel.trans (Tn.kept C).bel, by omega⟩
          clear hXn Tn hn' hnl hn0 hk0 hroot' hbel hH HS2 C D T2 q1 q2 q3 q4 q5 q6 q7 q8 q9 q10 q11 q12 q13
          go_wp2_with fail
          go_meet
          case rel => exact R.out
      · have t1 : ((ri.ks.length : Int) == 63) = false := by simp; omega
        go_wp2_with fail
        go_meet
        case rel =>
          obtain ⟨hX, T, hri, hr, hH, hbel⟩ := HS.out
          exact ⟨nd, root, ri, H, hX, T, hri, hr, by omega, hbel, by omega⟩
    case rest =>
      clear HS e1 e2
      obtain ⟨nd, root, ri, H, hX, T, hri, hr, hH, hbel, h62⟩ := hcut
      have e1 := hX.cell (k := 0) rfl
      have HS : Hid (Blk wc bx 55 [ptr root] ∧ Tr B wc nd root H ∧ nd root = some ri ∧ (1 ≤ ri.ks.length ∨ (ri.ks.length = 0 ∧ H = 0)) ∧ Below B w wc ∧ ri.ks.length ≤ 62) := ⟨hX, T, hri, hr, hbel, h62⟩
      clear hX T hri hr hbel h62
      go_wp2_with fail
      clear e1
      go_loopg [4] H (fun k t4 wr => ∃ nd n ni ri, t4 = ptr n ∧ Blk wr bx 55 [ptr root] ∧ Tr B wr nd root H ∧ nd n = some ni ∧ ni.lv = k ∧ ni.ks.length ≤ 62 ∧ nd root = some ri ∧ (1 ≤ ri.ks.length ∨ (n = root ∧ H = 0)) ∧ Below B w wr)
      case atStart =>
        obtain ⟨hX, T, hri, hr, hbel, h62⟩ := HS.out
        obtain ⟨j, hj, hjl⟩ := T.rt
        rw [hri] at hj; cases hj
        exact ⟨nd, root, ri, ri, rfl, hX, T, hri, hjl, h62, hri, by rcases hr with h | h; exact Or.inl h; exact Or.inr ⟨rfl, h.2⟩, hbel⟩
      case round =>
        clear HS ri nd
        obtain ⟨nd, n, ni, ri, rfl, hX, T, hn, hlv, h62, hri, hr, hbel⟩ := hrel
        have HT : Hid (Blk wr bx 55 [ptr root] ∧ Tr B wr nd root H ∧ nd n = some ni ∧ ni.lv = gk ∧ nd root = some ri ∧ (1 ≤ ri.ks.length ∨ (n = root ∧ H = 0)) ∧ Below B w wr) := ⟨hX, T, hn, hlv, hri, hr, hbel⟩
        have DONE : Hid (0 < ni.ks.length → Grew B w wr bx h) := fun hpos => by
          have h1 : 1 ≤ ri.ks.length := by
            rcases hr with h | ⟨h, _⟩
            · exact h
            · rw [← h, hn] at hri; cases hri; exact hpos
          exact ⟨H + 1, ri.ks.length, ⟨hbx, T.sz, Or.inr ⟨nd, root, ri, H, rfl, hX, T, hri, rfl, h1⟩⟩, by omega, hbel⟩
        have hown := (T.gr.loc n ni hn).key
        obtain ⟨kc, hkv⟩ := hown.form
        rw [List.length_map] at hkv
        rw [hkv] at hown
        have HKV := hid' hkv
        have HO := hid' hown
        cases gk with
        | zero =>
          obtain ⟨kc2, hB⟩ := T.gr.leaf_form hn hlv
          have hkc : kc2 = kc := by
            have := (T.gr.loc n ni hn).blk.cell (k := 0) rfl
            rw [hB.cell (k := 0) rfl, hkv] at this
            simpa using this
          subst hkc
          have HB := hid' hB
          have d1 := hB.cell (k := 0) rfl
          clear hX T hn hlv hri hr hbel hown hkv hB
          go_wp2_with fail
          refine (search_any _ _ _ _ _ HO.out (by omega)).mono ?_
          rintro e w1 ⟨⟨i, f, rfl, hi, hf⟩, rfl⟩
          cases f
          · clear hf DONE
            go_wp2_with fail
            refine (leaf_any _ _ _ _ _ _ HB.out).mono ?_
            rintro e w1 ⟨rfl, rfl⟩
            go_wp2_with fail
            obtain ⟨hX, T, hn, hlv, hri, hr, hbel⟩ := HT.out
            have g1 : Chg [] w1 (w1.alloc (.cells #[.string key] 9)) := (Chg.refl _ _).alloc _
            refine (insertS' _ _ ni.g w1.heap.size i _ (ni.ks.map Value.string) (.string key) rfl (HO.out.chg g1 (by simp)) (by simp; omega) (by simpa using hi) (Blk.new w1 [.string key] 9) (by have := HO.out.lt; omega) rfl (str_one _)).mono ?_
            rintro e w2 ⟨v2, rfl, g', ho2, hg', g2⟩
            obtain ⟨KS, hKS⟩ : ∃ KS, KS = (ni.ks.map Value.string).take i ++ Value.string key :: (ni.ks.map Value.string).drop i := ⟨_, rfl⟩
            rw [← hKS] at ho2
            obtain ⟨p2, rfl⟩ := ho2.form
            have g3 : Chg [ni.g] w1 w2 := (g1.sub (by simp)).then g2 (by simp)
            have hgn : ni.g ≠ n := HO.out.ne HB.out
            have hB2 := HB.out.chg g3 (by simpa using hgn.symm)
            have f1 := hB2.cell (k := 0) rfl
            have f2 := hB2.frozen 0
            have hcv : ni.cv = .slice none 0 0 := by
              have := (T.gr.loc n ni hn).blk.cell (k := 1) rfl
              rw [HB.out.cell (k := 1) rfl] at this
              simpa using this.symm
            have C : Cut w1 (w2.setCell ⟨n, 0, none⟩ (.slice (some ⟨g', 0, none⟩) KS.length p2)) nd [(n, ni)] [(n, { ni with kv := .slice (some ⟨g', 0, none⟩) KS.length p2, g := g', ks := ni.ks.take i ++ key :: ni.ks.drop i })] [n, ni.g] :=
              cut_one T.gr hn ((g3.sub (by simp)).setCell (Or.inl (by simp)) _) (by simp) (by rw [hcv]; exact hB2.set 0 _) (by rw [List.map_append, List.map_cons, List.map_take, List.map_drop, ← hKS]; exact ho2.setOther (ho2.ne hB2) _) (by
                rcases hg' with h | h
                · exact Or.inl h
                · right; simp at h; omega) (by simp; omega) (Or.inl hlv)
            have hk2 := T.kept C
            obtain ⟨nd', T', hn', hoth⟩ := T.one hn C rfl (fun h => by have := T.mn n ni hn h; simp; omega)
            have R : Hid (Grew B w (w2.setCell ⟨n, 0, none⟩ (.slice (some ⟨g', 0, none⟩) KS.length p2)) bx h) := by
              obtain ⟨rz, hrz, hr1⟩ : ∃ rz, nd' root = some rz ∧ 1 ≤ rz.ks.length := by
                by_cases hnr : n = root
                · exact ⟨_, by rw [← hnr]; exact hn', by simp; omega⟩
                · refine ⟨ri, by rw [hoth root (fun e => hnr e.symm)]; exact hri, ?_⟩
                  rcases hr with h | ⟨h, _⟩
                  · exact h
                  · exact absurd h hnr
              exact ⟨H + 1, rz.ks.length, ⟨hbx, T'.sz, Or.inr ⟨nd', root, rz, H, rfl, hk2.idx _ _ hX, T', hrz, rfl, hr1⟩⟩, by omega, hbel.trans hk2.bel⟩
            clear hX T hn hlv hri hr hbel C hk2 T' hn' hoth hB2 hcv g1 g2 g3 ho2 hKS
            go_wp2_with fail
            refine bodyPost_ret (results_none rfl _ _ _) rfl ?_
            exact ⟨rfl, R.out⟩
          · have hin := hf rfl
            have R := hid' (DONE.out (by omega))
            clear hf DONE
            go_wp2_with fail
            refine bodyPost_ret (results_none rfl _ _ _) rfl ?_
            exact ⟨rfl, R.out⟩
        | succ L =>
          obtain ⟨cn, kc2, cc, _, hB, hcell⟩ := T.gr.inner_form hn hlv
          have hkc : kc2 = kc := by
            have := (T.gr.loc n ni hn).blk.cell (k := 0) rfl
            rw [hB.cell (k := 0) rfl, hkv] at this
            simpa using this
          subst hkc
          have HB := hid' hB
          have hkl := T.gr.kids_len hn (by omega)
          have HKL := hid' hkl
          have HCE := hid' hcell
          have HK : Hid (∀ k c, ni.kids[k]? = some c → ∃ ci kcc cvv, nd c = some ci ∧ ci.lv = L ∧ ci.ks.length ≤ 63 ∧ Blk wr c 59 [.slice (some ⟨ci.g, 0, none⟩) ci.ks.length kcc, cvv]) := fun k c hk => by
            obtain ⟨ci, hci, hcl, _⟩ := T.gr.kid hn hlv (List.mem_of_getElem? hk)
            obtain ⟨kcc, cvv, hb⟩ := T.gr.form hci
            exact ⟨ci, kcc, cvv, hci, hcl, (T.gr.loc c ci hci).hi, hb⟩
          have hr1 : 1 ≤ ri.ks.length := by
            rcases hr with h | ⟨h1, h2⟩
            · exact h
            · have := T.lv_le hn; omega
          have d1 := hB.cell (k := 0) rfl
          have d2 := hB.cell (k := 1) rfl
          clear hX T hn hlv hri hr hbel hown hkv hB hkl hcell
          go_wp2_with fail
          refine (search_any _ _ _ _ _ HO.out (by omega)).mono ?_
          rintro e w1 ⟨⟨i, f, rfl, hi, hf⟩, rfl⟩
          cases f
          · clear hf DONE
            obtain ⟨c, hc⟩ : ∃ c, ni.kids[i]? = some c := ⟨ni.kids[i]'(by rw [HKL.out]; omega), by simp⟩
            obtain ⟨ci, kcc, cvv, hci, hcl, h63, hBc⟩ := HK.out i c hc
            have e1 := HCE.out i c hc
            have e2 := hBc.cell (k := 0) rfl
            have e3 : (i : Int) < (ni.kids.length : Int) := by have := HKL.out; omega
            have HCI : Hid (ni.kids[i]? = some c ∧ nd c = some ci ∧ ci.lv = L) := ⟨hc, hci, hcl⟩
            clear hc hci hcl hBc
            go_wp2_with fail
            refine (leaf_any _ _ _ _ _ _ HB.out).mono ?_
            rintro e w1 ⟨rfl, rfl⟩
            by_cases hfull : ci.ks.length = 63
            · have t1 : ((ci.ks.length : Int) == 63) = true := by simp; omega
              have HF := hid' hfull
              clear hfull
              go_wp2_with fail
              obtain ⟨hX, T, hn, hlv, hri, hr, hbel⟩ := HT.out
              refine (split_gr T.gr hn hlv HCI.out.1 HCI.out.2.1 HF.out h62).mono ?_
              rintro e w2 ⟨rfl, O, N, S, C, D⟩
              obtain ⟨nd2, ni2, ci2, r2, qi2, ri2, T2, q1, q2, q3, q4, q5, q6, q7, q8, q9, q10, q11, q12, q13⟩ := T.split hn hlv HCI.out.1 hri C D
              have hk2 := T.kept C
              have hX2 := hk2.idx _ _ hX
              have hb2 := hbel.trans hk2.bel
              obtain ⟨cn2, kc2, cc2, _, hB2, hcell2⟩ := T2.gr.inner_form q1 q2
              obtain ⟨s, hs⟩ : ∃ s, ni2.ks[i]? = some s := ⟨ni2.ks[i]'(by omega), by simp⟩
              have a1 := hB2.cell (k := 0) rfl
              have a2 := hB2.cell (k := 1) rfl
              have a3 := hcell2 i c q4
              have a4 := hcell2 (i + 1) r2 q8
              have a5 := T2.gr.key_cell q1 hs
              have a6 : (i : Int) < (ni2.ks.length : Int) := by omega
              have hkl2 := T2.gr.kids_len q1 (by omega)
              have a7 : (i : Int) < (ni2.kids.length : Int) := by omega
              have b2 : IntKind.i64.wrap ((i : Int) + 1) = (i : Int) + 1 := by rw [IntKind.wrap_i64]; omega
              have b3 : (i : Int) + 1 < (ni2.kids.length : Int) := by omega
              have b4 : (0 : Int) ≤ (i : Int) + 1 := by omega
              have b5 : ((i : Int) + 1).toNat = i + 1 := by omega
              have R : Hid (Grew B w w2 bx h) := ⟨H + 1, ri2.ks.length, ⟨hbx, T2.sz, Or.inr ⟨nd2, root, ri2, H, rfl, hX2, T2, q12, rfl, by omega⟩⟩, by omega, hb2⟩
              have HN : Hid (Blk w2 bx 55 [ptr root] ∧ Tr B w2 nd2 root H ∧ nd2 root = some ri2 ∧ 1 ≤ ri2.ks.length ∧ Below B w w2 ∧ nd2 c = some ci2 ∧ ci2.lv = L ∧ ci2.ks.length = 31 ∧ nd2 r2 = some qi2 ∧ qi2.lv = L ∧ qi2.ks.length = 31) := ⟨hX2, T2, q12, by omega, hb2, q5, q6, q7, q9, q10, q11⟩
              clear hX T hn hlv hri hr hbel C D T2 hk2 hX2 hb2 hB2 hcell2 hs q1 q2 q3 q4 q5 q6 q7 q8 q9 q10 q11 q12 q13 HT HCI HF HK HCE HO HB HKV d1 d2 e1 e2 e3 hkl2 HKL t1
              go_wp2_with fail
              · refine bodyPost_ret (results_none rfl _ _ _) rfl ?_
                exact ⟨rfl, R.out⟩
              · go_roundg L
                case measure => omega
                case rel =>
                  obtain ⟨p1, p2, p3, p4, p5, p6, p7, p8, p9, p10, p11⟩ := HN.out
                  exact ⟨nd2, r2, qi2, ri2, rfl, p1, p2, p9, p10, by omega, p3, Or.inl p4, p5⟩
              · go_roundg L
                case measure => omega
                case rel =>
                  obtain ⟨p1, p2, p3, p4, p5, p6, p7, p8, p9, p10, p11⟩ := HN.out
                  exact ⟨nd2, c, ci2, ri2, rfl, p1, p2, p6, p7, by omega, p3, Or.inl p4, p5⟩
            · have t1 : ((ci.ks.length : Int) == 63) = false := by simp; omega
              go_wp2_with fail
              go_roundg L
              case measure => omega
              case rel => exact ⟨nd, c, ci, ri, rfl, HT.out.1, HT.out.2.1, HCI.out.2.1, HCI.out.2.2, by omega, HT.out.2.2.2.2.1, Or.inl hr1, HT.out.2.2.2.2.2.2⟩
          · have hin := hf rfl
            have R := hid' (DONE.out (by omega))
            clear hf DONE
            go_wp2_with fail
            refine bodyPost_ret (results_none rfl _ _ _) rfl ?_
            exact ⟨rfl, R.out⟩
end Go.Proofs.Qxb6601743a
