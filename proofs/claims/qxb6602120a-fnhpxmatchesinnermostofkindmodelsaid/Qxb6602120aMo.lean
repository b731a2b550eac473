import Derived.Test.Qxb6602120aMs
namespace Go.Proofs.Qxb6602120a
open Go.RowKit

/-- What both answer with: the closed ones in order. -/
def Outs (S : St) (oD : Nat → Nat) (oC : Nat → Int) (k : Nat) : Prop := ∀ j, j < k → S.st j = 1 → oD (cnt (fun x => decide (S.st x = 1)) j) = S.ds j ∧ oC (cnt (fun x => decide (S.st x = 1)) j) = S.cl j

/-- How many are closed. -/
def nOut (S : St) : Nat := cnt (fun x => decide (S.st x = 1)) S.m

def ModP (s : ByteArray) (w : World) (e : Ending) (w' : World) : Prop :=
  ∃ aD cD aC cC oD oC, e = .returned (.tuple #[.slice aD (nOut (run (vOf s) s.size s.size)) cD, .slice aC (nOut (run (vOf s) s.size s.size)) cC]) ∧ Rd nat w' aD (nOut (run (vOf s) s.size s.size)) oD ∧ Rd int w' aC (nOut (run (vOf s) s.size s.size)) oC ∧ Outs (run (vOf s) s.size s.size) oD oC (run (vOf s) s.size s.size).m ∧ Chg [] w w'

theorem Outs.skip {S : St} {oD : Nat → Nat} {oC : Nat → Int} {k : Nat} (h : Outs S oD oC k) (hk : S.st k ≠ 1) : Outs S oD oC (k + 1) := fun j hj h1 => h j (by
  by_cases e : j = k
  · rw [e] at h1; exact absurd h1 hk
  · omega) h1

theorem Outs.step {S : St} {oD : Nat → Nat} {oC : Nat → Int} {k : Nat} (h : Outs S oD oC k) : Outs S (upd oD (cnt (fun x => decide (S.st x = 1)) k) (S.ds k)) (upd oC (cnt (fun x => decide (S.st x = 1)) k) (S.cl k)) (k + 1) := fun j hj h1 => by
  by_cases e : j = k
  · subst e; rw [upd_same, upd_same]; exact ⟨rfl, rfl⟩
  · have := cnt_lt (fun x => decide (S.st x = 1)) (show j < k by omega) (by simp [h1])
    rw [upd_ne _ _ (by omega), upd_ne _ _ (by omega)]
    exact h j (by omega) h1

set_option maxHeartbeats 20000000 in
set_option maxRecDepth 100000 in
theorem model_any (s : ByteArray) (hs : s.size ≤ 4096) (w : World) : Calls Try.prog 26 #[.string s] w fun e w' => ModP s w e w' := by
  go_enter Try.func26, Try.ntmps26
  go_wp2_with fail
  go_loopg [5, 6, 7, 8, 9, 10, 11, 12, 13] s.size (fun g v5 v6 v7 v8 i vc vk vj vm wr => ∃ (q : Nat) (a5 a6 a7 a8 : Option Addr) (c5 c6 c7 c8 : Nat), q + g = s.size ∧ i = .int .i64 q ∧ v5 = .slice a5 (run (vOf s) s.size q).m c5 ∧ v6 = .slice a6 (run (vOf s) s.size q).m c6 ∧ v7 = .slice a7 (run (vOf s) s.size q).m c7 ∧ v8 = .slice a8 (run (vOf s) s.size q).m c8 ∧ MSt w wr a5 a6 a7 a8 c5 c6 c7 c8 (run (vOf s) s.size q))
  case atStart =>
    refine ⟨0, none, none, none, none, 0, 0, 0, 0, by omega, rfl, rfl, rfl, rfl, rfl, ?_⟩
    exact ⟨Or.inl ⟨rfl, rfl, rfl⟩, Or.inl ⟨rfl, rfl, rfl⟩, Or.inl ⟨rfl, rfl, rfl⟩, Or.inl ⟨rfl, rfl, rfl⟩, by simp [blkOf], by simp [blkOf], by simp [blkOf], by simp [blkOf], by omega, by omega, by omega, by omega, Chg.refl _ _⟩
  case round =>
  obtain ⟨q, a5, a6, a7, a8, c5, c6, c7, c8, hqg, rfl, rfl, rfl, rfl, rfl, hM⟩ := hrel
  have hinv := run_inv (vOf s) s.size q
  obtain ⟨S, hS⟩ : ∃ S, S = run (vOf s) s.size q := ⟨_, rfl⟩
  rw [← hS] at hM hinv ⊢
  have HS := hid hS
  clear hS
  have hle := hinv.le
  obtain ⟨m, hm⟩ : ∃ m, m = S.m := ⟨_, rfl⟩
  rw [← hm] at hle ⊢
  have Hm := hid hm
  have HM := hid hM
  clear hm hM hinv
  obtain ⟨wz, rfl⟩ : ∃ wz, wz = wr := ⟨_, rfl⟩
  by_cases hlt : q < s.size
  · have t0 : (q : Int) < (s.size : Int) := by omega
    have t00 : IntKind.i64.wrap ((q : Int) + 1) = (q : Int) + 1 := by rw [IntKind.wrap_i64]; omega
    obtain ⟨y, hy⟩ : ∃ y, y = vOf s q := ⟨_, rfl⟩
    have hv : s[q].toNat = y := by rw [hy]; exact vOf_get hlt
    have Hy := hid hy
    clear hy
    by_cases ho : isOpen (vOf s) s.size q = true
    · obtain ⟨o1, o2, o3⟩ := isOpen_iff.1 ho
      have HR : Hid (run (vOf s) s.size (q + 1) = S.opened (vOf s) q) := by
        show _ = _
        rw [run, ← HS.out, step, if_pos ho]
      obtain ⟨z, hz⟩ : ∃ z, z = vOf s (q + 1) := ⟨_, rfl⟩
      have hv1 : s[q + 1].toNat = z := by rw [hz]; exact vOf_get o2
      rw [← Hy.out] at o1
      obtain ⟨b5, e5, W1, b6, e6, W2, b7, e7, W3, b8, e8, W4, r1, r2, r3, r4, hM4⟩ := HM.out.push (by rw [← Hm.out]; omega) (vOf s) q
      rw [← hz] at r2 o3
      rw [← Hm.out] at r1 r2 r3 r4
      have HM4 := hid hM4
      clear hM4 hz ho
      have t1 : (q : Int) + 1 < (s.size : Int) := by omega
      obtain rfl : y = 36 := o1
      have HEND : Hid ((S.opened (vOf s) q).m = m + 1) := by show S.m + 1 = m + 1; rw [Hm.out]
      by_cases u : z = 123
      · have t2 : ((z : Int) == 123) = true := by simp; omega
        clear u o3
        go_wp2_with (at_builtin; first | refine wpList_append_eq _ rfl (.tmp 49) (.tmp 51) 28 28 rfl _ _ rfl rfl (r1 _) ?_ | refine wpList_append_eq _ rfl (.tmp 53) (.tmp 58) 25 25 rfl _ _ rfl rfl (r2 _) ?_ | refine wpList_append_eq _ rfl (.tmp 60) (.tmp 61) 28 28 rfl _ _ rfl rfl (r3 _) ?_ | refine wpList_append_eq _ rfl (.tmp 63) (.tmp 64) 28 28 rfl _ _ rfl rfl (r4 _) ?_)
        go_roundg (s.size - (q + 1))
        case measure => omega
        case rel => exact ⟨q + 1, _, _, _, _, _, _, _, _, by omega, by simp, by rw [HR.out, HEND.out], by rw [HR.out, HEND.out], by rw [HR.out, HEND.out], by rw [HR.out, HEND.out], by rw [HR.out]; exact HM4.out⟩
      · have t2 : ((z : Int) == 123) = false := by simp; omega
        have t2n : ¬ (z : Int) = 123 := by omega
        have t3 : ((z : Int) == 91) = true := by simp; omega
        clear u o3
        go_wp2_with (at_builtin; first | refine wpList_append_eq _ rfl (.tmp 49) (.tmp 51) 28 28 rfl _ _ rfl rfl (r1 _) ?_ | refine wpList_append_eq _ rfl (.tmp 53) (.tmp 58) 25 25 rfl _ _ rfl rfl (r2 _) ?_ | refine wpList_append_eq _ rfl (.tmp 60) (.tmp 61) 28 28 rfl _ _ rfl rfl (r3 _) ?_ | refine wpList_append_eq _ rfl (.tmp 63) (.tmp 64) 28 28 rfl _ _ rfl rfl (r4 _) ?_)
        go_roundg (s.size - (q + 1))
        case measure => omega
        case rel => exact ⟨q + 1, _, _, _, _, _, _, _, _, by omega, by simp, by rw [HR.out, HEND.out], by rw [HR.out, HEND.out], by rw [HR.out, HEND.out], by rw [HR.out, HEND.out], by rw [HR.out]; exact HM4.out⟩
    · have hno : isOpen (vOf s) s.size q = false := by simpa using ho
      have HST : Hid (kindOf y = none → run (vOf s) s.size (q + 1) = S) := fun hk => by
        rw [run, ← HS.out, step, if_neg ho, ← Hy.out, hk]
      clear ho
      by_cases uy : y = 36
      · have HR : Hid (run (vOf s) s.size (q + 1) = S) := HST.out (by rw [uy]; rfl)
        obtain rfl : y = 36 := uy
        by_cases u1 : q + 1 < s.size
        · obtain ⟨z, hz⟩ : ∃ z, z = vOf s (q + 1) := ⟨_, rfl⟩
          have hv1 : s[q + 1].toNat = z := by rw [hz]; exact vOf_get u1
          have hz2 : z ≠ 123 ∧ z ≠ 91 := by
            have h1 : ¬ isOpen (vOf s) s.size q = true := by rw [hno]; simp
            rw [isOpen_iff, ← hz, ← Hy.out] at h1
            omega
          have t1 : (q : Int) + 1 < (s.size : Int) := by omega
          have t2 : ((z : Int) == 123) = false := by simp; omega
          have t2n : ¬ (z : Int) = 123 := by omega
          have t3 : ((z : Int) == 91) = false := by simp; omega
          have t3n : ¬ (z : Int) = 91 := by omega
          clear hz hz2 hno
          go_wp2_with fail
          go_roundg (s.size - (q + 1))
          case measure => omega
          case rel => exact ⟨q + 1, a5, a6, a7, a8, c5, c6, c7, c8, by omega, by simp, by rw [HR.out, ← Hm.out], by rw [HR.out, ← Hm.out], by rw [HR.out, ← Hm.out], by rw [HR.out, ← Hm.out], by rw [HR.out]; exact HM.out⟩
        · have t1 : decide ((q : Int) + 1 < (s.size : Int)) = false := by simp; omega
          have t1n : ¬ (q : Int) + 1 < (s.size : Int) := by omega
          have t1m : decide (q + 1 < s.size) = false := by simp; omega
          clear hno
          go_wp2_with fail
          go_roundg (s.size - (q + 1))
          case measure => omega
          case rel => exact ⟨q + 1, a5, a6, a7, a8, c5, c6, c7, c8, by omega, by simp, by rw [HR.out, ← Hm.out], by rw [HR.out, ← Hm.out], by rw [HR.out, ← Hm.out], by rw [HR.out, ← Hm.out], by rw [HR.out]; exact HM.out⟩
      · have t1 : ((y : Int) == 36) = false := by simp; omega
        have t1n : ¬ (y : Int) = 36 := by omega
        by_cases uy1 : y = 125
        · have hkind : kindOf y = some 123 := by rw [uy1]; rfl
          have tyc : ((y : Int) == 125) = true := by simp; omega
          have HSt : Hid (∀ j, lastOpen S.st S.kd 123 S.m = some j → run (vOf s) s.size (q + 1) = S.closed j q) := fun j hj => by
            rw [run, ← HS.out, step, if_neg (by rw [hno]; simp), ← Hy.out, hkind]
            simp only
            rw [hj]
          have HSn : Hid (lastOpen S.st S.kd 123 S.m = none → run (vOf s) s.size (q + 1) = S) := fun hj => by
            rw [run, ← HS.out, step, if_neg (by rw [hno]; simp), ← Hy.out, hkind]
            simp only
            rw [hj]
          clear hno hkind uy1
          have t3 : IntKind.i64.wrap ((m : Int) - 1) = (m : Int) - 1 := by rw [IntKind.wrap_i64]; omega
          go_wp2_with fail
          clear t3
          go_loopg [12] m (fun g jv wr => ∃ x : Nat, x = g ∧ x ≤ m ∧ jv = .int .i64 ((x : Int) - 1) ∧ (∀ t, x ≤ t → t < m → ¬ (S.st t = 0 ∧ S.kd t = 123)) ∧ wz = wr)
          case atStart => exact ⟨m, rfl, Nat.le_refl _, rfl, fun t h1 h2 => by omega, rfl⟩
          case round =>
            obtain ⟨x, hxg, hxm, rfl, hno2, rfl⟩ := hrel
            have HNO := hid hno2
            clear hno2
            cases x with
            | zero =>
              clear hxg
              have e0 : ((0 : Nat) : Int) - 1 = -1 := rfl
              rw [e0]
              clear e0
              have R := HSn.out (lastOpen_none (fun t h => HNO.out t (by omega) (by rw [Hm.out]; exact h)))
              have HR := hid R
              clear R
              go_wp2_with fail
              go_roundg (s.size - (q + 1))
              case measure => omega
              case rel => exact ⟨q + 1, a5, a6, a7, a8, c5, c6, c7, c8, by omega, by simp, by rw [HR.out, ← Hm.out], by rw [HR.out, ← Hm.out], by rw [HR.out, ← Hm.out], by rw [HR.out, ← Hm.out], by rw [HR.out]; exact HM.out⟩
            | succ x =>
              have hxS : x < S.m := by rw [← Hm.out]; omega
              obtain ⟨b7, rfl, hr7⟩ := HM.out.st.at hxS
              obtain ⟨b6, rfl, hr6⟩ := HM.out.kd.at hxS
              have r7 : wz.cell? ⟨b7, x, none⟩ = some (.int .i64 (S.st x)) := hr7.read hxS
              have r6 : wz.cell? ⟨b6, x, none⟩ = some (.int .u8 (S.kd x)) := hr6.read hxS
              have f7 := hr7.frozen x
              have e1 : ((x + 1 : Nat) : Int) - 1 = (x : Int) := by omega
              rw [e1]
              have t4 : (x : Int) < (m : Int) := by omega
              have t5 : IntKind.i64.wrap ((x : Int) - 1) = (x : Int) - 1 := by rw [IntKind.wrap_i64]; omega
              obtain ⟨sv, hsv⟩ : ∃ sv, sv = S.st x := ⟨_, rfl⟩
              obtain ⟨kv, hkv⟩ : ∃ kv, kv = S.kd x := ⟨_, rfl⟩
              rw [← hsv] at r7
              rw [← hkv] at r6
              have HV : Hid (sv = S.st x ∧ kv = S.kd x) := ⟨hsv, hkv⟩
              clear hsv hkv e1
              by_cases u1 : sv = 0
              · by_cases u2 : kv = 123
                · subst u1
                  obtain rfl : kv = 123 := u2
                  simp only [Int.natCast_zero] at r7
                  have hlast : lastOpen S.st S.kd 123 S.m = some x := lastOpen_some hxS HV.out.1.symm HV.out.2.symm (fun t h1 h2 => HNO.out t (by omega) (by rw [Hm.out]; exact h2))
                  have HR := hid (HSt.out x hlast)
                  obtain ⟨b8, rfl, hr8⟩ := HM.out.cl.at hxS
                  have n78 : b7 ≠ b8 := fun e => HM.out.d7 b7 (by simp [blkOf]) (by simp [blkOf, e])
                  have r71 := hr7.set x 1
                  have r8a := hr8.other (p := ⟨b7, x, none⟩) (fun e => n78 e.symm) (nat 1)
                  have lo7 := HM.out.lo b7 (by simp [blkOf])
                  have lo8 := HM.out.lo b8 (by simp [blkOf])
                  have ca := HM.out.c.setCell (p := ⟨b7, x, none⟩) (Or.inr lo7) (nat 1)
                  obtain ⟨Wa, hWa⟩ : ∃ Wa, wz.setCell ⟨b7, x, none⟩ (.int .i64 1) = Wa := ⟨_, rfl⟩
                  have r71' : Row 3 nat Wa b7 S.m c7 (upd S.st x 1) := by rw [← hWa]; exact r71
                  have r8a' : Row 3 int Wa b8 S.m c8 S.cl := by rw [← hWa]; exact r8a
                  have ca' : Chg [] w Wa := by rw [← hWa]; exact ca
                  have r8 : Wa.cell? ⟨b8, x, none⟩ = some (.int .i64 (S.cl x)) := r8a'.read hxS
                  have f8 := r8a'.frozen x
                  have c78 : Chg [b7, b8] wz (Wa.setCell ⟨b8, x, none⟩ (int q)) := by
                    rw [← hWa]
                    exact ((Chg.refl [b7, b8] wz).setCell (p := ⟨b7, x, none⟩) (Or.inl (by simp)) _).setCell (Or.inl (by simp)) _
                  obtain ⟨Wb, hWb⟩ : ∃ Wb, Wa.setCell ⟨b8, x, none⟩ (.int .i64 (q : Int)) = Wb := ⟨_, rfl⟩
                  have HB : Hid (Row 3 nat Wb b7 S.m c7 (upd S.st x 1) ∧ Row 3 int Wb b8 S.m c8 (upd S.cl x q) ∧ Chg [] w Wb ∧ Chg [b7, b8] wz Wb) := by
                    rw [← hWb]
                    exact ⟨r71'.other n78 _, r8a'.set x q, ca'.setCell (Or.inr lo8) _, c78⟩
                  have t6 : IntKind.i64.wrap ((x : Int) + 1) = (x : Int) + 1 := by rw [IntKind.wrap_i64]; omega
                  have t7 : decide ((x : Int) < 0) = false := by simp
                  clear hr7 hr6 hr8 r71 r8a ca r71' r8a' ca' c78 hlast
                  go_wp2_with fail
                  clear hWa hWb r7 r6 r8 f7 f8
                  go_loopg [13] (m - (x + 1)) (fun g tv wr => ∃ (t : Nat) (st' : Nat → Nat), t + g = m ∧ x + 1 ≤ t ∧ tv = .int .i64 t ∧ Row 3 nat wr b7 S.m c7 st' ∧ (∀ z, st' z = if z = x then 1 else if x < z ∧ z < t ∧ S.st z = 0 then 2 else S.st z) ∧ Row 3 int wr b8 S.m c8 (upd S.cl x q) ∧ Chg [] w wr ∧ Chg [b7, b8] wz wr)
                  case atStart =>
                    refine ⟨x + 1, _, by omega, Nat.le_refl _, by simp, HB.out.1, fun z => ?_, HB.out.2.1, HB.out.2.2.1, HB.out.2.2.2⟩
                    by_cases e : z = x
                    · subst e; rw [upd_same, if_pos rfl]
                    · rw [upd_ne _ _ e, if_neg e, if_neg (by omega)]
                  case round =>
                    obtain ⟨t, st', htg, hxt, rfl, hrs, hst', hr8, hcw, hcw2⟩ := hrel
                    have HR3 := hid (And.intro hrs (And.intro hst' (And.intro hr8 (And.intro hcw hcw2))))
                    by_cases hlt2 : t < m
                    · have htS : t < S.m := by rw [← Hm.out]; exact hlt2
                      have r9 : wr.cell? ⟨b7, t, none⟩ = some (.int .i64 (st' t)) := hrs.read htS
                      have f9 := hrs.frozen t
                      have hstt : st' t = S.st t := by rw [hst' t, if_neg (by omega), if_neg (by omega)]
                      rw [hstt] at r9
                      have t8 : (t : Int) < (m : Int) := by omega
                      obtain ⟨tv, htv⟩ : ∃ tv, tv = S.st t := ⟨_, rfl⟩
                      rw [← htv] at r9
                      have n78' : b7 ≠ b8 := n78
                      have HZ : Hid (Row 3 nat (wr.setCell ⟨b7, t, none⟩ (.int .i64 2)) b7 S.m c7 (upd st' t 2) ∧ (tv = 0 → ∀ z, upd st' t 2 z = if z = x then 1 else if x < z ∧ z < t + 1 ∧ S.st z = 0 then 2 else S.st z) ∧ (tv ≠ 0 → ∀ z, st' z = if z = x then 1 else if x < z ∧ z < t + 1 ∧ S.st z = 0 then 2 else S.st z) ∧ Row 3 int (wr.setCell ⟨b7, t, none⟩ (.int .i64 2)) b8 S.m c8 (upd S.cl x q) ∧ Chg [] w (wr.setCell ⟨b7, t, none⟩ (.int .i64 2)) ∧ Chg [b7, b8] wz (wr.setCell ⟨b7, t, none⟩ (.int .i64 2))) := by
                        refine ⟨hrs.set t 2, fun h0 z => ?_, fun h0 z => ?_, hr8.other (fun e => n78' e.symm) _, hcw.setCell (Or.inr lo7) _, hcw2.setCell (Or.inl (by simp)) _⟩
                        · by_cases e : z = t
                          · subst e; rw [upd_same, if_neg (by omega), if_pos ⟨by omega, by omega, by rw [← htv]; exact h0⟩]
                          · rw [upd_ne _ _ e, hst' z]
                            by_cases e2 : z = x
                            · rw [if_pos e2, if_pos e2]
                            · rw [if_neg e2, if_neg e2]
                              by_cases e3 : x < z ∧ z < t ∧ S.st z = 0
                              · rw [if_pos e3, if_pos ⟨e3.1, by omega, e3.2.2⟩]
                              · rw [if_neg e3, if_neg (fun h => e3 ⟨h.1, by omega, h.2.2⟩)]
                        · rw [hst' z]
                          by_cases e2 : z = x
                          · rw [if_pos e2, if_pos e2]
                          · rw [if_neg e2, if_neg e2]
                            by_cases e3 : x < z ∧ z < t ∧ S.st z = 0
                            · rw [if_pos e3, if_pos ⟨e3.1, by omega, e3.2.2⟩]
                            · rw [if_neg e3, if_neg (fun h => e3 ⟨h.1, by
                                by_cases e4 : z = t
                                · exfalso; rw [e4, ← htv] at h; exact h0 h.2.2
                                · omega, h.2.2⟩)]
                      clear hrs hst' hr8 hcw hcw2 hstt htv
                      by_cases u3 : tv = 0
                      · subst u3
                        simp only [Int.natCast_zero] at r9
                        go_wp2_with fail
                        go_roundg (m - (t + 1))
                        case measure => omega
                        case rel =>
                          obtain ⟨q1, q2, q3, q4, q5, q6⟩ := HZ.out
                          exact ⟨t + 1, _, by omega, by omega, by simp, q1, q2 (by first | trivial | rfl), q4, q5, q6⟩
                      · have t9 : ((tv : Int) == 0) = false := by simp; omega
                        have t10 : ¬ (tv : Int) = 0 := by omega
                        go_wp2_with fail
                        go_roundg (m - (t + 1))
                        case measure => omega
                        case rel =>
                          obtain ⟨q1, q2, q3, q4, q5, q6⟩ := HZ.out
                          exact ⟨t + 1, st', by omega, by omega, by simp, HR3.out.1, q3 u3, HR3.out.2.2.1, HR3.out.2.2.2.1, HR3.out.2.2.2.2⟩
                    · have t8 : ¬ (t : Int) < (m : Int) := by omega
                      have hME : Hid (MSt w wr a5 (some ⟨b6, 0, none⟩) (some ⟨b7, 0, none⟩) (some ⟨b8, 0, none⟩) c5 c6 c7 c8 (S.closed x q)) := by
                        have h := HM.out
                        have d7 := h.d7 b7 (by simp [blkOf])
                        refine ⟨h.ds.chg hcw2 (fun b hb hm => ?_), h.kd.chg hcw2 (fun b hb hm => ?_), (hrs.congr (fun z hz => ?_)).sr, hr8.sr, h.lo, h.d5, h.d6, h.d7, h.k5, h.k6, h.k7, h.k8, hcw⟩
                        · have := h.d5 b hb
                          simp [blkOf] at hm this
                          omega
                        · have := h.d6 b hb
                          simp [blkOf] at hm this
                          omega
                        · rw [hst' z]
                          show _ = closeSt S.m x S.st z
                          unfold closeSt
                          have e5 : t = S.m := by rw [← Hm.out]; omega
                          rw [e5]
                      clear hrs hst' hr8 hcw hcw2 HR3
                      go_wp2_with fail
                      go_roundg (s.size - (q + 1))
                      case measure => omega
                      case rel =>
                        have e6 : (S.closed x q).m = m := Hm.out.symm
                        exact ⟨q + 1, a5, some ⟨b6, 0, none⟩, some ⟨b7, 0, none⟩, some ⟨b8, 0, none⟩, c5, c6, c7, c8, by omega, by simp, by rw [HR.out, e6], by rw [HR.out, e6], by rw [HR.out, e6], by rw [HR.out, e6], by rw [HR.out]; exact hME.out⟩
                · have t6 : ((kv : Int) == 123) = false := by simp; omega
                  have t7 : ¬ (kv : Int) = 123 := by omega
                  subst u1
                  simp only [Int.natCast_zero] at r7
                  go_wp2_with fail
                  go_roundg x
                  case measure => omega
                  case rel =>
                    refine ⟨x, rfl, by omega, by simp, fun t h1 h2 hn => ?_, rfl⟩
                    by_cases e : t = x
                    · subst e; rw [← HV.out.2] at hn; exact u2 hn.2
                    · exact HNO.out t (by omega) h2 hn
              · have t6 : ((sv : Int) == 0) = false := by simp; omega
                have t7 : ¬ (sv : Int) = 0 := by omega
                go_wp2_with fail
                go_roundg x
                case measure => omega
                case rel =>
                  refine ⟨x, rfl, by omega, by simp, fun t h1 h2 hn => ?_, rfl⟩
                  by_cases e : t = x
                  · subst e; rw [← HV.out.1] at hn; exact u1 hn.1
                  · exact HNO.out t (by omega) h2 hn
        · have ty1 : ((y : Int) == 125) = false := by simp; omega
          have ty1n : ¬ (y : Int) = 125 := by omega
          by_cases uy2 : y = 93
          · have hkind : kindOf y = some 91 := by rw [uy2]; rfl
            have tyc : ((y : Int) == 93) = true := by simp; omega
            have HSt : Hid (∀ j, lastOpen S.st S.kd 91 S.m = some j → run (vOf s) s.size (q + 1) = S.closed j q) := fun j hj => by
              rw [run, ← HS.out, step, if_neg (by rw [hno]; simp), ← Hy.out, hkind]
              simp only
              rw [hj]
            have HSn : Hid (lastOpen S.st S.kd 91 S.m = none → run (vOf s) s.size (q + 1) = S) := fun hj => by
              rw [run, ← HS.out, step, if_neg (by rw [hno]; simp), ← Hy.out, hkind]
              simp only
              rw [hj]
            clear hno hkind uy2
            have t3 : IntKind.i64.wrap ((m : Int) - 1) = (m : Int) - 1 := by rw [IntKind.wrap_i64]; omega
            go_wp2_with fail
            clear t3
            go_loopg [12] m (fun g jv wr => ∃ x : Nat, x = g ∧ x ≤ m ∧ jv = .int .i64 ((x : Int) - 1) ∧ (∀ t, x ≤ t → t < m → ¬ (S.st t = 0 ∧ S.kd t = 91)) ∧ wz = wr)
            case atStart => exact ⟨m, rfl, Nat.le_refl _, rfl, fun t h1 h2 => by omega, rfl⟩
            case round =>
              obtain ⟨x, hxg, hxm, rfl, hno2, rfl⟩ := hrel
              have HNO := hid hno2
              clear hno2
              cases x with
              | zero =>
                clear hxg
                have e0 : ((0 : Nat) : Int) - 1 = -1 := rfl
                rw [e0]
                clear e0
                have R := HSn.out (lastOpen_none (fun t h => HNO.out t (by omega) (by rw [Hm.out]; exact h)))
                have HR := hid R
                clear R
                go_wp2_with fail
                go_roundg (s.size - (q + 1))
                case measure => omega
                case rel => exact ⟨q + 1, a5, a6, a7, a8, c5, c6, c7, c8, by omega, by simp, by rw [HR.out, ← Hm.out], by rw [HR.out, ← Hm.out], by rw [HR.out, ← Hm.out], by rw [HR.out, ← Hm.out], by rw [HR.out]; exact HM.out⟩
              | succ x =>
                have hxS : x < S.m := by rw [← Hm.out]; omega
                obtain ⟨b7, rfl, hr7⟩ := HM.out.st.at hxS
                obtain ⟨b6, rfl, hr6⟩ := HM.out.kd.at hxS
                have r7 : wz.cell? ⟨b7, x, none⟩ = some (.int .i64 (S.st x)) := hr7.read hxS
                have r6 : wz.cell? ⟨b6, x, none⟩ = some (.int .u8 (S.kd x)) := hr6.read hxS
                have f7 := hr7.frozen x
                have e1 : ((x + 1 : Nat) : Int) - 1 = (x : Int) := by omega
                rw [e1]
                have t4 : (x : Int) < (m : Int) := by omega
                have t5 : IntKind.i64.wrap ((x : Int) - 1) = (x : Int) - 1 := by rw [IntKind.wrap_i64]; omega
                obtain ⟨sv, hsv⟩ : ∃ sv, sv = S.st x := ⟨_, rfl⟩
                obtain ⟨kv, hkv⟩ : ∃ kv, kv = S.kd x := ⟨_, rfl⟩
                rw [← hsv] at r7
                rw [← hkv] at r6
                have HV : Hid (sv = S.st x ∧ kv = S.kd x) := ⟨hsv, hkv⟩
                clear hsv hkv e1
                by_cases u1 : sv = 0
                · by_cases u2 : kv = 91
                  · subst u1
                    obtain rfl : kv = 91 := u2
                    simp only [Int.natCast_zero] at r7
                    have hlast : lastOpen S.st S.kd 91 S.m = some x := lastOpen_some hxS HV.out.1.symm HV.out.2.symm (fun t h1 h2 => HNO.out t (by omega) (by rw [Hm.out]; exact h2))
                    have HR := hid (HSt.out x hlast)
                    obtain ⟨b8, rfl, hr8⟩ := HM.out.cl.at hxS
                    have n78 : b7 ≠ b8 := fun e => HM.out.d7 b7 (by simp [blkOf]) (by simp [blkOf, e])
                    have r71 := hr7.set x 1
                    have r8a := hr8.other (p := ⟨b7, x, none⟩) (fun e => n78 e.symm) (nat 1)
                    have lo7 := HM.out.lo b7 (by simp [blkOf])
                    have lo8 := HM.out.lo b8 (by simp [blkOf])
                    have ca := HM.out.c.setCell (p := ⟨b7, x, none⟩) (Or.inr lo7) (nat 1)
                    obtain ⟨Wa, hWa⟩ : ∃ Wa, wz.setCell ⟨b7, x, none⟩ (.int .i64 1) = Wa := ⟨_, rfl⟩
                    have r71' : Row 3 nat Wa b7 S.m c7 (upd S.st x 1) := by rw [← hWa]; exact r71
                    have r8a' : Row 3 int Wa b8 S.m c8 S.cl := by rw [← hWa]; exact r8a
                    have ca' : Chg [] w Wa := by rw [← hWa]; exact ca
                    have r8 : Wa.cell? ⟨b8, x, none⟩ = some (.int .i64 (S.cl x)) := r8a'.read hxS
                    have f8 := r8a'.frozen x
                    have c78 : Chg [b7, b8] wz (Wa.setCell ⟨b8, x, none⟩ (int q)) := by
                      rw [← hWa]
                      exact ((Chg.refl [b7, b8] wz).setCell (p := ⟨b7, x, none⟩) (Or.inl (by simp)) _).setCell (Or.inl (by simp)) _
                    obtain ⟨Wb, hWb⟩ : ∃ Wb, Wa.setCell ⟨b8, x, none⟩ (.int .i64 (q : Int)) = Wb := ⟨_, rfl⟩
                    have HB : Hid (Row 3 nat Wb b7 S.m c7 (upd S.st x 1) ∧ Row 3 int Wb b8 S.m c8 (upd S.cl x q) ∧ Chg [] w Wb ∧ Chg [b7, b8] wz Wb) := by
                      rw [← hWb]
                      exact ⟨r71'.other n78 _, r8a'.set x q, ca'.setCell (Or.inr lo8) _, c78⟩
                    have t6 : IntKind.i64.wrap ((x : Int) + 1) = (x : Int) + 1 := by rw [IntKind.wrap_i64]; omega
                    have t7 : decide ((x : Int) < 0) = false := by simp
                    clear hr7 hr6 hr8 r71 r8a ca r71' r8a' ca' c78 hlast
                    go_wp2_with fail
                    clear hWa hWb r7 r6 r8 f7 f8
                    go_loopg [13] (m - (x + 1)) (fun g tv wr => ∃ (t : Nat) (st' : Nat → Nat), t + g = m ∧ x + 1 ≤ t ∧ tv = .int .i64 t ∧ Row 3 nat wr b7 S.m c7 st' ∧ (∀ z, st' z = if z = x then 1 else if x < z ∧ z < t ∧ S.st z = 0 then 2 else S.st z) ∧ Row 3 int wr b8 S.m c8 (upd S.cl x q) ∧ Chg [] w wr ∧ Chg [b7, b8] wz wr)
                    case atStart =>
                      refine ⟨x + 1, _, by omega, Nat.le_refl _, by simp, HB.out.1, fun z => ?_, HB.out.2.1, HB.out.2.2.1, HB.out.2.2.2⟩
                      by_cases e : z = x
                      · subst e; rw [upd_same, if_pos rfl]
                      · rw [upd_ne _ _ e, if_neg e, if_neg (by omega)]
                    case round =>
                      obtain ⟨t, st', htg, hxt, rfl, hrs, hst', hr8, hcw, hcw2⟩ := hrel
                      have HR3 := hid (And.intro hrs (And.intro hst' (And.intro hr8 (And.intro hcw hcw2))))
                      by_cases hlt2 : t < m
                      · have htS : t < S.m := by rw [← Hm.out]; exact hlt2
                        have r9 : wr.cell? ⟨b7, t, none⟩ = some (.int .i64 (st' t)) := hrs.read htS
                        have f9 := hrs.frozen t
                        have hstt : st' t = S.st t := by rw [hst' t, if_neg (by omega), if_neg (by omega)]
                        rw [hstt] at r9
                        have t8 : (t : Int) < (m : Int) := by omega
                        obtain ⟨tv, htv⟩ : ∃ tv, tv = S.st t := ⟨_, rfl⟩
                        rw [← htv] at r9
                        have n78' : b7 ≠ b8 := n78
                        have HZ : Hid (Row 3 nat (wr.setCell ⟨b7, t, none⟩ (.int .i64 2)) b7 S.m c7 (upd st' t 2) ∧ (tv = 0 → ∀ z, upd st' t 2 z = if z = x then 1 else if x < z ∧ z < t + 1 ∧ S.st z = 0 then 2 else S.st z) ∧ (tv ≠ 0 → ∀ z, st' z = if z = x then 1 else if x < z ∧ z < t + 1 ∧ S.st z = 0 then 2 else S.st z) ∧ Row 3 int (wr.setCell ⟨b7, t, none⟩ (.int .i64 2)) b8 S.m c8 (upd S.cl x q) ∧ Chg [] w (wr.setCell ⟨b7, t, none⟩ (.int .i64 2)) ∧ Chg [b7, b8] wz (wr.setCell ⟨b7, t, none⟩ (.int .i64 2))) := by
                          refine ⟨hrs.set t 2, fun h0 z => ?_, fun h0 z => ?_, hr8.other (fun e => n78' e.symm) _, hcw.setCell (Or.inr lo7) _, hcw2.setCell (Or.inl (by simp)) _⟩
                          · by_cases e : z = t
                            · subst e; rw [upd_same, if_neg (by omega), if_pos ⟨by omega, by omega, by rw [← htv]; exact h0⟩]
                            · rw [upd_ne _ _ e, hst' z]
                              by_cases e2 : z = x
                              · rw [if_pos e2, if_pos e2]
                              · rw [if_neg e2, if_neg e2]
                                by_cases e3 : x < z ∧ z < t ∧ S.st z = 0
                                · rw [if_pos e3, if_pos ⟨e3.1, by omega, e3.2.2⟩]
                                · rw [if_neg e3, if_neg (fun h => e3 ⟨h.1, by omega, h.2.2⟩)]
                          · rw [hst' z]
                            by_cases e2 : z = x
                            · rw [if_pos e2, if_pos e2]
                            · rw [if_neg e2, if_neg e2]
                              by_cases e3 : x < z ∧ z < t ∧ S.st z = 0
                              · rw [if_pos e3, if_pos ⟨e3.1, by omega, e3.2.2⟩]
                              · rw [if_neg e3, if_neg (fun h => e3 ⟨h.1, by
                                  by_cases e4 : z = t
                                  · exfalso; rw [e4, ← htv] at h; exact h0 h.2.2
                                  · omega, h.2.2⟩)]
                        clear hrs hst' hr8 hcw hcw2 hstt htv
                        by_cases u3 : tv = 0
                        · subst u3
                          simp only [Int.natCast_zero] at r9
                          go_wp2_with fail
                          go_roundg (m - (t + 1))
                          case measure => omega
                          case rel =>
                            obtain ⟨q1, q2, q3, q4, q5, q6⟩ := HZ.out
                            exact ⟨t + 1, _, by omega, by omega, by simp, q1, q2 (by first | trivial | rfl), q4, q5, q6⟩
                        · have t9 : ((tv : Int) == 0) = false := by simp; omega
                          have t10 : ¬ (tv : Int) = 0 := by omega
                          go_wp2_with fail
                          go_roundg (m - (t + 1))
                          case measure => omega
                          case rel =>
                            obtain ⟨q1, q2, q3, q4, q5, q6⟩ := HZ.out
                            exact ⟨t + 1, st', by omega, by omega, by simp, HR3.out.1, q3 u3, HR3.out.2.2.1, HR3.out.2.2.2.1, HR3.out.2.2.2.2⟩
                      · have t8 : ¬ (t : Int) < (m : Int) := by omega
                        have hME : Hid (MSt w wr a5 (some ⟨b6, 0, none⟩) (some ⟨b7, 0, none⟩) (some ⟨b8, 0, none⟩) c5 c6 c7 c8 (S.closed x q)) := by
                          have h := HM.out
                          have d7 := h.d7 b7 (by simp [blkOf])
                          refine ⟨h.ds.chg hcw2 (fun b hb hm => ?_), h.kd.chg hcw2 (fun b hb hm => ?_), (hrs.congr (fun z hz => ?_)).sr, hr8.sr, h.lo, h.d5, h.d6, h.d7, h.k5, h.k6, h.k7, h.k8, hcw⟩
                          · have := h.d5 b hb
                            simp [blkOf] at hm this
                            omega
                          · have := h.d6 b hb
                            simp [blkOf] at hm this
                            omega
                          · rw [hst' z]
                            show _ = closeSt S.m x S.st z
                            unfold closeSt
                            have e5 : t = S.m := by rw [← Hm.out]; omega
                            rw [e5]
                        clear hrs hst' hr8 hcw hcw2 HR3
                        go_wp2_with fail
                        go_roundg (s.size - (q + 1))
                        case measure => omega
                        case rel =>
                          have e6 : (S.closed x q).m = m := Hm.out.symm
                          exact ⟨q + 1, a5, some ⟨b6, 0, none⟩, some ⟨b7, 0, none⟩, some ⟨b8, 0, none⟩, c5, c6, c7, c8, by omega, by simp, by rw [HR.out, e6], by rw [HR.out, e6], by rw [HR.out, e6], by rw [HR.out, e6], by rw [HR.out]; exact hME.out⟩
                  · have t6 : ((kv : Int) == 91) = false := by simp; omega
                    have t7 : ¬ (kv : Int) = 91 := by omega
                    subst u1
                    simp only [Int.natCast_zero] at r7
                    go_wp2_with fail
                    go_roundg x
                    case measure => omega
                    case rel =>
                      refine ⟨x, rfl, by omega, by simp, fun t h1 h2 hn => ?_, rfl⟩
                      by_cases e : t = x
                      · subst e; rw [← HV.out.2] at hn; exact u2 hn.2
                      · exact HNO.out t (by omega) h2 hn
                · have t6 : ((sv : Int) == 0) = false := by simp; omega
                  have t7 : ¬ (sv : Int) = 0 := by omega
                  go_wp2_with fail
                  go_roundg x
                  case measure => omega
                  case rel =>
                    refine ⟨x, rfl, by omega, by simp, fun t h1 h2 hn => ?_, rfl⟩
                    by_cases e : t = x
                    · subst e; rw [← HV.out.1] at hn; exact u1 hn.1
                    · exact HNO.out t (by omega) h2 hn
          · have HR : Hid (run (vOf s) s.size (q + 1) = S) := HST.out (by unfold kindOf; rw [if_neg uy1, if_neg uy2])
            have t2 : ((y : Int) == 125) = false := by simp; omega
            have t2n : ¬ (y : Int) = 125 := by omega
            have t3 : ((y : Int) == 93) = false := by simp; omega
            have t3n : ¬ (y : Int) = 93 := by omega
            clear hno
            go_wp2_with fail
            go_roundg (s.size - (q + 1))
            case measure => omega
            case rel => exact ⟨q + 1, a5, a6, a7, a8, c5, c6, c7, c8, by omega, by simp, by rw [HR.out, ← Hm.out], by rw [HR.out, ← Hm.out], by rw [HR.out, ← Hm.out], by rw [HR.out, ← Hm.out], by rw [HR.out]; exact HM.out⟩
  · obtain rfl : q = s.size := by omega
    have t0 : ¬ (s.size : Int) < (s.size : Int) := by omega
    clear hqg hlt
    go_wp2_with fail
    clear t0
    go_loopg [14, 15, 16] m (fun g v14 v15 i wr => ∃ (t : Nat) (aD aC : Option Addr) (cD cC : Nat) (oD : Nat → Nat) (oC : Nat → Int), t + g = m ∧ i = .int .i64 t ∧ v14 = .slice aD (cnt (fun x => decide (S.st x = 1)) t) cD ∧ v15 = .slice aC (cnt (fun x => decide (S.st x = 1)) t) cC ∧ SR 3 nat wr aD cD (cnt (fun x => decide (S.st x = 1)) t) oD ∧ SR 3 int wr aC cC (cnt (fun x => decide (S.st x = 1)) t) oC ∧ Outs S oD oC t ∧ (∀ b ∈ blkOf aD, wz.heap.size ≤ b ∧ b ∉ blkOf aC) ∧ (∀ b ∈ blkOf aC, wz.heap.size ≤ b) ∧ cD ≤ M63 ∧ cC ≤ M63 ∧ Chg [] wz wr)
    case atStart => exact ⟨0, none, none, 0, 0, fun _ => 0, fun _ => 0, by omega, rfl, rfl, rfl, Or.inl ⟨rfl, rfl, rfl⟩, Or.inl ⟨rfl, rfl, rfl⟩, fun j h => by omega, by simp [blkOf], by simp [blkOf], by omega, by omega, Chg.refl _ _⟩
    case round =>
    obtain ⟨t, aD, aC, cD, cC, oD, oC, htg, rfl, rfl, rfl, hD, hC, hO, dD, dC, kD, kC, hc⟩ := hrel
    have hcl := cnt_le_self (fun x => decide (S.st x = 1)) t
    have hcs : cnt (fun x => decide (S.st x = 1)) (t + 1) = cnt (fun x => decide (S.st x = 1)) t + (if decide (S.st t = 1) = true then 1 else 0) := rfl
    by_cases hlt : t < m
    · have htS : t < S.m := by rw [← Hm.out]; exact hlt
      have t1 : (t : Int) < (m : Int) := by omega
      obtain ⟨b7, e7, hr7⟩ := HM.out.st.at htS
      obtain ⟨b5, e5, hr5⟩ := HM.out.ds.at htS
      obtain ⟨b8, e8, hr8⟩ := HM.out.cl.at htS
      subst e7 e5 e8
      have r7 : wr.cell? ⟨b7, t, none⟩ = some (.int .i64 (S.st t)) := hc.cell (hr7.read htS)
      have r5 : wr.cell? ⟨b5, t, none⟩ = some (.int .i64 (S.ds t)) := hc.cell (hr5.read htS)
      have r8w : wz.cell? ⟨b8, t, none⟩ = some (.int .i64 (S.cl t)) := hr8.read htS
      obtain ⟨sv, hsv⟩ : ∃ sv, sv = S.st t := ⟨_, rfl⟩
      rw [← hsv] at r7
      by_cases u : sv = 1
      · have al : ∀ (u : World) (o : Obj), Chg [] u (u.alloc o) := fun u o => (Chg.refl [] u).alloc o
        obtain ⟨bD, eD, W1, q1, row1, ch1, bb1, k1⟩ := append_one EI (by omega) oneN hD kD (by omega) (al wr (.cells #[.int .i64 (S.ds t)] 3)) wr.heap.size (S.ds t) ((Blk.new wr [.int .i64 (S.ds t)] 3).cell rfl)
        have hC1 := hC.chg ch1 (fun b hb hm => (dD b hm).2 hb)
        have c1 : Chg [] wz W1 := hc.then ch1 (fun x hx => Or.inr (dD x hx).1)
        have r8 : W1.cell? ⟨b8, t, none⟩ = some (.int .i64 (S.cl t)) := c1.cell r8w
        obtain ⟨bC, eC, W2, q2, row2, ch2, bb2, k2⟩ := append_one EI (by omega) oneI hC1 kC (by omega) (al W1 (.cells #[.int .i64 (S.cl t)] 3)) W1.heap.size (S.cl t) ((Blk.new W1 [.int .i64 (S.cl t)] 3).cell rfl)
        have lC := hC.lt
        have z1 := ch1.size
        have zc := hc.size
        have lb1 := row1.lt
        have nDC : bD ∉ blkOf aC := fun hb => by
          rcases bb1 with q | q
          · exact (dD bD q).2 hb
          · have := lC bD hb; omega
        have HR : Hid (Row 3 nat W2 bD (cnt (fun x => decide (S.st x = 1)) t + 1) eD (upd oD (cnt (fun x => decide (S.st x = 1)) t) (S.ds t)) ∧ Row 3 int W2 bC (cnt (fun x => decide (S.st x = 1)) t + 1) eC (upd oC (cnt (fun x => decide (S.st x = 1)) t) (S.cl t)) ∧ Outs S (upd oD (cnt (fun x => decide (S.st x = 1)) t) (S.ds t)) (upd oC (cnt (fun x => decide (S.st x = 1)) t) (S.cl t)) (t + 1) ∧ (wz.heap.size ≤ bD ∧ bD ≠ bC) ∧ wz.heap.size ≤ bC ∧ eD ≤ M63 ∧ eC ≤ M63 ∧ Chg [] wz W2 ∧ cnt (fun x => decide (S.st x = 1)) (t + 1) = cnt (fun x => decide (S.st x = 1)) t + 1) := by
          refine ⟨row1.chg ch2 nDC, row2, hO.step, ⟨?_, fun e => ?_⟩, ?_, k1, k2, c1.then ch2 (fun x hx => Or.inr (dC x hx)), ?_⟩
          · rcases bb1 with q | q
            · exact (dD bD q).1
            · omega
          · rcases bb2 with q | q
            · rw [← e] at q; exact nDC q
            · omega
          · rcases bb2 with q | q
            · exact dC bC q
            · omega
          · rw [hcs, if_pos (by simp; omega)]
        obtain rfl : sv = 1 := u
        obtain ⟨dv, hdv⟩ : ∃ dv, dv = S.ds t := ⟨_, rfl⟩
        obtain ⟨cv, hcv⟩ : ∃ cv, cv = S.cl t := ⟨_, rfl⟩
        rw [← hdv] at r5 q1
        rw [← hcv] at r8 q2
        obtain ⟨cc, hcc⟩ : ∃ cc, cc = cnt (fun x => decide (S.st x = 1)) t := ⟨_, rfl⟩
        rw [← hcc] at q1 q2 ⊢
        have HCC := hid hcc
        clear hsv hdv hcv hD hC hO dD dC hC1 ch1 ch2 row1 row2 bb1 bb2 lC nDC hcs hcl hcc r8w c1 hr5 hr7 hr8 al
        go_wp2_with (at_builtin; first | refine wpList_append_eq _ rfl (.tmp 129) (.tmp 134) 28 28 rfl _ _ rfl rfl (q1 _) ?_ | refine wpList_append_eq _ rfl (.tmp 136) (.tmp 141) 28 28 rfl _ _ rfl rfl (q2 _) ?_)
        go_roundg (m - (t + 1))
        case measure => omega
        case rel =>
          obtain ⟨p1, p2, p3, p4, p5, p6, p7, p8, p9⟩ := HR.out
          exact ⟨t + 1, some ⟨bD, 0, none⟩, some ⟨bC, 0, none⟩, eD, eC, _, _, by omega, by simp, by rw [p9, HCC.out], by rw [p9, HCC.out], by rw [p9]; exact p1.sr, by rw [p9]; exact p2.sr, p3, by simp [blkOf]; exact p4, by simp [blkOf]; exact p5, p6, p7, p8⟩
      · have HR : Hid (cnt (fun x => decide (S.st x = 1)) (t + 1) = cnt (fun x => decide (S.st x = 1)) t ∧ Outs S oD oC (t + 1)) := ⟨by rw [hcs, if_neg (by simp; omega)]; rfl, hO.skip (by rw [← hsv]; exact u)⟩
        have HD := hid (And.intro hD (And.intro hC (And.intro dD (And.intro dC hc))))
        have t2 : ((sv : Int) == 1) = false := by simp; omega
        have t3 : ¬ (sv : Int) = 1 := by omega
        obtain ⟨cc, hcc⟩ : ∃ cc, cc = cnt (fun x => decide (S.st x = 1)) t := ⟨_, rfl⟩
        rw [← hcc]
        have HCC := hid hcc
        clear hsv hD hC hO dD dC hcs hcl hcc hr5 hr7 hr8
        go_wp2_with fail
        go_roundg (m - (t + 1))
        case measure => omega
        case rel =>
          obtain ⟨p1, p2, p3, p4, p5⟩ := HD.out
          exact ⟨t + 1, aD, aC, cD, cC, oD, oC, by omega, by simp, by rw [HR.out.1, HCC.out], by rw [HR.out.1, HCC.out], by rw [HR.out.1]; exact p1, by rw [HR.out.1]; exact p2, HR.out.2, p3, p4, kD, kC, p5⟩
    · have t1 : ¬ (t : Int) < (m : Int) := by omega
      have HR : Hid (Rd nat wr aD (nOut S) oD ∧ Rd int wr aC (nOut S) oC ∧ Outs S oD oC S.m ∧ Chg [] w wr ∧ cnt (fun x => decide (S.st x = 1)) t = nOut S) := by
        have e1 : t = S.m := by rw [← Hm.out]; omega
        rw [e1] at hD hC hO ⊢
        exact ⟨hD.rd, hC.rd, hO, HM.out.c.trans hc, rfl⟩
      rw [HR.out.2.2.2.2]
      clear hD hC hO dD dC hc hcs hcl
      go_wp2_with fail
      go_ret2
      have hSS := HS.out
      refine ⟨aD, cD, aC, cC, oD, oC, ?_, ?_, ?_, ?_, HR.out.2.2.2.1⟩
      · rw [← hSS]; rfl
      · rw [← hSS]; exact HR.out.1
      · rw [← hSS]; exact HR.out.2.1
      · rw [← hSS]; exact HR.out.2.2.1
end Go.Proofs.Qxb6602120a
