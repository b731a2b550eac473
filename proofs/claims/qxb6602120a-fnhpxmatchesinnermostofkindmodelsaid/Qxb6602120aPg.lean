import Derived.Test.Qxb6602120aPs
import Derived.Test.Qxb6602120aOu
import Derived.Deep.Strs
namespace Go.Proofs.Qxb6602120a
open Go.RowKit

theorem chg_cell (w : World) (b k : Nat) (u : Value) : Chg [b] w (w.setCell ⟨b, k, none⟩ u) := (Chg.refl [b] w).setCell (Or.inl (by simp)) u
theorem Row.pre {α : Type} {e : TypeId} {enc : α → Value} {w : World} {b cap n n' : Nat} {f : Nat → α} (h : Row e enc w b n cap f) (hn : n' ≤ n) : Row e enc w b n' cap f := by
  obtain ⟨L, q1, q2, q3, q4⟩ := h
  exact ⟨L, q1, q2, by omega, fun k hk => q4 k (by omega)⟩

theorem kinds_run (v : Nat → Nat) (n : Nat) : ∀ i j, j < (run v n i).m → (run v n i).kd j = 123 ∨ (run v n i).kd j = 91
  | 0, j, h => by simp [run] at h
  | i + 1, j, h => by
    have ih := kinds_run v n i
    rw [run, step] at h ⊢
    by_cases ho : isOpen v n i = true
    · rw [if_pos ho] at h ⊢
      obtain ⟨_, _, h3⟩ := isOpen_iff.1 ho
      by_cases e : j = (run v n i).m
      · subst e; simp only [St.opened, upd_same]; exact h3
      · simp only [St.opened, upd_ne _ _ e]; exact ih j (by have : j < (run v n i).m + 1 := h; omega)
    · rw [if_neg ho] at h ⊢
      cases hk : kindOf (v i) with
      | none => rw [hk] at h; exact ih j h
      | some k =>
        rw [hk] at h
        simp only at h ⊢
        cases hl : lastOpen (run v n i).st (run v n i).kd k (run v n i).m with
        | none => rw [hl] at h; exact ih j h
        | some x => rw [hl] at h; exact ih j h

theorem count_pop {mp : Mp} {a b a' b' : Nat} {kv : Nat} (hk : kv = 123 ∨ kv = 91) (h1 : getV mp 123 = a) (h2 : getV mp 91 = b) (e1 : a = a' + (if kv = 123 then 1 else 0)) (e2 : b = b' + (if kv = 91 then 1 else 0)) :
    getV (put mp kv (getV mp kv - 1)) 123 = a' ∧ getV (put mp kv (getV mp kv - 1)) 91 = b' := by
  rw [getV_put, getV_put]
  rcases hk with rfl | rfl
  · simp only [if_true] at e1
    rw [if_neg (by omega)] at e2
    have h3 : getV mp ((123 : Nat) : Int) = a := h1
    rw [h3, h2]
    simp
    omega
  · rw [if_neg (by omega)] at e1
    simp only [if_true] at e2
    have h3 : getV mp ((91 : Nat) : Int) = b := h2
    rw [h3, h1]
    simp
    omega

set_option maxHeartbeats 20000000 in
set_option maxRecDepth 100000 in
theorem match_any (s : ByteArray) (hs : s.size ≤ 4096) (w : World) : Calls Try.prog 33 #[.string s] w fun e w' => MatP s w e w' := by
  have hmk := run_makeMap (P := Try.prog) 42
  go_enter Try.func33, Try.ntmps33
  go_wp2_with fail
  clear hmk
  obtain ⟨mb, hmb⟩ : ∃ mb, mb = w.heap.size := ⟨_, rfl⟩
  rw [← hmb]
  have HMB := hid hmb
  clear hmb
  go_loopg [3, 4, 6, 7, 8, 9] s.size (fun g v3 v4 i v7 v8 v9 wr => ∃ (q : Nat) (af ak : Option Addr) (cf ck L : Nat) (sk : Nat → Nat) (mp : Mp), q + g = s.size ∧ i = .int .i64 q ∧ v3 = .slice af (run (vOf s) s.size q).m cf ∧ v4 = .slice ak L ck ∧ PSt w wr af ak cf ck mb L sk mp (run (vOf s) s.size q))
  case atStart =>
    refine ⟨0, none, none, 0, 0, 0, fun _ => 0, ([], 0), by omega, rfl, rfl, rfl, ?_⟩
    refine ⟨Or.inl ⟨rfl, rfl, rfl⟩, Or.inl ⟨rfl, rfl, rfl⟩, ?_, rfl, rfl, ⟨fun x hx => by omega, fun x y h1 h2 => by omega, fun j hj => by simp [run] at hj⟩, by simp [blkOf], by simp [blkOf], ?_, by omega, by omega, (Chg.refl [] w).alloc _⟩
    · rw [HMB.out]
      show (w.heap.push _)[w.heap.size]? = _
      simp [ents]
    · simp [blkOf]; rw [HMB.out]; exact Nat.le_refl _
  case round =>
  obtain ⟨q, af, ak, cf, ck, L, sk, mp, hqg, rfl, rfl, rfl, hP⟩ := hrel
  have hinv := run_inv (vOf s) s.size q
  obtain ⟨S, hS⟩ : ∃ S, S = run (vOf s) s.size q := ⟨_, rfl⟩
  rw [← hS] at hP hinv ⊢
  have HS := hid hS
  clear hS
  have hle := hinv.le
  have hLm : L ≤ 100000 := hP.sta.len hle (by omega)
  obtain ⟨m, hm⟩ : ∃ m, m = S.m := ⟨_, rfl⟩
  rw [← hm] at hle ⊢
  have Hm := hid hm
  have HP := hid hP
  clear hm hP hinv
  obtain ⟨wz, rfl⟩ : ∃ wz, wz = wr := ⟨_, rfl⟩
  by_cases hlt : q < s.size
  · have t0 : (q : Int) < (s.size : Int) := by omega
    have t00 : IntKind.i64.wrap ((q : Int) + 1) = (q : Int) + 1 := by rw [IntKind.wrap_i64]; omega
    obtain ⟨y, hy⟩ : ∃ y, y = vOf s q := ⟨_, rfl⟩
    have hv : s[q].toNat = y := by rw [hy]; exact vOf_get hlt
    have Hy := hid hy
    clear hy
    by_cases ho : isOpen (vOf s) s.size q = true
    · obtain ⟨o1, o2, o3⟩ := isOpen_iff.1 ho
      have HR : Hid (run (vOf s) s.size (q + 2) = S.opened (vOf s) q) := by
        show _ = _
        rw [HS.out]; exact run_skip ho
      obtain ⟨z, hz⟩ : ∃ z, z = vOf s (q + 1) := ⟨_, rfl⟩
      have hv1 : s[q + 1].toNat = z := by rw [hz]; exact vOf_get o2
      rw [← Hy.out] at o1
      obtain ⟨bk, ek, W1, bf, ef, W2, r1, r2, hmp2, hP2⟩ := HP.out.push (by rw [← Hm.out]; omega) hLm (vOf s) q
      rw [← hz] at hP2 o3
      rw [← Hm.out] at r1 r2
      have hget := run_get (P := Try.prog) Try.underlying42 Try.underlying5 zero3 hmp2 z
      have hput := run_put (P := Try.prog) Try.underlying42 Try.underlying5 hmp2 z (getV mp z + 1)
      have hgb : 0 ≤ getV mp z ∧ getV mp z ≤ 100000 := by
        have hb : ∀ k, openOf S.st S.kd k S.m ≤ S.m := fun k => cnt_le_self _ _
        rcases o3 with e | e
        · rw [e]; show 0 ≤ getV mp 123 ∧ getV mp 123 ≤ 100000
          rw [HP.out.g1]; have := hb 123; have := Hm.out; omega
        · rw [e]; show 0 ≤ getV mp 91 ∧ getV mp 91 ≤ 100000
          rw [HP.out.g2]; have := hb 91; have := Hm.out; omega
      obtain ⟨gv, hgv⟩ : ∃ gv, gv = getV mp z := ⟨_, rfl⟩
      rw [← hgv] at hget hput hgb
      obtain ⟨W3, hW3⟩ : ∃ W3, setMap W2 mb (put mp z (gv + 1)) = W3 := ⟨_, rfl⟩
      rw [hW3] at hput
      rw [← hgv, hW3] at hP2
      have HP2 := hid hP2
      clear hP2 hz ho hgv hW3 hmp2
      have t1 : (q : Int) + 1 < (s.size : Int) := by omega
      have t01 : IntKind.i64.wrap ((q : Int) + 1 + 1) = (q : Int) + 2 := by rw [IntKind.wrap_i64]; omega
      have t5 : IntKind.i64.wrap (gv + 1) = gv + 1 := by rw [IntKind.wrap_i64]; omega
      have ty36 : ((y : Int) == 36) = true := by simp; omega
      have HEND : Hid ((S.opened (vOf s) q).m = m + 1) := by show S.m + 1 = m + 1; rw [Hm.out]
      by_cases u : z = 123
      · have t2 : ((z : Int) == 123) = true := by simp; omega
        clear u o3 o1
        go_wp2_with (at_builtin; first | refine wpList_append_eq _ rfl (.tmp 46) (.tmp 49) 28 28 rfl _ _ rfl rfl (r1 _) ?_ | refine wpList_append_eq _ rfl (.tmp 51) (.tmp 54) 34 34 rfl _ _ rfl rfl (r2 _) ?_)
        go_roundg (s.size - (q + 2))
        case measure => omega
        case rel => exact ⟨q + 2, _, _, _, _, _, _, _, by omega, by simp, by rw [HR.out, HEND.out], rfl, by rw [HR.out]; exact HP2.out⟩
      · have t2 : ((z : Int) == 123) = false := by simp; omega
        have t2n : ¬ (z : Int) = 123 := by omega
        have t3 : ((z : Int) == 91) = true := by simp; omega
        clear u o3 o1
        go_wp2_with (at_builtin; first | refine wpList_append_eq _ rfl (.tmp 46) (.tmp 49) 28 28 rfl _ _ rfl rfl (r1 _) ?_ | refine wpList_append_eq _ rfl (.tmp 51) (.tmp 54) 34 34 rfl _ _ rfl rfl (r2 _) ?_)
        go_roundg (s.size - (q + 2))
        case measure => omega
        case rel => exact ⟨q + 2, _, _, _, _, _, _, _, by omega, by simp, by rw [HR.out, HEND.out], rfl, by rw [HR.out]; exact HP2.out⟩
    · have hno : isOpen (vOf s) s.size q = false := by simpa using ho
      have HST : Hid (kindOf y = none → run (vOf s) s.size (q + 1) = S) := fun hk => by
        rw [run, ← HS.out, step, if_neg ho, ← Hy.out, hk]
      clear ho
      by_cases uy : y = 36
      · have HR : Hid (run (vOf s) s.size (q + 1) = S) := HST.out (by rw [uy]; rfl)
        have ty36 : ((y : Int) == 36) = true := by simp; omega
        have ty1 : ((y : Int) == 125) = false := by simp; omega
        have ty2 : ((y : Int) == 93) = false := by simp; omega
        have ty3 : ((y : Int) != 93) = true := by simp; omega
        by_cases u1 : q + 1 < s.size
        · obtain ⟨z, hz⟩ : ∃ z, z = vOf s (q + 1) := ⟨_, rfl⟩
          have hv1 : s[q + 1].toNat = z := by rw [hz]; exact vOf_get u1
          have hz2 : z ≠ 123 ∧ z ≠ 91 := by
            have h1 : ¬ isOpen (vOf s) s.size q = true := by rw [hno]; simp
            rw [isOpen_iff, ← hz, ← Hy.out] at h1
            omega
          have t1 : (q : Int) + 1 < (s.size : Int) := by omega
          have t2 : ((z : Int) == 123) = false := by simp; omega
          have t2n : ¬ (z : Int) = 123 := by omega
          have t3 : ((z : Int) == 91) = false := by simp; omega
          have t3n : ¬ (z : Int) = 91 := by omega
          clear hz hz2 hno uy
          go_wp2_with fail
          go_roundg (s.size - (q + 1))
          case measure => omega
          case rel => exact ⟨q + 1, af, ak, cf, ck, L, sk, mp, by omega, by simp, by rw [HR.out, ← Hm.out], rfl, by rw [HR.out]; exact HP.out⟩
        · have t1 : decide ((q : Int) + 1 < (s.size : Int)) = false := by simp; omega
          have t1n : ¬ (q : Int) + 1 < (s.size : Int) := by omega
          have t1m : decide (q + 1 < s.size) = false := by simp; omega
          clear hno uy
          go_wp2_with fail
          go_roundg (s.size - (q + 1))
          case measure => omega
          case rel => exact ⟨q + 1, af, ak, cf, ck, L, sk, mp, by omega, by simp, by rw [HR.out, ← Hm.out], rfl, by rw [HR.out]; exact HP.out⟩
      · have t1 : ((y : Int) == 36) = false := by simp; omega
        have t1n : ¬ (y : Int) = 36 := by omega
        by_cases uy1 : y = 125
        · have hkind : kindOf y = some 123 := by rw [uy1]; rfl
          have tyc : ((y : Int) == 125) = true := by simp; omega
          have HSt : Hid (∀ j, lastOpen S.st S.kd 123 S.m = some j → run (vOf s) s.size (q + 1) = S.closed j q) := fun j hj => by
            rw [run, ← HS.out, step, if_neg (by rw [hno]; simp), ← Hy.out, hkind]
            simp only
            rw [hj]
          have HSn : Hid (lastOpen S.st S.kd 123 S.m = none → run (vOf s) s.size (q + 1) = S) := fun hj => by
            rw [run, ← HS.out, step, if_neg (by rw [hno]; simp), ← Hy.out, hkind]
            simp only
            rw [hj]
          clear hno hkind uy1
          have hget := run_get (P := Try.prog) Try.underlying42 Try.underlying5 zero3 HP.out.map 123
          rw [HP.out.g1] at hget
          obtain ⟨cv, hcv⟩ : ∃ cv, cv = openOf S.st S.kd 123 S.m := ⟨_, rfl⟩
          rw [← hcv] at hget
          have HCV := hid hcv
          clear hcv
          by_cases u : cv = 0
          · have HR := hid (HSn.out (openOf_zero (by rw [← HCV.out]; exact u)))
            have t2 : ((cv : Int) == 0) = true := by simp; omega
            clear u
            go_wp2_with fail
            go_roundg (s.size - (q + 1))
            case measure => omega
            case rel => exact ⟨q + 1, af, ak, cf, ck, L, sk, mp, by omega, by simp, by rw [HR.out, ← Hm.out], rfl, by rw [HR.out]; exact HP.out⟩
          · have t2 : ((cv : Int) == 0) = false := by simp; omega
            have t2n : ¬ (cv : Int) = 0 := by omega
            have HPOS : Hid (0 < openOf S.st S.kd 123 S.m) := by show 0 < openOf S.st S.kd 123 S.m; rw [← HCV.out]; omega
            go_wp2_with fail
            clear t2 t2n hget u
            go_loopg [4, 9] L (fun g v4 v9 wr => ∃ (L' p : Nat) (mp' : Mp), L' = g ∧ v4 = .slice ak L' ck ∧ Pop S.st S.kd S.m L sk 123 L' p ∧ MapAt wr mb mp' ∧ getV mp' 123 = openOf (cutFrom p S.st) S.kd 123 S.m ∧ getV mp' 91 = openOf (cutFrom p S.st) S.kd 91 S.m ∧ 0 < openOf (cutFrom p S.st) S.kd 123 S.m ∧ Chg [mb] wz wr)
            case atStart =>
              refine ⟨L, S.m, mp, rfl, rfl, Pop.zero HP.out.sta, HP.out.map, ?_, ?_, ?_, Chg.refl _ _⟩
              · rw [cut_all]; exact HP.out.g1
              · rw [cut_all]; exact HP.out.g2
              · rw [cut_all]; exact HPOS.out
            case round =>
              obtain ⟨L', p, mp', hLg, rfl, hpop, hmp, hg1, hg2, hpos, hcw⟩ := hrel
              have hL' := hpop.some HP.out.sta hpos
              have hle' := hpop.le
              obtain ⟨x1, x2⟩ := HP.out.sta.a (L' - 1) (by omega)
              obtain ⟨fb, e1, hfr⟩ := HP.out.fd.at x1
              subst e1
              obtain ⟨kb, e2, hkr⟩ := HP.out.stk.at (show L' - 1 < L by omega)
              subst e2
              have nfm : fb ≠ mb := (HP.out.d1 fb (by simp [blkOf])).2
              have nkm : kb ≠ mb := HP.out.d2 kb (by simp [blkOf])
              have hfr' := hfr.chg hcw (by simpa using nfm)
              have hkr' := hkr.chg hcw (by simpa using nkm)
              obtain ⟨d1, d2⟩ := (run_inv (vOf s) s.size q).ds (sk (L' - 1)) (by rw [← HS.out]; exact x1)
              rw [← HS.out] at d1 d2
              have r1 : wr.cell? ⟨kb, L' - 1, none⟩ = some (.int .i64 (sk (L' - 1))) := hkr'.read (by omega)
              have r2 : wr.cell? ⟨fb, sk (L' - 1) * 2, none⟩ = some (.int .i64 (S.ds (sk (L' - 1)))) := hfr'.r0 x1
              have r3 : wr.cell? ⟨fb, sk (L' - 1) * 2 + 1, none⟩ = some (.int .i64 (S.cl (sk (L' - 1)))) := hfr'.r1 x1
              have f3 := hfr'.frozen (sk (L' - 1) * 2 + 1)
              have hcut := fun k => openOf_cut HP.out.sta hpop hL' k
              obtain ⟨x, hx⟩ : ∃ x, x = sk (L' - 1) := ⟨_, rfl⟩
              rw [← hx] at x1 x2 d1 d2 r1 r2 r3 f3
              obtain ⟨D, hD⟩ : ∃ D, D = S.ds x := ⟨_, rfl⟩
              obtain ⟨kv, hkv⟩ : ∃ kv, kv = S.kd x := ⟨_, rfl⟩
              rw [← hD] at d1 d2 r2
              have hkd' : s[D + 1].toNat = kv := by rw [hkv, d2]; exact vOf_get d1
              have hget2 := run_get (P := Try.prog) Try.underlying42 Try.underlying5 zero3 hmp kv
              have hput := run_put (P := Try.prog) Try.underlying42 Try.underlying5 hmp kv (getV mp' kv - 1)
              have hgb : getV mp' kv = openOf (cutFrom p S.st) S.kd kv S.m ∨ True := Or.inr trivial
              obtain ⟨gv, hgv⟩ : ∃ gv, gv = getV mp' kv := ⟨_, rfl⟩
              obtain ⟨W5, hW5⟩ : ∃ W5, setMap wr mb (put mp' kv (getV mp' kv - 1)) = W5 := ⟨_, rfl⟩
              have c5 : Chg [mb] wr W5 := by rw [← hW5]; exact (Chg.refl [mb] wr).setMap (Or.inl (by simp)) _
              have hmp5 : MapAt W5 mb (put mp' kv (getV mp' kv - 1)) := by rw [← hW5]; exact hmp.set _
              have hkinds : kv = 123 ∨ kv = 91 := by
                have := kinds_run (vOf s) s.size q x (by rw [← HS.out]; exact x1)
                rw [← HS.out, ← hkv] at this
                exact this
              have hgvb : 0 ≤ gv ∧ gv ≤ 100000 := by
                have hb : ∀ k, openOf (cutFrom p S.st) S.kd k S.m ≤ S.m := fun k => cnt_le_self _ _
                have hmS := Hm.out
                rcases hkinds with e | e
                · have e3 : gv = openOf (cutFrom p S.st) S.kd 123 S.m := by rw [hgv, e]; exact hg1
                  have := hb 123; omega
                · have e3 : gv = openOf (cutFrom p S.st) S.kd 91 S.m := by rw [hgv, e]; exact hg2
                  have := hb 91; omega
              have HG5 : Hid (getV (put mp' kv (getV mp' kv - 1)) 123 = openOf (cutFrom x S.st) S.kd 123 S.m ∧ getV (put mp' kv (getV mp' kv - 1)) 91 = openOf (cutFrom x S.st) S.kd 91 S.m) := by
                have h1 := hcut 123
                have h2 := hcut 91
                rw [← hx, ← hkv] at h1 h2
                exact count_pop hkinds hg1 hg2 h1 h2
              rw [hW5] at hput
              rw [← hgv] at hget2 hput
              have r4 : W5.cell? ⟨fb, x * 2, none⟩ = some (.int .i64 (D : Int)) := c5.cell r2 (by simpa using nfm)
              have r5 : W5.cell? ⟨fb, x * 2 + 1, none⟩ = some (.int .i64 (S.cl x)) := c5.cell r3 (by simpa using nfm)
              have hfr5 := hfr'.chg c5 (by simpa using nfm)
              have f5 := hfr5.frozen (x * 2 + 1)
              have hcw5 : Chg [mb] wz W5 := hcw.trans c5
              have t3 : IntKind.i64.wrap ((L' : Int) - 1) = ((L' - 1 : Nat) : Int) := by rw [IntKind.wrap_i64]; omega
              have t4 : IntKind.i64.wrap ((D : Int) + 1) = (D : Int) + 1 := by rw [IntKind.wrap_i64]; omega
              have t5 : IntKind.i64.wrap (gv - 1) = gv - 1 := by rw [IntKind.wrap_i64]; omega
              have t6 : ((L' - 1 : Nat) : Int) < (L' : Int) := by omega
              have t7 : (x : Int) < (m : Int) := by rw [Hm.out]; omega
              have t8 : (D : Int) + 1 < (s.size : Int) := by omega
              have hLc : L ≤ ck := by obtain ⟨_, _, _, h, _⟩ := hkr; exact h
              have t9 : ((L' - 1 : Nat) : Int) ≤ (ck : Int) := by omega
              have HALL := hid (And.intro hpop (And.intro hmp5 (And.intro hcw5 (And.intro hfr5 hkr))))
              have HX : Hid (x = sk (L' - 1) ∧ kv = S.kd x ∧ D = S.ds x) := ⟨hx, hkv, hD⟩
              by_cases u : kv = 123
              · have hfound := hpop.found HP.out.sta hL' (by rw [← hx, ← hkv]; exact u)
                rw [← hx] at hfound
                have HF := hid hfound
                have t10 : ((kv : Int) == 123) = true := by simp; omega
                clear hpop hmp hg1 hg2 hpos hcw hfr hkr hfr' hkr' hcut hx hD hkv d2 hgv hW5 c5 hmp5 hkinds hgb hfr5 hcw5 hfound u hLg r3 f3
                go_wp2_with fail
                go_roundg (s.size - (q + 1))
                case measure => omega
                case rel =>
                  obtain ⟨p1, p2, p3, p4, p5⟩ := HALL.out
                  obtain ⟨z1, z2, z3⟩ := HF.out
                  have hrun := HSt.out x z1
                  have h := HP.out
                  have lom : w.heap.size ≤ mb := h.lo mb (by simp)
                  have lof : w.heap.size ≤ fb := h.lo fb (by simp [blkOf])
                  have nfk : fb ≠ kb := fun e => (h.d1 fb (by simp [blkOf])).1 (by simp [blkOf, e])
                  have cst := chg_cell W5 fb (x * 2 + 1) (.int .i64 (q : Int))
                  refine ⟨q + 1, some ⟨fb, 0, none⟩, some ⟨kb, 0, none⟩, cf, ck, L' - 1, sk, put mp' kv (getV mp' kv - 1), by omega, by simp, ?_, by simp, ?_⟩
                  · rw [hrun]; show _ = Value.slice _ S.m cf; rw [Hm.out]
                  · rw [hrun]
                    refine ⟨Or.inr ⟨fb, rfl, p4.set1 x q⟩, Or.inr ⟨kb, rfl, (((p5.pre (by omega)).chg p3 (by simpa using nkm)).other (fun e => nfk e.symm) _)⟩, p2.chg cst (by simpa using fun e => nfm e.symm), ?_, ?_, z2, h.d1, h.d2, h.lo, h.k1, h.k2, ?_⟩
                    · rw [HG5.out.1]; exact congrArg Int.ofNat (z3 123).symm
                    · rw [HG5.out.2]; exact congrArg Int.ofNat (z3 91).symm
                    · exact (h.c.then p3 (fun i hi => Or.inr (by simp at hi; omega))).setCell (Or.inr lof) _
              · have hnext := hpop.next HP.out.sta hL' (by rw [← hx, ← hkv]; exact u)
                rw [← hx] at hnext
                have HN := hid hnext
                have t10 : ((kv : Int) == 123) = false := by simp; omega
                have t11 : ¬ (kv : Int) = 123 := by omega
                have HPO : Hid (0 < openOf (cutFrom x S.st) S.kd 123 S.m) := by
                  show 0 < openOf (cutFrom x S.st) S.kd 123 S.m
                  have h1 := hcut 123
                  rw [← hx, ← hkv, if_neg u] at h1
                  omega
                have HLg := hid hLg
                clear hpop hmp hg1 hg2 hpos hcw hfr hkr hfr' hkr' hcut hx hD hkv d2 hgv hW5 c5 hmp5 hkinds hgb hfr5 hcw5 hnext hLg r3 f3
                go_wp2_with fail
                go_roundg (L' - 1)
                case measure => have := HLg.out; omega
                case rel =>
                  obtain ⟨p1, p2, p3, p4, p5⟩ := HALL.out
                  exact ⟨L' - 1, x, _, rfl, by simp, HN.out, p2, HG5.out.1, HG5.out.2, HPO.out, p3⟩
        · have ty1 : ((y : Int) == 125) = false := by simp; omega
          have ty1n : ¬ (y : Int) = 125 := by omega
          by_cases uy2 : y = 93
          · have ty3 : ((y : Int) != 93) = false := by simp; omega
            have hkind : kindOf y = some 91 := by rw [uy2]; rfl
            have tyc : ((y : Int) == 93) = true := by simp; omega
            have HSt : Hid (∀ j, lastOpen S.st S.kd 91 S.m = some j → run (vOf s) s.size (q + 1) = S.closed j q) := fun j hj => by
              rw [run, ← HS.out, step, if_neg (by rw [hno]; simp), ← Hy.out, hkind]
              simp only
              rw [hj]
            have HSn : Hid (lastOpen S.st S.kd 91 S.m = none → run (vOf s) s.size (q + 1) = S) := fun hj => by
              rw [run, ← HS.out, step, if_neg (by rw [hno]; simp), ← Hy.out, hkind]
              simp only
              rw [hj]
            clear hno hkind uy2
            have hget := run_get (P := Try.prog) Try.underlying42 Try.underlying5 zero3 HP.out.map 91
            rw [HP.out.g2] at hget
            obtain ⟨cv, hcv⟩ : ∃ cv, cv = openOf S.st S.kd 91 S.m := ⟨_, rfl⟩
            rw [← hcv] at hget
            have HCV := hid hcv
            clear hcv
            by_cases u : cv = 0
            · have HR := hid (HSn.out (openOf_zero (by rw [← HCV.out]; exact u)))
              have t2 : ((cv : Int) == 0) = true := by simp; omega
              clear u
              go_wp2_with fail
              go_roundg (s.size - (q + 1))
              case measure => omega
              case rel => exact ⟨q + 1, af, ak, cf, ck, L, sk, mp, by omega, by simp, by rw [HR.out, ← Hm.out], rfl, by rw [HR.out]; exact HP.out⟩
            · have t2 : ((cv : Int) == 0) = false := by simp; omega
              have t2n : ¬ (cv : Int) = 0 := by omega
              have HPOS : Hid (0 < openOf S.st S.kd 91 S.m) := by show 0 < openOf S.st S.kd 91 S.m; rw [← HCV.out]; omega
              go_wp2_with fail
              clear t2 t2n hget u
              go_loopg [4, 9] L (fun g v4 v9 wr => ∃ (L' p : Nat) (mp' : Mp), L' = g ∧ v4 = .slice ak L' ck ∧ Pop S.st S.kd S.m L sk 91 L' p ∧ MapAt wr mb mp' ∧ getV mp' 123 = openOf (cutFrom p S.st) S.kd 123 S.m ∧ getV mp' 91 = openOf (cutFrom p S.st) S.kd 91 S.m ∧ 0 < openOf (cutFrom p S.st) S.kd 91 S.m ∧ Chg [mb] wz wr)
              case atStart =>
                refine ⟨L, S.m, mp, rfl, rfl, Pop.zero HP.out.sta, HP.out.map, ?_, ?_, ?_, Chg.refl _ _⟩
                · rw [cut_all]; exact HP.out.g1
                · rw [cut_all]; exact HP.out.g2
                · rw [cut_all]; exact HPOS.out
              case round =>
                obtain ⟨L', p, mp', hLg, rfl, hpop, hmp, hg1, hg2, hpos, hcw⟩ := hrel
                have hL' := hpop.some HP.out.sta hpos
                have hle' := hpop.le
                obtain ⟨x1, x2⟩ := HP.out.sta.a (L' - 1) (by omega)
                obtain ⟨fb, e1, hfr⟩ := HP.out.fd.at x1
                subst e1
                obtain ⟨kb, e2, hkr⟩ := HP.out.stk.at (show L' - 1 < L by omega)
                subst e2
                have nfm : fb ≠ mb := (HP.out.d1 fb (by simp [blkOf])).2
                have nkm : kb ≠ mb := HP.out.d2 kb (by simp [blkOf])
                have hfr' := hfr.chg hcw (by simpa using nfm)
                have hkr' := hkr.chg hcw (by simpa using nkm)
                obtain ⟨d1, d2⟩ := (run_inv (vOf s) s.size q).ds (sk (L' - 1)) (by rw [← HS.out]; exact x1)
                rw [← HS.out] at d1 d2
                have r1 : wr.cell? ⟨kb, L' - 1, none⟩ = some (.int .i64 (sk (L' - 1))) := hkr'.read (by omega)
                have r2 : wr.cell? ⟨fb, sk (L' - 1) * 2, none⟩ = some (.int .i64 (S.ds (sk (L' - 1)))) := hfr'.r0 x1
                have r3 : wr.cell? ⟨fb, sk (L' - 1) * 2 + 1, none⟩ = some (.int .i64 (S.cl (sk (L' - 1)))) := hfr'.r1 x1
                have f3 := hfr'.frozen (sk (L' - 1) * 2 + 1)
                have hcut := fun k => openOf_cut HP.out.sta hpop hL' k
                obtain ⟨x, hx⟩ : ∃ x, x = sk (L' - 1) := ⟨_, rfl⟩
                rw [← hx] at x1 x2 d1 d2 r1 r2 r3 f3
                obtain ⟨D, hD⟩ : ∃ D, D = S.ds x := ⟨_, rfl⟩
                obtain ⟨kv, hkv⟩ : ∃ kv, kv = S.kd x := ⟨_, rfl⟩
                rw [← hD] at d1 d2 r2
                have hkd' : s[D + 1].toNat = kv := by rw [hkv, d2]; exact vOf_get d1
                have hget2 := run_get (P := Try.prog) Try.underlying42 Try.underlying5 zero3 hmp kv
                have hput := run_put (P := Try.prog) Try.underlying42 Try.underlying5 hmp kv (getV mp' kv - 1)
                have hgb : getV mp' kv = openOf (cutFrom p S.st) S.kd kv S.m ∨ True := Or.inr trivial
                obtain ⟨gv, hgv⟩ : ∃ gv, gv = getV mp' kv := ⟨_, rfl⟩
                obtain ⟨W5, hW5⟩ : ∃ W5, setMap wr mb (put mp' kv (getV mp' kv - 1)) = W5 := ⟨_, rfl⟩
                have c5 : Chg [mb] wr W5 := by rw [← hW5]; exact (Chg.refl [mb] wr).setMap (Or.inl (by simp)) _
                have hmp5 : MapAt W5 mb (put mp' kv (getV mp' kv - 1)) := by rw [← hW5]; exact hmp.set _
                have hkinds : kv = 123 ∨ kv = 91 := by
                  have := kinds_run (vOf s) s.size q x (by rw [← HS.out]; exact x1)
                  rw [← HS.out, ← hkv] at this
                  exact this
                have hgvb : 0 ≤ gv ∧ gv ≤ 100000 := by
                  have hb : ∀ k, openOf (cutFrom p S.st) S.kd k S.m ≤ S.m := fun k => cnt_le_self _ _
                  have hmS := Hm.out
                  rcases hkinds with e | e
                  · have e3 : gv = openOf (cutFrom p S.st) S.kd 123 S.m := by rw [hgv, e]; exact hg1
                    have := hb 123; omega
                  · have e3 : gv = openOf (cutFrom p S.st) S.kd 91 S.m := by rw [hgv, e]; exact hg2
                    have := hb 91; omega
                have HG5 : Hid (getV (put mp' kv (getV mp' kv - 1)) 123 = openOf (cutFrom x S.st) S.kd 123 S.m ∧ getV (put mp' kv (getV mp' kv - 1)) 91 = openOf (cutFrom x S.st) S.kd 91 S.m) := by
                  have h1 := hcut 123
                  have h2 := hcut 91
                  rw [← hx, ← hkv] at h1 h2
                  exact count_pop hkinds hg1 hg2 h1 h2
                rw [hW5] at hput
                rw [← hgv] at hget2 hput
                have r4 : W5.cell? ⟨fb, x * 2, none⟩ = some (.int .i64 (D : Int)) := c5.cell r2 (by simpa using nfm)
                have r5 : W5.cell? ⟨fb, x * 2 + 1, none⟩ = some (.int .i64 (S.cl x)) := c5.cell r3 (by simpa using nfm)
                have hfr5 := hfr'.chg c5 (by simpa using nfm)
                have f5 := hfr5.frozen (x * 2 + 1)
                have hcw5 : Chg [mb] wz W5 := hcw.trans c5
                have t3 : IntKind.i64.wrap ((L' : Int) - 1) = ((L' - 1 : Nat) : Int) := by rw [IntKind.wrap_i64]; omega
                have t4 : IntKind.i64.wrap ((D : Int) + 1) = (D : Int) + 1 := by rw [IntKind.wrap_i64]; omega
                have t5 : IntKind.i64.wrap (gv - 1) = gv - 1 := by rw [IntKind.wrap_i64]; omega
                have t6 : ((L' - 1 : Nat) : Int) < (L' : Int) := by omega
                have t7 : (x : Int) < (m : Int) := by rw [Hm.out]; omega
                have t8 : (D : Int) + 1 < (s.size : Int) := by omega
                have hLc : L ≤ ck := by obtain ⟨_, _, _, h, _⟩ := hkr; exact h
                have t9 : ((L' - 1 : Nat) : Int) ≤ (ck : Int) := by omega
                have HALL := hid (And.intro hpop (And.intro hmp5 (And.intro hcw5 (And.intro hfr5 hkr))))
                have HX : Hid (x = sk (L' - 1) ∧ kv = S.kd x ∧ D = S.ds x) := ⟨hx, hkv, hD⟩
                by_cases u : kv = 91
                · have hfound := hpop.found HP.out.sta hL' (by rw [← hx, ← hkv]; exact u)
                  rw [← hx] at hfound
                  have HF := hid hfound
                  have t10 : ((kv : Int) == 91) = true := by simp; omega
                  clear hpop hmp hg1 hg2 hpos hcw hfr hkr hfr' hkr' hcut hx hD hkv d2 hgv hW5 c5 hmp5 hkinds hgb hfr5 hcw5 hfound u hLg r3 f3
                  go_wp2_with fail
                  go_roundg (s.size - (q + 1))
                  case measure => omega
                  case rel =>
                    obtain ⟨p1, p2, p3, p4, p5⟩ := HALL.out
                    obtain ⟨z1, z2, z3⟩ := HF.out
                    have hrun := HSt.out x z1
                    have h := HP.out
                    have lom : w.heap.size ≤ mb := h.lo mb (by simp)
                    have lof : w.heap.size ≤ fb := h.lo fb (by simp [blkOf])
                    have nfk : fb ≠ kb := fun e => (h.d1 fb (by simp [blkOf])).1 (by simp [blkOf, e])
                    have cst := chg_cell W5 fb (x * 2 + 1) (.int .i64 (q : Int))
                    refine ⟨q + 1, some ⟨fb, 0, none⟩, some ⟨kb, 0, none⟩, cf, ck, L' - 1, sk, put mp' kv (getV mp' kv - 1), by omega, by simp, ?_, by simp, ?_⟩
                    · rw [hrun]; show _ = Value.slice _ S.m cf; rw [Hm.out]
                    · rw [hrun]
                      refine ⟨Or.inr ⟨fb, rfl, p4.set1 x q⟩, Or.inr ⟨kb, rfl, (((p5.pre (by omega)).chg p3 (by simpa using nkm)).other (fun e => nfk e.symm) _)⟩, p2.chg cst (by simpa using fun e => nfm e.symm), ?_, ?_, z2, h.d1, h.d2, h.lo, h.k1, h.k2, ?_⟩
                      · rw [HG5.out.1]; exact congrArg Int.ofNat (z3 123).symm
                      · rw [HG5.out.2]; exact congrArg Int.ofNat (z3 91).symm
                      · exact (h.c.then p3 (fun i hi => Or.inr (by simp at hi; omega))).setCell (Or.inr lof) _
                · have hnext := hpop.next HP.out.sta hL' (by rw [← hx, ← hkv]; exact u)
                  rw [← hx] at hnext
                  have HN := hid hnext
                  have t10 : ((kv : Int) == 91) = false := by simp; omega
                  have t11 : ¬ (kv : Int) = 91 := by omega
                  have HPO : Hid (0 < openOf (cutFrom x S.st) S.kd 91 S.m) := by
                    show 0 < openOf (cutFrom x S.st) S.kd 91 S.m
                    have h1 := hcut 91
                    rw [← hx, ← hkv, if_neg u] at h1
                    omega
                  have HLg := hid hLg
                  clear hpop hmp hg1 hg2 hpos hcw hfr hkr hfr' hkr' hcut hx hD hkv d2 hgv hW5 c5 hmp5 hkinds hgb hfr5 hcw5 hnext hLg r3 f3
                  go_wp2_with fail
                  go_roundg (L' - 1)
                  case measure => have := HLg.out; omega
                  case rel =>
                    obtain ⟨p1, p2, p3, p4, p5⟩ := HALL.out
                    exact ⟨L' - 1, x, _, rfl, by simp, HN.out, p2, HG5.out.1, HG5.out.2, HPO.out, p3⟩
          · have HR : Hid (run (vOf s) s.size (q + 1) = S) := HST.out (by unfold kindOf; rw [if_neg uy1, if_neg uy2])
            have ty2 : ((y : Int) == 93) = false := by simp; omega
            have ty2n : ¬ (y : Int) = 93 := by omega
            have ty3 : ((y : Int) != 93) = true := by simp; omega
            clear hno
            go_wp2_with fail
            go_roundg (s.size - (q + 1))
            case measure => omega
            case rel => exact ⟨q + 1, af, ak, cf, ck, L, sk, mp, by omega, by simp, by rw [HR.out, ← Hm.out], rfl, by rw [HR.out]; exact HP.out⟩
  · obtain rfl : q = s.size := by omega
    have t0 : ¬ (s.size : Int) < (s.size : Int) := by omega
    clear hqg hlt
    have hinv2 := hid (run_inv (vOf s) s.size s.size)
    rw [← HS.out] at hinv2
    have h4 : m ≤ 4096 := by omega
    rcases HP.out.fd with ⟨hf1, hf2, hf3⟩ | ⟨fb, hf1, L0, hb0, hl0, hm0, hc0⟩
    · subst hf1 hf3
      rw [← Hm.out] at hf2
      obtain rfl : m = 0 := hf2
      go_wp2_with fail
      clear t0
      go_loopg [10, 12, 113] 0 (fun g v10 v12 i wr => v10 = .slice none 0 0 ∧ i = .int .i64 0 ∧ wz = wr)
      case atStart => exact ⟨rfl, rfl, rfl⟩
      case round =>
      obtain ⟨rfl, rfl, rfl⟩ := hrel
      go_wp2_with fail
      go_ret
      have hSm : S.m = 0 := Hm.out.symm
      refine ⟨none, 0, 0, fun _ => 0, fun _ => 0, rfl, ?_, fun k hk => by omega, fun j hj => ?_, HP.out.c⟩
      · rw [← HS.out, hSm]; rfl
      · rw [← HS.out, hSm] at hj; omega
    · subst hf1
      rw [← Hm.out] at hm0 hc0
      have lof : w.heap.size ≤ fb := HP.out.lo fb (by simp [blkOf])
      have HL := hid (And.intro hb0 (And.intro hl0 hc0))
      have HCW := hid HP.out.c
      clear hb0 hl0 hc0
      obtain ⟨i37, hi37, hz37, hs37, hby37⟩ := info_parts Try.info37.choose_spec.1
      have HI37 := hid (And.intro hi37 (And.intro hz37 (And.intro hs37 hby37)))
      clear hi37 hz37 hs37 hby37
      obtain ⟨P, hPd⟩ : ∃ P : Nat → Bool, P = fun x => decide (S.st x = 1) := ⟨_, rfl⟩
      have HPd := hid hPd
      clear hPd
      go_wp2_with fail
      clear t0
      go_loopg [10, 12, 113] m (fun g v10 v12 i wr => ∃ (t : Nat) (L : List Value), t + g = m ∧ i = .int .i64 t ∧ v10 = .slice (some ⟨fb, 0, none⟩) (cnt P t) cf ∧ Blk wr fb 37 L ∧ L.length = cf * 2 ∧ (∀ j, t ≤ j → j < m → L[j * 2]? = some (nat (S.ds j)) ∧ L[j * 2 + 1]? = some (int (S.cl j))) ∧ (∀ j, j < t → P j = true → L[cnt P j * 2]? = some (nat (S.ds j)) ∧ L[cnt P j * 2 + 1]? = some (int (S.cl j))) ∧ Chg [] w wr)
      case atStart => exact ⟨0, L0, by omega, rfl, rfl, HL.out.1, HL.out.2.1, fun j _ hj => HL.out.2.2 j hj, fun j hj => by omega, HCW.out⟩
      case round =>
      obtain ⟨t, L, htg, rfl, rfl, hb, hl, hc1, hc2, hcw⟩ := hrel
      have hct := cnt_le_self P t
      by_cases hlt : t < m
      · have htS : t < S.m := by rw [← Hm.out]; exact hlt
        have t1 : (t : Int) < (m : Int) := by omega
        have q1 : wr.cell? ⟨fb, t * 2, none⟩ = some (.int .i64 (S.ds t)) := hb.cell (hc1 t (Nat.le_refl _) hlt).1
        have q2 : wr.cell? ⟨fb, t * 2 + 1, none⟩ = some (.int .i64 (S.cl t)) := hb.cell (hc1 t (Nat.le_refl _) hlt).2
        have hcs : cnt P (t + 1) = cnt P t + (if P t = true then 1 else 0) := rfl
        have hPt : P t = decide (S.st t = 1) := by rw [HPd.out]
        obtain ⟨dv, hdv⟩ : ∃ dv, dv = S.ds t := ⟨_, rfl⟩
        obtain ⟨cv, hcv⟩ : ∃ cv, cv = S.cl t := ⟨_, rfl⟩
        rw [← hdv] at q1
        rw [← hcv] at q2
        have HDC : Hid (dv = S.ds t ∧ cv = S.cl t) := ⟨hdv, hcv⟩
        have b1 := hb.alloc (.cells #[.int .i64 (dv : Int), .int .i64 cv] 37)
        have c1 := hcw.alloc (.cells #[.int .i64 (dv : Int), .int .i64 cv] 37)
        have g1 : (wr.alloc (.cells #[.int .i64 (dv : Int), .int .i64 cv] 37)).cell? ⟨wr.heap.size, 1, none⟩ = some (.int .i64 cv) := (Blk.new wr [.int .i64 (dv : Int), .int .i64 cv] 37).cell rfl
        have g0 : (wr.alloc (.cells #[.int .i64 (dv : Int), .int .i64 cv] 37)).cell? ⟨wr.heap.size, 0, none⟩ = some (.int .i64 (dv : Int)) := (Blk.new wr [.int .i64 (dv : Int), .int .i64 cv] 37).cell rfl
        by_cases u : S.st t = 1
        · have hcp : 0 ≤ cv := by rw [hcv]; exact hinv2.out.c1 t htS u
          have t2 : decide (0 ≤ cv) = true := by simp; omega
          obtain ⟨W1, hW1⟩ : ∃ W1, wr.alloc (.cells #[.int .i64 (dv : Int), .int .i64 cv] 37) = W1 := ⟨_, rfl⟩
          rw [hW1] at b1 c1
          have b2 := b1.alloc (.cells #[.int .i64 (dv : Int), .int .i64 cv] 37)
          have c2 := c1.alloc (.cells #[.int .i64 (dv : Int), .int .i64 cv] 37)
          have hr := fun ty => run_append_room (P := Try.prog) (W1.alloc (.cells #[.int .i64 (dv : Int), .int .i64 cv] 37)) 34 ty 37 i37 Try.underlying34 HI37.out.1 fb (cnt P t) cf L.toArray b2 ⟨W1.heap.size, 0, none⟩ 1 1 [nat dv, int cv] (by rw [HI37.out.2.2.1]; rfl) (fun j v hj => by
            rw [Addr.add_lit, Nat.zero_add]
            exact (Blk.new W1 [nat dv, int cv] 37).cell hj) (fun u hu => by simp at hu; rcases hu with rfl | rfl <;> rfl) (by omega) (by rw [HI37.out.2.2.1]; simp; omega)
          have HR : Hid (Blk ((W1.alloc (.cells #[.int .i64 (dv : Int), .int .i64 cv] 37)).setRow fb (L.take (cnt P t * 2) ++ [nat dv, int cv] ++ L.drop (cnt P t * 2 + 2)).toArray) fb 37 (L.take (cnt P t * 2) ++ [nat dv, int cv] ++ L.drop (cnt P t * 2 + 2)) ∧ (L.take (cnt P t * 2) ++ [nat dv, int cv] ++ L.drop (cnt P t * 2 + 2)).length = cf * 2
              ∧ (∀ j, t + 1 ≤ j → j < m → (L.take (cnt P t * 2) ++ [nat dv, int cv] ++ L.drop (cnt P t * 2 + 2))[j * 2]? = some (nat (S.ds j)) ∧ (L.take (cnt P t * 2) ++ [nat dv, int cv] ++ L.drop (cnt P t * 2 + 2))[j * 2 + 1]? = some (int (S.cl j)))
              ∧ (∀ j, j < t + 1 → P j = true → (L.take (cnt P t * 2) ++ [nat dv, int cv] ++ L.drop (cnt P t * 2 + 2))[cnt P j * 2]? = some (nat (S.ds j)) ∧ (L.take (cnt P t * 2) ++ [nat dv, int cv] ++ L.drop (cnt P t * 2 + 2))[cnt P j * 2 + 1]? = some (int (S.cl j)))
              ∧ Chg [] w ((W1.alloc (.cells #[.int .i64 (dv : Int), .int .i64 cv] 37)).setRow fb (L.take (cnt P t * 2) ++ [nat dv, int cv] ++ L.drop (cnt P t * 2 + 2)).toArray) ∧ cnt P (t + 1) = cnt P t + 1) := by
            have lt1 : (L.take (cnt P t * 2)).length = cnt P t * 2 := by simp; omega
            have hi : ∀ y, cnt P t * 2 + 2 ≤ y → (L.take (cnt P t * 2) ++ [nat dv, int cv] ++ L.drop (cnt P t * 2 + 2))[y]? = L[y]? := fun y hy => by
              rw [List.append_assoc, List.getElem?_append_right (by omega), lt1, List.getElem?_append_right (by simp; omega), List.getElem?_drop]
              congr 1
              simp; omega
            have lo : ∀ y, y < cnt P t * 2 → (L.take (cnt P t * 2) ++ [nat dv, int cv] ++ L.drop (cnt P t * 2 + 2))[y]? = L[y]? := fun y hy => by
              rw [List.append_assoc, List.getElem?_append_left (by omega), List.getElem?_take, if_pos hy]
            refine ⟨setRow_heap _ fb _ _ 37 _ b2, by simp; omega, fun j h1 h2 => ?_, fun j h1 h2 => ?_, c2.then ⟨rfl, rfl, rfl, by simp, fun k _ hk => setRow_other _ fb k _ (by simpa using hk)⟩ (T := [fb]) (fun i hi => Or.inr (by simp at hi; omega)), by rw [hcs, if_pos (by rw [hPt]; simp [u])]⟩
            · rw [hi _ (by omega), hi _ (by omega)]; exact hc1 j (by omega) h2
            · by_cases e : j = t
              · subst e
                rw [List.append_assoc]
                refine ⟨?_, ?_⟩
                · rw [List.getElem?_append_right (by omega), lt1, Nat.sub_self, ← hdv]; rfl
                · rw [List.getElem?_append_right (by omega), lt1, show cnt P j * 2 + 1 - cnt P j * 2 = 1 by omega, ← hcv]; rfl
              · have := cnt_lt P (show j < t by omega) h2
                rw [lo _ (by omega), lo _ (by omega)]; exact hc2 j (by omega) h2
          rw [HI37.out.2.2.1] at hr
          obtain ⟨W3, hW3⟩ : ∃ W3, (W1.alloc (.cells #[.int .i64 (dv : Int), .int .i64 cv] 37)).setRow fb (L.take (cnt P t * 2) ++ [nat dv, int cv] ++ L.drop (cnt P t * 2 + 2)).toArray = W3 := ⟨_, rfl⟩
          have hr' : ∀ ty, (Builtin.append_ #[34, 34] ty #[.slice (some ⟨fb, 0, none⟩) (cnt P t) cf, .slice (some ⟨W1.heap.size, 0, none⟩) 1 1]).run Try.prog (W1.alloc (.cells #[.int .i64 (dv : Int), .int .i64 cv] 37)) = .ok (.slice (some ⟨fb, 0, none⟩) (cnt P t + 1) cf) W3 := fun ty => by rw [hr ty, ← hW3]; rfl
          rw [hW3] at HR
          obtain ⟨cc, hcc⟩ : ∃ cc, cc = cnt P t := ⟨_, rfl⟩
          rw [← hcc] at hr' ⊢
          have HCC := hid hcc
          have HW1 := hid hW1
          clear hr hb hl hc1 hc2 hcw hcs hPt hdv hcv b1 c1 b2 c2 hW3 hcc hct u
          rw [hW1] at g0 g1
          go_wp2_with (at_builtin; refine wpList_append_eq _ rfl (.tmp 120) (.tmp 122) 34 34 rfl _ _ rfl rfl (hr' _) ?_)
          go_roundg (m - (t + 1))
          case measure => omega
          case rel =>
            obtain ⟨z1, z2, z3, z4, z5, z6⟩ := HR.out
            exact ⟨t + 1, _, by omega, by simp, by rw [z6, HCC.out], z1, z2, z3, z4, z5⟩
        · have hcn : cv = -1 := by rw [hcv]; exact hinv2.out.c2 t htS u
          have t2 : decide (0 ≤ cv) = false := by simp; omega
          have t2n : ¬ 0 ≤ cv := by omega
          have HR : Hid (Blk (wr.alloc (.cells #[.int .i64 (dv : Int), .int .i64 cv] 37)) fb 37 L ∧ (∀ j, t + 1 ≤ j → j < m → L[j * 2]? = some (nat (S.ds j)) ∧ L[j * 2 + 1]? = some (int (S.cl j))) ∧ (∀ j, j < t + 1 → P j = true → L[cnt P j * 2]? = some (nat (S.ds j)) ∧ L[cnt P j * 2 + 1]? = some (int (S.cl j))) ∧ Chg [] w (wr.alloc (.cells #[.int .i64 (dv : Int), .int .i64 cv] 37)) ∧ cnt P (t + 1) = cnt P t) := by
            refine ⟨b1, fun j h1 h2 => hc1 j (by omega) h2, fun j h1 h2 => ?_, c1, by rw [hcs, if_neg (by rw [hPt]; simp [u])]; rfl⟩
            by_cases e : j = t
            · rw [e, hPt] at h2; simp at h2; exact absurd h2 u
            · exact hc2 j (by omega) h2
          have HLl := hid hl
          obtain ⟨cc, hcc⟩ : ∃ cc, cc = cnt P t := ⟨_, rfl⟩
          rw [← hcc]
          have HCC := hid hcc
          clear hb hl hc1 hc2 hcw hcs hPt hdv hcv b1 c1 hcc hct u hcn g0
          go_wp2_with fail
          go_roundg (m - (t + 1))
          case measure => omega
          case rel =>
            obtain ⟨z1, z2, z3, z4, z5⟩ := HR.out
            exact ⟨t + 1, L, by omega, by simp, by rw [z5, HCC.out], z1, HLl.out, z2, z3, z4⟩
      · have t1 : ¬ (t : Int) < (m : Int) := by omega
        have HR : Hid (∃ (oD : Nat → Nat) (oC : Nat → Int), (∀ k, k < cnt P t → wr.cell? ⟨fb, k * 2, none⟩ = some (.int .i64 (oD k)) ∧ wr.cell? ⟨fb, k * 2 + 1, none⟩ = some (.int .i64 (oC k))) ∧ (∀ j, j < t → P j = true → oD (cnt P j) = S.ds j ∧ oC (cnt P j) = S.cl j) ∧ Chg [] w wr ∧ t = S.m) := by
          have each : ∀ k, k < cnt P t → ∃ p : Nat × Int, L[k * 2]? = some (nat p.1) ∧ L[k * 2 + 1]? = some (int p.2) := fun k hk => by
            obtain ⟨j, h1, h2, h3⟩ := cnt_find P t k hk
            have := hc2 j h1 h2
            rw [h3] at this
            exact ⟨(S.ds j, S.cl j), this⟩
          obtain ⟨X, hX⟩ := Go.Deep.choose_lt each
          refine ⟨fun k => (X k).1, fun k => (X k).2, fun k hk => ⟨hb.cell (hX k hk).1, hb.cell (hX k hk).2⟩, fun j h1 h2 => ?_, hcw, by rw [← Hm.out]; omega⟩
          have e1 := hX (cnt P j) (cnt_lt P h1 h2)
          have e2 := hc2 j h1 h2
          rw [e2.1] at e1
          rw [e2.2] at e1
          have e3 := e1.1
          have e4 := e1.2
          simp [nat, int] at e3 e4
          exact ⟨by simp only; omega, e4.symm⟩
        obtain ⟨cc, hcc⟩ : ∃ cc, cc = cnt P t := ⟨_, rfl⟩
        rw [← hcc]
        have HCC := hid hcc
        clear hb hl hc1 hc2 hcw hcc hct
        go_wp2_with fail
        go_ret
        obtain ⟨oD, oC, z1, z2, z3, z4⟩ := HR.out
        have hSS := HS.out
        refine ⟨some ⟨fb, 0, none⟩, cc, cf, oD, oC, rfl, ?_, fun k hk => ⟨fb, rfl, z1 k (by rw [← HCC.out]; exact hk)⟩, fun j h1 h2 => ?_, z3⟩
        · rw [← hSS, HCC.out, z4, HPd.out]
        · rw [← hSS] at h1 h2 ⊢
          rw [← HPd.out]
          exact z2 j (by omega) (by rw [HPd.out]; simp [h2])
end Go.Proofs.Qxb6602120a
