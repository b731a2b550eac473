import Derived.Test.Qxb6601951aAp
import Derived.BigRegion
namespace Go.Proofs.Qxb6601951a
open Go.RowKit

/-- What the first statement makes. -/
def Made (w : World) (a : Option Addr) (c size n : Nat) (blk : Nat → Nat) (v : Value) (wx : World) : Prop :=
  ∃ pb mb ab sb eb, v = .pointer (some ⟨pb, 0, none⟩) ∧ PAt wx pb mb ab sb eb a c n n size n ⟨fun _ => 0, fun _ => 0, blk, fun _ => 0, fun _ => 0⟩ ∧ (∀ b ∈ [pb, mb, ab, sb, eb], w.heap.size ≤ b) ∧ Chg [] w wx

/-- What 'newPartition' leaves. -/
def NewP (w : World) (a : Option Addr) (c size n : Nat) (blk : Nat → Nat) (e : Ending) (w' : World) : Prop :=
  ∃ pb mb ab sb eb P, e = .returned (.pointer (some ⟨pb, 0, none⟩)) ∧ PAt w' pb mb ab sb eb a c n n size n P ∧ P.Ok size n ∧ P.blk = blk ∧ (∀ b, b < n → P.en b - P.st b = hits blk b size) ∧ (∀ b ∈ [pb, mb, ab, sb, eb], w.heap.size ≤ b) ∧ Chg [] w w'

set_option maxHeartbeats 8000000 in
set_option maxRecDepth 100000 in
theorem newPart_any (w : World) (a : Option Addr) (c size n : Nat) (blk : Nat → Nat) (hb : SR 3 nat w a c size blk) (hlt : ∀ x, x < size → blk x < n) (hsz : size ≤ 1000000) (hn : n ≤ 1000000) (hn0 : 0 < n) :
    Calls Try.prog 19 #[.slice a size c, .int .i64 n] w fun e w' => NewP w a c size n blk e w' := by
  have hm1 := make_ints (size : Int) size rfl (by omega)
  have hm2 := make_ints (n : Int) n rfl (by omega)
  have H := hid (And.intro hb hlt)
  clear hb hlt
  go_enter Try.func19, Try.ntmps19
  go_upto_region 1 with fail
  go_cut [5] from 13 to 25 (fun v wx => Made w a c size n blk v wx)
  case first =>
    go_region
    all_goals (go_wp2_with fail; go_meet)
    all_goals (
      have hb := H.out.1
      refine ⟨_, _, _, _, _, rfl, ⟨Blk.new' _ _ _ _ (by simp), ?_, ?_, ?_, ?_, ?_, by simp; omega, ?_⟩, ?_, ?_⟩
      iterate 2 (· (repeat (first | (refine Row.made' _ _ _ _ 0 ?_ rfl; (first | rfl | (simp; done))) | refine Row.alloc ?_ _)))
      · exact hb.chg (((((Chg.refl [] w).drew.alloc _).alloc _).alloc _).alloc _ |>.alloc _) (by simp)
      iterate 2 (· (repeat (first | (refine Row.made' _ _ _ _ 0 ?_ rfl; (first | rfl | (simp; done))) | refine Row.alloc ?_ _)))
      · intro x hx; have := hb.lt x hx; simp; omega
      · simp; omega
      · exact (((((Chg.refl [] w).drew.alloc _).alloc _).alloc _).alloc _ |>.alloc _))
  case rest =>
    obtain ⟨pb, mb, ab, sb, eb, rfl, hp, hlo, hc⟩ := hcut
    have HP := hid (And.intro hp (And.intro hlo hc))
    clear hp hlo hc hm1 hm2
    go_wp2_with fail
    go_loopg [28, 7] size (fun g i x wr => ∃ k : Nat, k + g = size ∧ i = .int .i64 k ∧ PAt wr pb mb ab sb eb a c n n size n ⟨fun _ => 0, fun _ => 0, blk, fun _ => 0, fun b => hits blk b k⟩ ∧ Chg [] w wr)
    case atStart => exact ⟨0, by omega, rfl, HP.out.1, HP.out.2.2⟩
    case round =>
      obtain ⟨k, hkg, rfl, hp, hc⟩ := hrel
      by_cases hlt : k < size
      · obtain ⟨b0, rfl, hrow⟩ := hp.blk.at hlt
        have q1 := H.out.2 k hlt
        have r1 : wr.cell? ⟨b0, k, none⟩ = some (.int .i64 (blk k)) := hrow.read hlt
        have r2 := hp.f4
        have r3 : wr.cell? ⟨eb, blk k, none⟩ = some (.int .i64 (hits blk (blk k) k)) := hp.ren q1
        have r4 := hp.en.frozen (blk k)
        have hle : hits blk (blk k) k ≤ k := cnt_le_self _ _
        have t0 : (k : Int) < (size : Int) := by omega
        have t1 : (blk k : Int) < (n : Int) := by omega
        have t2 : IntKind.i64.wrap ((hits blk (blk k) k : Int) + 1) = (hits blk (blk k) k : Int) + 1 := by rw [IntKind.wrap_i64]; omega
        have R : Hid (PAt (wr.setCell ⟨eb, blk k, none⟩ (.int .i64 ((hits blk (blk k) k : Int) + 1))) pb mb ab sb eb (some ⟨b0, 0, none⟩) c n n size n ⟨fun _ => 0, fun _ => 0, blk, fun _ => 0, fun b => hits blk b (k + 1)⟩ ∧ Chg [] w (wr.setCell ⟨eb, blk k, none⟩ (.int .i64 ((hits blk (blk k) k : Int) + 1)))) := by
          refine ⟨(hp.setEn (blk k) (hits blk (blk k) k + 1) _ rfl).congr (fun _ _ => rfl) (fun _ _ => rfl) (fun _ _ => rfl) (fun _ _ => rfl) (fun j hj => ?_), hc.setCell (Or.inr (HP.out.2.1 eb (by simp))) _⟩
          simp only
          rw [hits_succ]
          by_cases e : j = blk k
          · subst e; rw [upd_same, if_pos rfl]
          · rw [upd_ne _ _ e, if_neg e]; rfl
        clear hp hc hrow
        obtain ⟨x, hx⟩ : ∃ x, x = blk k := ⟨_, rfl⟩
        rw [← hx] at r1 r3 r4 t1 t2 q1
        have HX := hid hx
        clear hx
        rw [← HX.out] at R
        go_wp2_with fail
        go_roundg (size - (k + 1))
        case measure => omega
        case rel => exact ⟨k + 1, by omega, by simp, R.out.1, R.out.2⟩
      · obtain rfl : k = size := by omega
        have HP1 := hid (And.intro hp hc)
        have t0 : ¬ (k : Int) < (k : Int) := by omega
        clear hp hc
        go_wp2_with fail
        clear t0 hlt hkg
        go_loopg [8, 9, 43] n (fun g nx x i wr => ∃ j : Nat, j + g = n ∧ i = .int .i64 j ∧ nx = .int .i64 (starts blk k j : Nat) ∧ PAt wr pb mb ab sb eb a c n n k n ⟨fun _ => 0, fun _ => 0, blk, fun b => if b < j then starts blk k b else 0, fun b => if b < j then starts blk k (b + 1) else hits blk b k⟩ ∧ Chg [] w wr)
        case atStart => exact ⟨0, by omega, rfl, rfl, HP1.out.1.congr (fun _ _ => rfl) (fun _ _ => rfl) (fun _ _ => rfl) (fun _ _ => rfl) (fun _ _ => rfl), HP1.out.2⟩
        case round =>
          clear HP1
          obtain ⟨j, hjg, rfl, rfl, hp, hc⟩ := hrel
          by_cases hlt : j < n
          · have hle : starts blk k j + hits blk j k ≤ k := starts_size H.out.2 hlt
            obtain ⟨n1, n2, n3, n4, n5, n6, n7, n8, n9, n10⟩ := hp.nes
            have r3 := hp.f3
            have r4 := hp.f4
            have r5 : wr.cell? ⟨eb, j, none⟩ = some (.int .i64 (hits blk j k)) := by have := hp.ren hlt; simpa using this
            have r6 : wr.cell? ⟨sb, j, none⟩ = some (.int .i64 0) := by have := hp.rst hlt; simpa using this
            have f1 := hp.en.frozen j
            have f2 := hp.st.frozen j
            obtain ⟨S, hS⟩ : ∃ S, S = starts blk k j := ⟨_, rfl⟩
            obtain ⟨h, hh⟩ : ∃ h, h = hits blk j k := ⟨_, rfl⟩
            rw [← hS, ← hh] at hle
            rw [← hh] at r5
            rw [← hS]
            have hp1 := hp.setSt j S (.int .i64 S) rfl
            have hp2 := hp1.setEn j (S + h) (.int .i64 ((S : Int) + h)) rfl
            have hc2 := (hc.setCell (p := ⟨sb, j, none⟩) (Or.inr (HP.out.2.1 sb (by simp))) (.int .i64 S)).setCell (p := ⟨eb, j, none⟩) (Or.inr (HP.out.2.1 eb (by simp))) (.int .i64 ((S : Int) + h))
            have s1 : (wr.setCell ⟨sb, j, none⟩ (.int .i64 S)).cell? ⟨eb, j, none⟩ = some (.int .i64 h) := by
              have := hp1.ren hlt; rw [hh]; simpa using this
            have s2 := hp1.en.frozen j
            have s3 := hp2.f4
            have s4 : ((wr.setCell ⟨sb, j, none⟩ (.int .i64 S)).setCell ⟨eb, j, none⟩ (.int .i64 ((S : Int) + h))).cell? ⟨eb, j, none⟩ = some (.int .i64 ((S : Int) + h)) := by
              have := hp2.ren hlt; simpa [upd_same] using this
            have R : Hid (PAt ((wr.setCell ⟨sb, j, none⟩ (.int .i64 S)).setCell ⟨eb, j, none⟩ (.int .i64 ((S : Int) + h))) pb mb ab sb eb a c n n k n ⟨fun _ => 0, fun _ => 0, blk, fun b => if b < j + 1 then starts blk k b else 0, fun b => if b < j + 1 then starts blk k (b + 1) else hits blk b k⟩ ∧ Chg [] w ((wr.setCell ⟨sb, j, none⟩ (.int .i64 S)).setCell ⟨eb, j, none⟩ (.int .i64 ((S : Int) + h))) ∧ starts blk k (j + 1) = S + h) := by
              refine ⟨hp2.congr (fun _ _ => rfl) (fun _ _ => rfl) (fun _ _ => rfl) (fun i hi => ?_) (fun i hi => ?_), hc2, by rw [starts_succ, hS, hh]⟩
              · simp only
                by_cases e : i = j
                · subst e; rw [upd_same, if_pos (by omega), hS]
                · rw [upd_ne _ _ e]
                  by_cases e2 : i < j
                  · rw [if_pos e2, if_pos (by omega)]
                  · rw [if_neg e2, if_neg (by omega)]
              · simp only
                by_cases e : i = j
                · subst e; rw [upd_same, if_pos (by omega), starts_succ, hS, hh]
                · rw [upd_ne _ _ e]
                  by_cases e2 : i < j
                  · rw [if_pos e2, if_pos (by omega)]
                  · rw [if_neg e2, if_neg (by omega)]
            have t0 : (j : Int) < (n : Int) := by omega
            have t1 : IntKind.i64.wrap ((S : Int) + (h : Int)) = (S : Int) + (h : Int) := by rw [IntKind.wrap_i64]; omega
            clear hp hp1 hp2 hc hc2 hS hh
            go_wp2_with fail
            go_region
            go_wp2_with fail
            go_roundg (n - (j + 1))
            case measure => omega
            case rel =>
              refine ⟨j + 1, by omega, by simp, by rw [R.out.2.2]; simp, ?_, ?_⟩
              · exact R.out.1.chg0 (Chg.refl [] _).drew
              · exact R.out.2.1.drew
          · obtain rfl : j = n := by omega
            have t0 : ¬ (j : Int) < (j : Int) := by omega
            have hp1 : PAt wr pb mb ab sb eb a c j j k j ⟨fun _ => 0, fun _ => 0, blk, starts blk k, fun b => starts blk k (b + 1)⟩ := hp.congr (fun _ _ => rfl) (fun _ _ => rfl) (fun _ _ => rfl) (fun i hi => by simp only; rw [if_pos hi]) (fun i hi => by simp only; rw [if_pos hi])
            have r3 := hp1.f3
            have K22 := hid (sliceClone wr sb j j _ hp1.st hn0 hn)
            have HP2 := hid (And.intro hp1 hc)
            clear hp hp1 hc
            go_wp2_with fail
            refine K22.out.mono ?_
            rintro e wf ⟨fb, fc, rfl, hf1, hf2, hf3⟩
            have HF : Hid (PAt wf pb mb ab sb eb a c j j k j ⟨fun _ => 0, fun _ => 0, blk, starts blk k, fun b => starts blk k (b + 1)⟩ ∧ Chg [] w wf ∧ Row 3 nat wf fb j fc (starts blk k) ∧ (∀ b ∈ [pb, mb, ab, sb, eb], b < fb) ∧ ∀ b ∈ blkOf a, b < fb) := by
              obtain ⟨q1, q2⟩ := HP2.out
              refine ⟨q1.chg0 hf3, q2.trans hf3, hf1, fun b hb => ?_, fun b hb => ?_⟩
              · have a1 := q1.str.lt
                have a2 := q1.mem.lt
                have a3 := q1.pos.lt
                have a4 := q1.st.lt
                have a5 := q1.en.lt
                simp at hb
                omega
              · have := q1.blk.lt b hb; omega
            clear K22 HP2 hf1 hf2 hf3 r3
            go_wp2_with fail
            clear t0 hjg hlt
            go_loopg [11, 12, 83] k (fun g x y i wr => ∃ (t : Nat) (mem pos : Nat → Nat), t + g = k ∧ i = .int .i64 t ∧ FillInv blk j k t mem pos ∧ PAt wr pb mb ab sb eb a c j j k j ⟨mem, pos, blk, starts blk k, fun b => starts blk k (b + 1)⟩ ∧ Row 3 nat wr fb j fc (fun b => starts blk k b + hits blk b t) ∧ Chg [] w wr)
            case atStart => exact ⟨0, _, _, by omega, rfl, FillInv.zero _ _ _ _ _, HF.out.1, HF.out.2.2.1, HF.out.2.1⟩
            case round =>
              obtain ⟨t, mem, pos, htg, rfl, hfi, hp, hrow, hc⟩ := hrel
              by_cases hlt : t < k
              · obtain ⟨b0, rfl, hblk⟩ := hp.blk.at hlt
                have q1 := H.out.2 t hlt
                have hfl := fill_lt (blk := blk) hlt
                have hss := starts_size H.out.2 q1
                have hv : starts blk k (blk t) + hits blk (blk t) t < k := by omega
                obtain ⟨n1, n2, n3, n4, n5, n6, n7, n8, n9, n10⟩ := hp.nes
                have hlo := HF.out.2.2.2.1
                have n11 : mb ≠ fb := by have := hlo mb (by simp); omega
                have n12 : ab ≠ fb := by have := hlo ab (by simp); omega
                have hfi' := hfi.step hlt q1
                have r0 : wr.cell? ⟨b0, t, none⟩ = some (.int .i64 (blk t)) := hblk.read hlt
                have r1 := hp.f0
                have r2 := hp.f1
                have r3 : wr.cell? ⟨fb, blk t, none⟩ = some (.int .i64 ((starts blk k (blk t) + hits blk (blk t) t : Nat) : Int)) := hrow.read q1
                have r4 := hp.rmem hv
                have r5 := hp.rpos hlt
                have f1 := hp.mem.frozen (starts blk k (blk t) + hits blk (blk t) t)
                have f2 := hp.pos.frozen t
                obtain ⟨x, hx⟩ : ∃ x, x = blk t := ⟨_, rfl⟩
                obtain ⟨v, hv'⟩ : ∃ v, v = starts blk k (blk t) + hits blk (blk t) t := ⟨_, rfl⟩
                rw [← hv'] at r3 r4 f1 hv hfi'
                rw [← hx] at r0 r3 q1
                have hp1 := hp.setMem v t (.int .i64 t) rfl
                have hp2 := hp1.setPos t v (.int .i64 v) rfl
                have s1 := hp1.rpos hlt
                have s2 := hp1.pos.frozen t
                have hrow1 := (hrow.other (p := ⟨mb, v, none⟩) (fun h => n11 h.symm) (.int .i64 t)).other (p := ⟨ab, t, none⟩) (fun h => n12 h.symm) (.int .i64 v)
                have s3 : ((wr.setCell ⟨mb, v, none⟩ (.int .i64 t)).setCell ⟨ab, t, none⟩ (.int .i64 v)).cell? ⟨fb, x, none⟩ = some (.int .i64 v) := by
                  have := hrow1.read q1; rw [show starts blk k x + hits blk x t = v by rw [hv', hx]] at this; exact this
                have s4 := hrow1.frozen x
                have hrow2 := hrow1.set x (v + 1)
                have hp3 := hp2.chg (chg_cell _ fb x (nat (v + 1))) (fun b hb => by have := hlo b hb; simp; omega) (fun b hb => by have := HF.out.2.2.2.2 b hb; simp; omega)
                have hfre : w.heap.size ≤ fb := by have := HP.out.2.1 pb (by simp); have := hlo pb (by simp); omega
                have hc3 := ((hc.setCell (p := ⟨mb, v, none⟩) (Or.inr (HP.out.2.1 mb (by simp))) (.int .i64 t)).setCell (p := ⟨ab, t, none⟩) (Or.inr (HP.out.2.1 ab (by simp))) (.int .i64 v)).setCell (p := ⟨fb, x, none⟩) (Or.inr hfre) (nat (v + 1))
                have R : Hid (FillInv blk j k (t + 1) (upd mem v t) (upd pos t v) ∧ PAt (((wr.setCell ⟨mb, v, none⟩ (.int .i64 t)).setCell ⟨ab, t, none⟩ (.int .i64 v)).setCell ⟨fb, x, none⟩ (nat (v + 1))) pb mb ab sb eb (some ⟨b0, 0, none⟩) c j j k j ⟨upd mem v t, upd pos t v, blk, starts blk k, fun b => starts blk k (b + 1)⟩
                    ∧ Row 3 nat (((wr.setCell ⟨mb, v, none⟩ (.int .i64 t)).setCell ⟨ab, t, none⟩ (.int .i64 v)).setCell ⟨fb, x, none⟩ (nat (v + 1))) fb j fc (fun b => starts blk k b + hits blk b (t + 1)) ∧ Chg [] w (((wr.setCell ⟨mb, v, none⟩ (.int .i64 t)).setCell ⟨ab, t, none⟩ (.int .i64 v)).setCell ⟨fb, x, none⟩ (nat (v + 1)))) := by
                  refine ⟨hfi', hp3, hrow2.congr (fun b hb => ?_), hc3⟩
                  rw [hits_succ]
                  by_cases e : b = x
                  · subst e; rw [upd_same, if_pos hx, hv', hx]; omega
                  · rw [upd_ne _ _ e, if_neg (by rw [← hx]; exact e)]; rfl
                have t0 : (t : Int) < (k : Int) := by omega
                have t1 : IntKind.i64.wrap ((v : Int) + 1) = (v : Int) + 1 := by rw [IntKind.wrap_i64]; omega
                have t2 : (x : Int) < (j : Int) := by omega
                have t3 : (v : Int) < (k : Int) := by omega
                clear hp hp1 hp2 hp3 hc hc3 hrow hrow1 hrow2 hx hv' hfi hfi' hlo hblk hss hfl hfre
                go_wp2_with fail
                go_region
                go_wp2_with fail
                go_roundg (k - (t + 1))
                case measure => omega
                case rel =>
                  refine ⟨t + 1, _, _, by omega, by simp, R.out.1, ?_, ?_, ?_⟩
                  · exact R.out.2.1.chg0 (Chg.refl [] _).drew
                  · exact R.out.2.2.1.chg (Chg.refl [] _).drew (by simp)
                  · exact R.out.2.2.2.drew
              · obtain rfl : t = k := by omega
                have t0 : ¬ (t : Int) < (t : Int) := by omega
                have R : Hid (PAt wr pb mb ab sb eb a c j j t j ⟨mem, pos, blk, starts blk t, fun b => starts blk t (b + 1)⟩ ∧ Pt.Ok ⟨mem, pos, blk, starts blk t, fun b => starts blk t (b + 1)⟩ t j ∧ Chg [] w wr) :=
                  ⟨hp, fill_ok H.out.2 hfi (fun _ _ => rfl) (fun b _ => starts_succ blk t b), hc⟩
                clear hp hfi hrow hc
                go_wp2_with fail
                go_ret
                refine ⟨pb, mb, ab, sb, eb, _, rfl, R.out.1, R.out.2.1, rfl, fun b hb => ?_, HP.out.2.1, R.out.2.2⟩
                simp only
                rw [starts_succ]; omega
end Go.Proofs.Qxb6601951a
