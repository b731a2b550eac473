import Derived.Test.Qxb6602120aMo
import Derived.Test.Qxb6602120aOu
namespace Go.Proofs.Qxb6602120a
open Go.RowKit

def IsBool (e : Ending) : Prop := ∃ b, e = .returned (.bool b)
set_option maxHeartbeats 1000000 in
theorem bytes_any (s : ByteArray) (w : World) : Calls Try.prog 24 #[.string s] w fun e w' => IsBool e ∧ w' = w := by
  go_enter Try.func24, Try.ntmps24
  go_wp2
  all_goals (go_ret; exact ⟨⟨_, rfl⟩, rfl⟩)

/-- What 'ZZMatchHPXExpansions' answers. -/
def ZzP (s : ByteArray) (w : World) (e : Ending) (w' : World) : Prop :=
  ∃ bD bC oD oC, e = .returned (.tuple #[.slice (some ⟨bD, 0, none⟩) (nOut (run (vOf s) s.size s.size)) (nOut (run (vOf s) s.size s.size)), .slice (some ⟨bC, 0, none⟩) (nOut (run (vOf s) s.size s.size)) (nOut (run (vOf s) s.size s.size))]) ∧ Row 3 nat w' bD (nOut (run (vOf s) s.size s.size)) (nOut (run (vOf s) s.size s.size)) oD ∧ Row 3 int w' bC (nOut (run (vOf s) s.size s.size)) (nOut (run (vOf s) s.size s.size)) oC ∧ Outs (run (vOf s) s.size s.size) oD oC (run (vOf s) s.size s.size).m ∧ Chg [] w w'

set_option maxHeartbeats 4000000 in
set_option maxRecDepth 100000 in
theorem zz_any (s : ByteArray) (hs : s.size ≤ 4096) (w : World) (HM : Hid (Calls Try.prog 33 #[.string s] w fun e w' => MatP s w e w')) : Calls Try.prog 25 #[.string s] w fun e w' => ZzP s w e w' := by
  go_enter Try.func25, Try.ntmps25
  go_wp2_with fail
  refine HM.out.mono ?_
  rintro e w1 ⟨a, n, cap, oD, oC, rfl, hn, hrd, hout, hc⟩
  have hle : n ≤ 4096 := by
    have h1 := cnt_le_self (fun x => decide ((run (vOf s) s.size s.size).st x = 1)) (run (vOf s) s.size s.size).m
    have h2 := (run_inv (vOf s) s.size s.size).le
    omega
  have H := hid (And.intro hn (And.intro hrd (And.intro hout hc)))
  clear hn hrd hout hc HM
  have hmk := make_ints (n : Int) n rfl (by omega)
  go_wp2_with fail
  clear hmk
  have eA : (List.replicate n (Value.int .i64 0)).toArray = Array.replicate n (Value.int .i64 0) := by simp
  obtain ⟨bD, hbD⟩ : ∃ bD, bD = w1.heap.size := ⟨_, rfl⟩
  obtain ⟨bC, hbC⟩ : ∃ bC, bC = w1.heap.size + 1 := ⟨_, rfl⟩
  have HB : Hid (Row 3 nat ((w1.alloc (.cells (Array.replicate n (Value.int .i64 0)) 3)).alloc (.cells (Array.replicate n (Value.int .i64 0)) 3)) bD n n (fun _ => 0) ∧ Row 3 int ((w1.alloc (.cells (Array.replicate n (Value.int .i64 0)) 3)).alloc (.cells (Array.replicate n (Value.int .i64 0)) 3)) bC n n (fun _ => 0) ∧ Chg [] w1 ((w1.alloc (.cells (Array.replicate n (Value.int .i64 0)) 3)).alloc (.cells (Array.replicate n (Value.int .i64 0)) 3)) ∧ bD ≠ bC ∧ w1.heap.size ≤ bD ∧ w1.heap.size ≤ bC) := by
    rw [← eA, hbD, hbC]
    refine ⟨(Row.made w1 n _ 0 rfl).alloc _, ?_, ((Chg.refl [] w1).alloc _).alloc _, by omega, by omega, by omega⟩
    have := Row.made (enc := int) (e := 3) (w1.alloc (.cells (List.replicate n (Value.int .i64 0)).toArray 3)) n (.int .i64 0) 0 rfl
    simpa using this
  rw [← hbC, ← hbD]
  clear eA hbD hbC
  generalize (w1.alloc (.cells (Array.replicate n (Value.int .i64 0)) 3)).alloc (.cells (Array.replicate n (Value.int .i64 0)) 3) = wm at HB ⊢
  go_loopg [7] n (fun g i wr => ∃ k : Nat, k + g = n ∧ i = .int .i64 k ∧ Row 3 nat wr bD n n (fun j => if j < k then oD j else 0) ∧ Row 3 int wr bC n n (fun j => if j < k then oC j else 0) ∧ Chg [] w1 wr)
  case atStart => exact ⟨0, by omega, rfl, HB.out.1, HB.out.2.1, HB.out.2.2.1⟩
  case round =>
  obtain ⟨k, hkg, rfl, hr1, hr2, hc⟩ := hrel
  by_cases hlt : k < n
  · have t0 : (k : Int) < (n : Int) := by omega
    obtain ⟨fb, e1, p0', p1'⟩ := H.out.2.1 k hlt
    subst e1
    have nDC := HB.out.2.2.2.1
    have p0 : wr.cell? ⟨fb, k * 2, none⟩ = some (.int .i64 (oD k)) := hc.cell p0'
    have r1 : wr.cell? ⟨bD, k, none⟩ = some (.int .i64 ((if k < k then oD k else 0 : Nat) : Int)) := hr1.read hlt
    have f1 := hr1.frozen k
    have hr1' := hr1.set k (oD k)
    have hr2' := hr2.other (p := ⟨bD, k, none⟩) (fun e => nDC e.symm) (nat (oD k))
    have hc' := hc.setCell (p := ⟨bD, k, none⟩) (Or.inr HB.out.2.2.2.2.1) (nat (oD k))
    obtain ⟨W1, hW1⟩ : ∃ W1, wr.setCell ⟨bD, k, none⟩ (.int .i64 (oD k : Int)) = W1 := ⟨_, rfl⟩
    have a1 : Row 3 nat W1 bD n n (upd (fun j => if j < k then oD j else 0) k (oD k)) := by rw [← hW1]; exact hr1'
    have a2 : Row 3 int W1 bC n n (fun j => if j < k then oC j else 0) := by rw [← hW1]; exact hr2'
    have a3 : Chg [] w1 W1 := by rw [← hW1]; exact hc'
    have p1 : W1.cell? ⟨fb, k * 2 + 1, none⟩ = some (.int .i64 (oC k)) := a3.cell p1'
    have r2 : W1.cell? ⟨bC, k, none⟩ = some (.int .i64 (if k < k then oC k else 0)) := a2.read hlt
    have f2 := a2.frozen k
    have HR : Hid (Row 3 nat (W1.setCell ⟨bC, k, none⟩ (.int .i64 (oC k))) bD n n (fun j => if j < k + 1 then oD j else 0) ∧ Row 3 int (W1.setCell ⟨bC, k, none⟩ (.int .i64 (oC k))) bC n n (fun j => if j < k + 1 then oC j else 0) ∧ Chg [] w1 (W1.setCell ⟨bC, k, none⟩ (.int .i64 (oC k)))) := by
      refine ⟨(a1.other nDC _).congr (fun j hj => ?_), (a2.set k (oC k)).congr (fun j hj => ?_), a3.setCell (Or.inr HB.out.2.2.2.2.2) _⟩
      · by_cases e : j = k
        · subst e; rw [upd_same, if_pos (by omega)]
        · rw [upd_ne _ _ e]
          by_cases e2 : j < k
          · rw [if_pos e2, if_pos (by omega)]
          · rw [if_neg e2, if_neg (by omega)]
      · by_cases e : j = k
        · subst e; rw [upd_same, if_pos (by omega)]
        · rw [upd_ne _ _ e]
          by_cases e2 : j < k
          · rw [if_pos e2, if_pos (by omega)]
          · rw [if_neg e2, if_neg (by omega)]
    clear hr1 hr2 hc hr1' hr2' hc' a1 a2 a3 p0' p1'
    go_wp2_with fail
    go_roundg (n - (k + 1))
    case measure => omega
    case rel => exact ⟨k + 1, by omega, by simp, HR.out.1, HR.out.2.1, HR.out.2.2⟩
  · have t0 : ¬ (k : Int) < (n : Int) := by omega
    have HR : Hid (Row 3 nat wr bD n n oD ∧ Row 3 int wr bC n n oC ∧ Chg [] w1 wr) :=
      ⟨hr1.congr (fun j hj => by rw [if_pos (by omega)]), hr2.congr (fun j hj => by rw [if_pos (by omega)]), hc⟩
    clear hr1 hr2 hc
    go_wp2_with fail
    go_ret2
    have hn : nOut (run (vOf s) s.size s.size) = n := H.out.1.symm
    refine ⟨bD, bC, oD, oC, ?_, ?_, ?_, H.out.2.2.1, H.out.2.2.2.trans HR.out.2.2⟩
    · rw [hn]; rfl
    · rw [hn]; exact HR.out.1
    · rw [hn]; exact HR.out.2.1

set_option maxHeartbeats 4000000 in
set_option maxRecDepth 100000 in
theorem law_any (s : ByteArray) (w : World) (HM : Hid (s.size ≤ 4096 → Calls Try.prog 33 #[.string s] w fun e w' => MatP s w e w')) : Calls Try.prog 9 #[.string s] w fun e w' => e = .returned (.bool true) ∧ Chg [] w w' := by
  have K := hid (bytes_any s w)
  go_enter Try.func9, Try.ntmps9
  go_wp2_with fail
  refine K.out.mono ?_
  rintro e w1 ⟨⟨b, rfl⟩, rfl⟩
  clear K
  cases b
  · go_wp2_with fail
    go_ret
    exact ⟨rfl, Chg.refl _ _⟩
  by_cases g : 4096 < s.size
  · have t1 : (4096 : Int) < (s.size : Int) := by omega
    go_wp2_with fail
    go_ret
    exact ⟨rfl, Chg.refl _ _⟩
  have t1 : ¬ (4096 : Int) < (s.size : Int) := by omega
  go_wp2_with fail
  refine (zz_any s (by omega) w1 (hid (HM.out (by omega)))).mono ?_
  rintro e w2 ⟨bD, bC, oD, oC, rfl, h1, h2, h3, h4⟩
  have Z := hid (And.intro h1 (And.intro h2 (And.intro h3 h4)))
  clear h1 h2 h3 h4
  go_wp2_with fail
  refine (model_any s (by omega) w2).mono ?_
  rintro e w3 ⟨aD, cD, aC, cC, pD, pC, rfl, h1, h2, h3, h4⟩
  have M := hid (And.intro h1 (And.intro h2 (And.intro h3 h4)))
  clear h1 h2 h3 h4
  obtain ⟨n, hn⟩ : ∃ n, n = nOut (run (vOf s) s.size s.size) := ⟨_, rfl⟩
  rw [← hn] at Z M ⊢
  have hn4 : n ≤ 4096 := by
    have h1 := cnt_le_self (fun x => decide ((run (vOf s) s.size s.size).st x = 1)) (run (vOf s) s.size s.size).m
    have h2 := (run_inv (vOf s) s.size s.size).le
    unfold nOut at hn
    omega
  have HN := hid hn
  clear hn t1 HM
  go_wp2_with fail
  go_loopg [7] n (fun g i wr => ∃ k d : Nat, k + g = n ∧ i = .int .i64 k ∧ wr = w3.drewN d)
  case atStart => exact ⟨0, 0, by omega, rfl, rfl⟩
  case round =>
  obtain ⟨k, d, hkg, rfl, rfl⟩ := hrel
  by_cases hlt : k < n
  · have t0 : (k : Int) < (n : Int) := by omega
    have r1 : w3.cell? ⟨bD, k, none⟩ = some (.int .i64 (oD k)) := M.out.2.2.2.cell (Z.out.1.read hlt)
    have r2 : w3.cell? ⟨bC, k, none⟩ = some (.int .i64 (oC k)) := M.out.2.2.2.cell (Z.out.2.1.read hlt)
    obtain ⟨b1, o1, e1, r3'⟩ := M.out.1 k hlt
    obtain ⟨b2, o2, e2, r4'⟩ := M.out.2.1 k hlt
    subst e1 e2
    have r3 : w3.cell? ⟨b1, o1 + k, none⟩ = some (.int .i64 (pD k)) := r3'
    have r4 : w3.cell? ⟨b2, o2 + k, none⟩ = some (.int .i64 (pC k)) := r4'
    obtain ⟨j, hj, hj1, hj2⟩ := cnt_find (fun x => decide ((run (vOf s) s.size s.size).st x = 1)) (run (vOf s) s.size s.size).m k (by have := HN.out; unfold nOut at this; omega)
    have q1 := Z.out.2.2.1 j hj (by simpa using hj1)
    have q2 := M.out.2.2.1 j hj (by simpa using hj1)
    rw [hj2] at q1 q2
    rw [q1.1] at r1
    rw [q1.2] at r2
    rw [q2.1] at r3
    rw [q2.2] at r4
    obtain ⟨dv, hdv⟩ : ∃ dv, dv = (run (vOf s) s.size s.size).ds j := ⟨_, rfl⟩
    obtain ⟨cv, hcv⟩ : ∃ cv, cv = (run (vOf s) s.size s.size).cl j := ⟨_, rfl⟩
    rw [← hdv] at r1 r3
    rw [← hcv] at r2 r4
    clear q1 q2 hj hj1 hj2 hdv hcv r3' r4'
    go_wp2_with fail
    go_quiet (fail)
    go_wp2_with fail
    go_roundg (n - (k + 1))
    case measure => omega
    case rel => exact ⟨k + 1, _, by omega, by simp, rfl⟩
  · have t0 : ¬ (k : Int) < (n : Int) := by omega
    go_wp2_with fail
    go_ret
    exact ⟨rfl, Z.out.2.2.2.trans (M.out.2.2.2.trans ⟨rfl, rfl, rfl, Nat.le_refl _, fun _ _ _ => rfl⟩)⟩
end Go.Proofs.Qxb6602120a
