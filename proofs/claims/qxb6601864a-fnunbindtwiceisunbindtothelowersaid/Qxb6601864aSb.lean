import Derived.Test.Qxb6601864aUb
import Derived.Deep.QuietTactic
import Derived.BigQuiet
import Derived.OpenShut
namespace Go.Proofs.Qxb6601864a
open Go.RowKit

set_option maxHeartbeats 1000000 in
theorem zzunbind (B p mb : Nat) (hs : List Hd) (m : Mp) (M : Nat) (w : World) (hb : Bnd B w p mb hs m) (hl : hs.length ≤ 4096) :
    Calls Try.prog 17 #[ptr p, .int .i64 M] w fun e w' => e = .returned (.tuple #[]) ∧ Bnd B w' p mb (hs.take (min M hs.length)) (undo hs m (min M hs.length)) ∧ Below B w w' := by
  have HB := hid hb
  clear hb
  go_enter Try.func17, Try.ntmps17
  go_wp2_with fail
  refine (unbind_any B p mb hs m M w HB.out hl).mono ?_
  rintro e w1 ⟨rfl, h⟩
  have H := hid h
  clear h
  go_wp2_with fail
  go_end0
  exact ⟨rfl, H.out⟩

/-- The slice of what is hidden, and its cells. -/
theorem Bnd.hidden {B : Nat} {w : World} {p mb : Nat} {hs : List Hd} {m : Mp} (h : Bnd B w p mb hs m) : ∃ a c, w.cell? ⟨p, 1, none⟩ = some (.slice a hs.length c) ∧
    ∀ k hd, hs[k]? = some hd → ∃ g, a = some ⟨g, 0, none⟩ ∧ w.cell? ⟨g, k * 3, none⟩ = some (.string hd.1) ∧ w.cell? ⟨g, k * 3 + 1, none⟩ = some (.string hd.2.1) ∧ w.cell? ⟨g, k * 3 + 2, none⟩ = some (.bool hd.2.2) := by
  obtain ⟨hv, hP, _, hown, _⟩ := h
  have c1 := hP.cell (k := 1) rfl
  rcases hown.2 with ⟨rfl, h0⟩ | ⟨g, cap, cur, rfl, q1, q2, q3, q4, q5, q6⟩
  · refine ⟨none, 0, by rw [h0]; exact c1, fun k hd hk => ?_⟩
    have := (List.getElem?_eq_some_iff.1 hk).1
    omega
  · refine ⟨_, _, c1, fun k hd hk => ⟨g, rfl, ?_⟩⟩
    obtain ⟨hlt, rfl⟩ := List.getElem?_eq_some_iff.1 hk
    have hcc : ∀ j u, (hcells hs[k])[j]? = some u → cur[k * 3 + j]? = some u := fun j u hj => by
      have hj3 : j < 3 := by have := (List.getElem?_eq_some_iff.1 hj).1; simpa [hcells] using this
      have hfl : ((hs.take k).flatMap hcells).length = k * 3 := by rw [flat_len, List.length_take]; omega
      have e1 : (cur.toList.take (hs.length * 3))[k * 3 + j]? = some u := by
        have hsp : hs = hs.take k ++ hs[k] :: hs.drop (k + 1) := by
          have := List.take_append_drop k hs
          rw [List.drop_eq_getElem_cons hlt] at this
          exact this.symm
        rw [q6, hsp, List.flatMap_append, List.getElem?_append_right (by omega), hfl, Nat.add_sub_cancel_left, List.flatMap_cons, List.getElem?_append_left (by simpa [hcells] using hj3)]
        simpa using hj
      rw [List.getElem?_take, if_pos (by omega)] at e1
      simpa using e1
    refine ⟨?_, ?_, ?_⟩
    · have := hcc 0 (.string hs[k].1) rfl; simpa [World.cell?, q2] using this
    · have := hcc 1 (.string hs[k].2.1) rfl; simpa [World.cell?, q2] using this
    · have := hcc 2 (.bool hs[k].2.2) rfl; simpa [World.cell?, q2] using this

set_option maxHeartbeats 2000000 in
theorem hiddenAt (B p mb k : Nat) (hs : List Hd) (m : Mp) (hd : Hd) (w : World) (hb : Bnd B w p mb hs m) (hk : hs[k]? = some hd) :
    Calls Try.prog 19 #[ptr p, .int .i64 k] w fun e w' => e = .returned (.tuple #[.string hd.1, .string hd.2.1, .bool hd.2.2]) ∧ Chg [] w w' := by
  obtain ⟨a, c, c1, hcell⟩ := hb.hidden
  obtain ⟨g, rfl, d0, d1, d2⟩ := hcell k hd hk
  have hlt := (List.getElem?_eq_some_iff.1 hk).1
  have t1 : (k : Int) < (hs.length : Int) := by omega
  clear hcell hk hlt hb
  go_enter Try.func19, Try.ntmps19
  go_wp2_with fail
  go_quiet (fail)
  go_wp2
  go_ret3
  have h := (Chg.refl [] w).alloc (.cells #[.string hd.1, .string hd.2.1, .bool hd.2.2] 57)
  exact ⟨rfl, ⟨h.os, h.tape, h.output, h.size, h.block⟩⟩

/-- The strings behind a slice's address. -/
def Strs (w : World) (a : Option Addr) (xs : List ByteArray) : Prop := ∀ k s, xs[k]? = some s → ∃ b off, a = some ⟨b, off, none⟩ ∧ w.cell? ⟨b, off + k, none⟩ = some (.string s)

theorem Bnd.chg {B : Nat} {w w' : World} {p mb : Nat} {hs : List Hd} {m : Mp} (h : Bnd B w p mb hs m) (c : Chg [] w w') : Bnd B w' p mb hs m := h.below c.below (Nat.le_refl _)

theorem zero9 : ∀ w, (zeroValue 9).run Try.prog w = .ok (.string ByteArray.empty) w := fun _ => by kernel_rfl

set_option maxHeartbeats 4000000 in
set_option maxRecDepth 100000 in
theorem same_any (B B' p q mb nb : Nat) (hs : List Hd) (m : Mp) (a : Option Addr) (cap : Nat) (ks : List ByteArray) (w : World) (hx : Bnd B w p mb hs m) (hy : Bnd B' w q nb hs m) (hk : Strs w a ks) (hl : hs.length ≤ 4096) (hl2 : ks.length ≤ 10000) :
    Calls Try.prog 26 #[ptr p, ptr q, .slice a ks.length cap] w fun e w' => e = .returned (.bool true) ∧ Chg [] w w' := by
  obtain ⟨ax, cx, c1, _⟩ := hx.hidden
  obtain ⟨ay, cy, c2, _⟩ := hy.hidden
  have H0 : Hid (Bnd B w p mb hs m ∧ Bnd B' w q nb hs m ∧ Strs w a ks) := ⟨hx, hy, hk⟩
  have t0 : ((hs.length : Int) != (hs.length : Int)) = false := by simp
  clear hx hy hk
  go_enter Try.func26, Try.ntmps26
  go_wp2_with (go_at_call 18; go_in)
  clear c1 c2
  go_loopg [8] hs.length (fun g qv wr => ∃ k : Nat, k + g = hs.length ∧ qv = .int .i64 k ∧ Chg [] w wr)
  case atStart => exact ⟨0, by omega, rfl, Chg.refl _ _⟩
  case round =>
    obtain ⟨k, hkg, rfl, hc⟩ := hrel
    have HC : Hid (Chg [] w wr ∧ k + gk = hs.length) := ⟨hc, hkg⟩
    clear hc hkg
    by_cases hlt : k < hs.length
    · obtain ⟨hd, hhd⟩ : ∃ hd, hs[k]? = some hd := ⟨hs[k], by simp [hlt]⟩
      have HD := hid hhd
      have t1 : (k : Int) < (hs.length : Int) := by omega
      clear hhd
      go_wp2_with fail
      refine (hiddenAt B p mb k hs m hd wr (H0.out.1.chg HC.out.1) HD.out).mono ?_
      rintro e w1 ⟨rfl, hc1⟩
      have HC1 := hid hc1
      clear hc1
      go_wp2_with fail
      refine (hiddenAt B' q nb k hs m hd w1 (H0.out.2.1.chg (HC.out.1.trans HC1.out)) HD.out).mono ?_
      rintro e w2 ⟨rfl, hc2⟩
      have HC2 := hid hc2
      clear hc2
      go_wp2_with fail
      go_roundg (gk - 1)
      case measure => have := HC.out.2; omega
      case rel => exact ⟨k + 1, by have := HC.out.2; omega, by simp, HC.out.1.trans (HC1.out.trans HC2.out)⟩
    · have t1 : ¬ (k : Int) < (hs.length : Int) := by omega
      have e1 := (H0.out.1.chg HC.out.1).bound
      have e2 := (H0.out.2.1.chg HC.out.1).bound
      have m1 : wr.heap[mb]? = some (.map (ents m.1) m.2) := (H0.out.1.chg HC.out.1).map
      have m2 : wr.heap[nb]? = some (.map (ents m.1) m.2) := (H0.out.2.1.chg HC.out.1).map
      have hlen : ∀ ty b, wr.heap[b]? = some (.map (ents m.1) m.2) → (Builtin.len_ #[37] ty #[.map (some b)]).run Try.prog wr = .ok (.int .i64 (m.1.length : Nat)) wr := fun ty b hb => by
        have h1 : Try.prog.underlying 37 = some (.map (Try.prog.mapKeyOf 37) (Try.prog.mapElemOf 37)) := by kernel_rfl
        have := run_len_map (P := Try.prog) wr 37 ty b (ents m.1) m.2 h1 hb
        simpa [ents, goInt] using this
      have l1 := fun ty => hlen ty mb m1
      have l2 := fun ty => hlen ty nb m2
      have t2 : ((m.1.length : Int) != (m.1.length : Int)) = false := by simp
      clear hlen
      go_wp2_with (go_at_call 20; go_in)
      clear l1 l2 e1 e2 m1 m2
      have HCC := hid HC.out.1
      clear HC
      go_loopg [17] ks.length (fun g qv wq => ∃ j : Nat, j + g = ks.length ∧ qv = .int .i64 j ∧ Chg [] w wq)
      case atStart => exact ⟨0, by omega, rfl, HCC.out⟩
      case round =>
        clear HCC
        obtain ⟨j, hjg, rfl, hc⟩ := hrel
        have HC : Hid (Chg [] w wr ∧ j + gk = ks.length) := ⟨hc, hjg⟩
        clear hc hjg
        by_cases hlt2 : j < ks.length
        · obtain ⟨s, hs2⟩ : ∃ s, ks[j]? = some s := ⟨ks[j], by simp [hlt2]⟩
          obtain ⟨b, off, rfl, hcs⟩ := H0.out.2.2 j s hs2
          have c1 := HC.out.1.cell hcs
          have g1 := run_get (P := Try.prog) Try.underlying37 Try.underlying9 zero9 (H0.out.1.chg HC.out.1).map s
          have g2 := run_get (P := Try.prog) Try.underlying37 Try.underlying9 zero9 (H0.out.2.1.chg HC.out.1).map s
          have t3 : (j : Int) < (ks.length : Int) := by omega
          clear hs2 hcs
          go_wp2_with fail
          go_roundg (gk - 1)
          case measure => have := HC.out.2; omega
          case rel => exact ⟨j + 1, by have := HC.out.2; omega, by simp, HC.out.1⟩
        · have t3 : ¬ (j : Int) < (ks.length : Int) := by omega
          go_wp2_with fail
          go_ret
          exact ⟨rfl, HC.out.1⟩
end Go.Proofs.Qxb6601864a
