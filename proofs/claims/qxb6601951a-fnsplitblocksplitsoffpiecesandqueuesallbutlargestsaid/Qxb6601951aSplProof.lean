import Derived.Test.Qxb6601951aRows
import Derived.Test.Qxb6601951aCf
import Derived.Test.Qxb6601951aLaw
import Derived.ProofKit
import Derived.Carry
import Derived.OpenShut
import Derived.ChangeSame
import Derived.Deep.Strs
namespace Go.Proofs.Qxb6601951a
open Go.ChangeShapes Go.WideShapes Go.ChangeAt Go.RowKit

theorem own5 : ownKnob Try.prog.godebug = none := by kernel_rfl
theorem laidOut : laidOutB Try.prog = true := by kernel_rfl
theorem cells3 : Try.prog.cellsOf 3 = 1 := by kernel_rfl
theorem cells4 : Try.prog.cellsOf 4 = 1 := by kernel_rfl
theorem cells35 : Try.prog.cellsOf 35 = 2 := by kernel_rfl

section
variable {H : Type} {enc : TypeId × Value → H} {w : World} {spare : Nat → Bool}

theorem ints_of_trod {fuel : Nat} {v : Value} {x : DataW H × List MemPlace} (h : DataW.trod enc Try.prog w 0 spare true fuel 22 [v] = some x) : ∃ a n cap f, v = .slice a n cap ∧ Rd int w a n f ∧ (a = none → n = 0) := by
  rcases Go.Deep.open_slice1 Try.underlying22 cells3 h with ⟨hcs, _⟩ | ⟨a, len, cap, m, n, V, D, Pl, hcs, _, hl, hm, hmm, _, hc⟩
  · obtain rfl : v = .slice none 0 0 := by simpa using hcs
    exact ⟨none, 0, 0, fun _ => 0, rfl, fun k hk => by omega, fun _ => rfl⟩
  · obtain rfl : v = .slice (some a) len cap := by simpa using hcs
    have hlm : len ≤ m := by rw [hmm]; split <;> omega
    have each : ∀ i, i < len → ∃ p : Int, w.cell? (a.add i) = some (.int .i64 p) := fun i hi => by
      obtain ⟨h1, h2⟩ := hc i (by omega)
      obtain ⟨p, e, _⟩ := DataW.trod_int Try.underlying3 h2
      have e' : V i = .int .i64 p := by simpa using e
      exact ⟨p, by rw [h1, e']⟩
    obtain ⟨X, hX⟩ := Go.Deep.choose_lt each
    refine ⟨some a, len, cap, X, rfl, fun k hk => ?_, fun h => by cases h⟩
    have h0 := hX k hk
    have h00 := hX 0 (by omega)
    obtain ⟨b, off, spot⟩ := a
    have hspot : spot = none := by simpa [Addr.add] using World.cell?_spot h00
    subst hspot
    rw [add_plain] at h0
    exact ⟨b, off, rfl, h0⟩

theorem bools_of_trod {fuel : Nat} {v : Value} {x : DataW H × List MemPlace} (h : DataW.trod enc Try.prog w 0 spare true fuel 31 [v] = some x) : ∃ a n cap f, v = .slice a n cap ∧ Rd Value.bool w a n f ∧ (a = none → n = 0) := by
  rcases Go.Deep.open_slice1 Try.underlying31 cells4 h with ⟨hcs, _⟩ | ⟨a, len, cap, m, n, V, D, Pl, hcs, _, hl, hm, hmm, _, hc⟩
  · obtain rfl : v = .slice none 0 0 := by simpa using hcs
    exact ⟨none, 0, 0, fun _ => false, rfl, fun k hk => by omega, fun _ => rfl⟩
  · obtain rfl : v = .slice (some a) len cap := by simpa using hcs
    have hlm : len ≤ m := by rw [hmm]; split <;> omega
    have each : ∀ i, i < len → ∃ p : Bool, w.cell? (a.add i) = some (.bool p) := fun i hi => by
      obtain ⟨h1, h2⟩ := hc i (by omega)
      obtain ⟨p, e, _⟩ := DataW.trod_bool Try.underlying4 h2
      have e' : V i = .bool p := by simpa using e
      exact ⟨p, by rw [h1, e']⟩
    obtain ⟨X, hX⟩ := Go.Deep.choose_lt each
    refine ⟨some a, len, cap, X, rfl, fun k hk => ?_, fun h => by cases h⟩
    have h0 := hX k hk
    have h00 := hX 0 (by omega)
    obtain ⟨b, off, spot⟩ := a
    have hspot : spot = none := by simpa [Addr.add] using World.cell?_spot h00
    subst hspot
    rw [add_plain] at h0
    exact ⟨b, off, rfl, h0⟩

theorem pairs_of_trod {fuel : Nat} {v : Value} {x : DataW H × List MemPlace} (h : DataW.trod enc Try.prog w 0 spare true fuel 33 [v] = some x) : ∃ a n cap lo hi, v = .slice a n cap ∧ RdP w a n lo hi ∧ (a = none → n = 0) := by
  rcases Go.Deep.open_slice Try.underlying33 h with ⟨hcs, _⟩ | ⟨a, len, cap, m, n, D, Pl, hcs, _, hl, hm, hmm, _, hc⟩
  · obtain rfl : v = .slice none 0 0 := by simpa using hcs
    exact ⟨none, 0, 0, fun _ => 0, fun _ => 0, rfl, fun k hk => by omega, fun _ => rfl⟩
  · obtain rfl : v = .slice (some a) len cap := by simpa using hcs
    have hlm : len ≤ m := by rw [hmm]; split <;> omega
    rw [cells35] at hc
    have each : ∀ i, i < len → ∃ p : Int × Int, w.cell? ((a.add (i * 2)).add 0) = some (.int .i64 p.1) ∧ w.cell? ((a.add (i * 2)).add 1) = some (.int .i64 p.2) := fun i hi => by
      obtain ⟨cs', h1, h2⟩ := hc i (by omega)
      obtain ⟨_, hlen, hcell⟩ := World.cells?_some h1
      obtain ⟨xs, m', _, _, _, hxl, hx⟩ := DataW.trod_array Try.underlying35 h2
      match cs', hlen with
      | [u0, u1], _ =>
        have t0 := hx 0 (by omega)
        have t1 := hx 1 (by omega)
        simp only [cells3, Nat.zero_mul, Nat.one_mul, List.drop_zero, List.take_succ_cons, List.take_zero, List.drop_succ_cons] at t0 t1
        rw [List.getElem?_eq_getElem (by omega)] at t0 t1
        obtain ⟨p0, e0, _⟩ := DataW.trod_int Try.underlying3 t0
        obtain ⟨p1, e1, _⟩ := DataW.trod_int Try.underlying3 t1
        obtain rfl : u0 = .int .i64 p0 := by simpa using e0
        obtain rfl : u1 = .int .i64 p1 := by simpa using e1
        exact ⟨(p0, p1), by rw [hcell 0 (by omega)]; rfl, by rw [hcell 1 (by omega)]; rfl⟩
    obtain ⟨X, hX⟩ := Go.Deep.choose_lt each
    refine ⟨some a, len, cap, fun k => (X k).1, fun k => (X k).2, rfl, fun k hk => ?_, fun h => by cases h⟩
    obtain ⟨c0, c1⟩ := hX k hk
    have h00 := (hX 0 (by omega)).1
    obtain ⟨b, off, spot⟩ := a
    have hspot : spot = none := by simpa [Addr.add] using World.cell?_spot h00
    subst hspot
    rw [add_plain, add_plain] at c0 c1
    exact ⟨b, off, rfl, c0, c1⟩
end

set_option maxRecDepth 100000 in
theorem splitBlock_lifted (os : Os) (started : os.Started) (H : Type) (enc : TypeId × Value → H) :
    ReturnsInHanded {} Try.checked os 5 .any (Rows.fnSplitBlockSplitsOffPiecesAndQueuesAllButLargestSpec.pre6 enc Try.prog Try.f5 Rows.fnSplitBlockSplitsOffPiecesAndQueuesAllButLargestRow.domain false) (Rows.fnSplitBlockSplitsOffPiecesAndQueuesAllButLargestSpec.post enc Try.prog Try.f5 false true false false) := by
  refine returnsInHanded_of_change (C := Try.checked) own5 started (by kernel_rfl) Try.func5
    (ChangeSpec.witness6 (enc := enc) (C := Try.checked) false ⟨#[], #[.slice none 0 0, .int .i64 0, .slice none 0 0, .slice none 0 0, .slice none 0 0, .int .i64 0, .slice none 0 0], []⟩ 8 (by kernel_rfl) (by kernel_rfl) (by kernel_rfl) (by kernel_rfl)) ?_
  intro W base args ds gs before hval0 hW _ _
  have hval : ∀ (j : Nat) t v, Try.f5.params[j]? = some t → args[j]? = some v → Value.okWide Try.prog W .any base t v := hval0
  have hW' := hW
  obtain ⟨p, q, hA0, hV, rfl, _, _⟩ := hW
  have hA : DataW.TrodAll enc Try.prog W 0 (fun _ => true) true Try.f5.params.toList args.toList ds p := hA0
  rw [Try.params5] at hA hval
  obtain ⟨v0, vs0, d0, ds0, p0, q0, hargs, rfl, rfl, h0, r0⟩ := trodAll_cons hA
  obtain ⟨v1, vs1, d1, ds1, p1, q1, rfl, rfl, rfl, h1, r1⟩ := trodAll_cons r0
  obtain ⟨v2, vs2, d2, ds2, p2, q2, rfl, rfl, rfl, h2, r2⟩ := trodAll_cons r1
  obtain ⟨v3, vs3, d3, ds3, p3, q3, rfl, rfl, rfl, h3, r3⟩ := trodAll_cons r2
  obtain ⟨v4, vs4, d4, ds4, p4, q4, rfl, rfl, rfl, h4, r4⟩ := trodAll_cons r3
  obtain ⟨v5, vs5, d5, ds5, p5, q5, rfl, rfl, rfl, h5, r5⟩ := trodAll_cons r4
  obtain ⟨v6, vs6, d6, ds6, p6, q6, rfl, rfl, rfl, h6, r6⟩ := trodAll_cons r5
  obtain ⟨rfl, rfl, rfl⟩ := trodAll_nil r6
  obtain rfl : args = #[v0, v1, v2, v3, v4, v5, v6] := by cases args; simp_all
  obtain ⟨rfl, rfl⟩ := trodVars_none hV
  obtain ⟨x, rfl, rfl, rfl, wx⟩ := open_int Try.underlying3 (hval 1 3 v1 rfl rfl) h1
  obtain ⟨y, rfl, rfl, rfl, wy⟩ := open_int Try.underlying3 (hval 5 3 v5 rfl rfl) h5
  have hlt0 : ∀ x ∈ p0, x.block < W.heap.size := fun x hx => by simpa using hW'.lt x (by simp [hx])
  have hlt2 : ∀ x ∈ p2, x.block < W.heap.size := fun x hx => by simpa using hW'.lt x (by simp [hx])
  have hlt3 : ∀ x ∈ p3, x.block < W.heap.size := fun x hx => by simpa using hW'.lt x (by simp [hx])
  have hlt4 : ∀ x ∈ p4, x.block < W.heap.size := fun x hx => by simpa using hW'.lt x (by simp [hx])
  have hlt6 : ∀ x ∈ p6, x.block < W.heap.size := fun x hx => by simpa using hW'.lt x (by simp [hx])
  obtain ⟨a0, n0, c0, rfl⟩ := okWide_slice Try.underlying22 (hval 0 22 v0 rfl rfl)
  obtain ⟨a2, n2, c2, rfl⟩ := okWide_slice Try.underlying22 (hval 2 22 v2 rfl rfl)
  obtain ⟨a3, n3, c3, rfl⟩ := okWide_slice Try.underlying31 (hval 3 31 v3 rfl rfl)
  obtain ⟨a4, n4, c4, rfl⟩ := okWide_slice Try.underlying22 (hval 4 22 v4 rfl rfl)
  obtain ⟨a6, n6, c6, rfl⟩ := okWide_slice Try.underlying33 (hval 6 33 v6 rfl rfl)
  obtain ⟨f0, hf0⟩ := id h0
  obtain ⟨f2, hf2⟩ := id h2
  obtain ⟨f3, hf3⟩ := id h3
  obtain ⟨f4, hf4⟩ := id h4
  obtain ⟨f6, hf6⟩ := id h6
  obtain ⟨a0', n0', c0', B, e0, hb0, z0⟩ := ints_of_trod hf0
  obtain ⟨rfl, rfl, rfl⟩ : a0 = a0' ∧ n0 = n0' ∧ c0 = c0' := by simpa using e0
  obtain ⟨a2', n2', c2', Wk, e2, hb2, z2⟩ := ints_of_trod hf2
  obtain ⟨rfl, rfl, rfl⟩ : a2 = a2' ∧ n2 = n2' ∧ c2 = c2' := by simpa using e2
  obtain ⟨a3', n3', c3', Vt, e3, hb3, z3⟩ := bools_of_trod hf3
  obtain ⟨rfl, rfl, rfl⟩ : a3 = a3' ∧ n3 = n3' ∧ c3 = c3' := by simpa using e3
  obtain ⟨a4', n4', c4', Vl, e4, hb4, z4⟩ := ints_of_trod hf4
  obtain ⟨rfl, rfl, rfl⟩ : a4 = a4' ∧ n4 = n4' ∧ c4 = c4' := by simpa using e4
  obtain ⟨a6', n6', c6', lo, hi, e6, hb6, z6⟩ := pairs_of_trod hf6
  obtain ⟨rfl, rfl, rfl⟩ : a6 = a6' ∧ n6 = n6' ∧ c6 = c6' := by simpa using e6
  clear hA0 hval0
  refine (law_any a0 a2 a3 a4 a6 n0 n2 n3 n4 n6 c0 c2 c3 c4 c6 B Wk Vt Vl lo hi x y W hb0 hb2 hb3 hb4 hb6 z0 z2 z3 z4 z6).mono fun e W' ⟨he, hc⟩ => ?_
  subst he
  have hbelow := hc.below
  refine ⟨_, rfl, _, _, _, [], p0 ++ ([] ++ (p2 ++ (p3 ++ (p4 ++ ([] ++ (p6 ++ [])))))), [], hW', ?_, ?_, rfl, hbelow.frame _, fun h => by cases h⟩
  · exact trodAll_cons_mk (shut_bool Try.underlying4 _) trodAll_mk0
  · exact trodAll_cons_mk (Below.trod laidOut (by kernel_rfl) (of_decide_eq_true (by kernel_rfl)) h0 hbelow hlt0) (trodAll_cons_mk (shut_int Try.underlying3 wx) (trodAll_cons_mk (Below.trod laidOut (by kernel_rfl) (of_decide_eq_true (by kernel_rfl)) h2 hbelow hlt2)
      (trodAll_cons_mk (Below.trod laidOut (by kernel_rfl) (of_decide_eq_true (by kernel_rfl)) h3 hbelow hlt3) (trodAll_cons_mk (Below.trod laidOut (by kernel_rfl) (of_decide_eq_true (by kernel_rfl)) h4 hbelow hlt4) (trodAll_cons_mk (shut_int Try.underlying3 wy)
      (trodAll_cons_mk (Below.trod laidOut (by kernel_rfl) (of_decide_eq_true (by kernel_rfl)) h6 hbelow hlt6) trodAll_mk0))))))

theorem named5 : Try.pinned.checked.prog.funcNamed Rows.fnSplitBlockSplitsOffPiecesAndQueuesAllButLargestRow.func = some 5 := by kernel_rfl
theorem cf5_inPlace : (Rows.fnSplitBlockSplitsOffPiecesAndQueuesAllButLargestRow.inPlace == Try.pinned.checked.prog.inPlace 5) = true := by kernel_rfl
theorem cf5_unfollowed : (Rows.fnSplitBlockSplitsOffPiecesAndQueuesAllButLargestRow.unfollowed == Try.pinned.checked.prog.unfollowed 5) = true := by kernel_rfl
theorem cf5_recurses : (Rows.fnSplitBlockSplitsOffPiecesAndQueuesAllButLargestRow.recurses == Try.pinned.checked.prog.recurses 5) = true := by kernel_rfl
theorem cf5_named : (Rows.fnSplitBlockSplitsOffPiecesAndQueuesAllButLargestRow.named == Try.pinned.checked.prog.varsNamed 5) = true := by kernel_rfl
theorem cf5_final : (Rows.fnSplitBlockSplitsOffPiecesAndQueuesAllButLargestRow.lifted == Try.pinned.checked.prog.liftsFinal) = true := by rw [cf_final]; rfl
theorem cf5_make : (Try.pinned.checked.prog.make == some Rows.fnSplitBlockSplitsOffPiecesAndQueuesAllButLargestRow.make) = true := by rw [cf_make]; rfl
theorem closed5 : joinedFacts Try.pinned.checked.prog 5 Try.f5 Rows.fnSplitBlockSplitsOffPiecesAndQueuesAllButLargestSpec Rows.fnSplitBlockSplitsOffPiecesAndQueuesAllButLargestRow = true := by
  unfold joinedFacts
  rw [cf5_inPlace, cf5_unfollowed, cf5_recurses, cf5_named, cf_laid, cf_maps, cf_enter, cf5_final, cf5_make]
  kernel_rfl
theorem inst5 : Try.f5.isInstance Try.pinned.checked.prog Rows.fnSplitBlockSplitsOffPiecesAndQueuesAllButLargestRow.origin Rows.fnSplitBlockSplitsOffPiecesAndQueuesAllButLargestRow.targs := of_decide_eq_true (by kernel_rfl)
theorem wrap5 : Try.f5.isWrapper Try.pinned.checked.prog Rows.fnSplitBlockSplitsOffPiecesAndQueuesAllButLargestRow.wrapper Rows.fnSplitBlockSplitsOffPiecesAndQueuesAllButLargestRow.mainSum := by
  unfold Func.isWrapper; first | (rw [if_pos (by decide +kernel)]; kernel_rfl) | (rw [if_neg (by decide +kernel)]; exact ⟨rfl, rfl⟩)

theorem splitBlockSplitsOffPiecesAndQueuesAllButLargest : Rows.FnSplitBlockSplitsOffPiecesAndQueuesAllButLargestSaid :=
  OpenClaim.holds_of_wide 5 Try.f5 rfl rfl rfl rfl rfl rfl rfl ⟨rfl, rfl, rfl, rfl, rfl⟩ rfl rfl rfl rfl rfl named5 Try.func5 closed5 inst5 wrap5
    (fun os started H enc _ => splitBlock_lifted os started H enc)
end Go.Proofs.Qxb6601951a
