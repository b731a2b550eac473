import Derived.Test.Qxb6601864aRows
import Derived.Test.Qxb6601864aCf
import Derived.Test.Qxb6601864aLw8
import Derived.ProofKit
import Derived.Carry
import Derived.OpenShut
import Derived.ChangeSame
import Derived.Deep.Strs
namespace Go.Proofs.Qxb6601864a
open Go.ChangeShapes Go.WideShapes Go.ChangeAt Go.RowKit

theorem own8 : ownKnob Try.prog.godebug = none := by kernel_rfl
theorem laidOut : laidOutB Try.prog = true := by kernel_rfl
theorem cells9 : Try.prog.cellsOf 9 = 1 := by kernel_rfl
theorem cells4 : Try.prog.cellsOf 4 = 1 := by kernel_rfl
theorem cells46 : Try.prog.cellsOf 46 = 2 := by kernel_rfl
theorem cells36 : Try.prog.cellsOf 36 = 3 := by kernel_rfl

section
variable {H : Type} {enc : TypeId × Value → H} {w : World} {spare : Nat → Bool}

theorem pairs_of_trod {fuel : Nat} {v : Value} {x : DataW H × List MemPlace} (h : DataW.trod enc Try.prog w 0 spare true fuel 24 [v] = some x) : ∃ a ps cap, v = .slice a ps.length cap ∧ Pairs w a ps ∧ ps.length ≤ maxLen := by
  rcases Go.Deep.open_slice Try.underlying24 h with ⟨hcs, _⟩ | ⟨a, len, cap, m, n, D, Pl, hcs, _, hl, hm, hmm, _, hc⟩
  · obtain rfl : v = .slice none 0 0 := by simpa using hcs
    exact ⟨none, [], 0, rfl, fun k s hk => by simp at hk, Nat.zero_le _⟩
  · obtain rfl : v = .slice (some a) len cap := by simpa using hcs
    have hlm : len ≤ m := by rw [hmm]; split <;> omega
    rw [cells46] at hc
    have each : ∀ i, i < len → ∃ p : Pr, w.cell? ((a.add (i * 2)).add 0) = some (.string p.1) ∧ w.cell? ((a.add (i * 2)).add 1) = some (.string p.2) := fun i hi => by
      obtain ⟨cs', h1, h2⟩ := hc i (by omega)
      obtain ⟨_, hlen, hcell⟩ := World.cells?_some h1
      obtain ⟨y0, y1, n', _, _, t0, t1⟩ := trod_struct2 Try.underlying46 h2
      match cs', hlen with
      | [u0, u1], _ =>
        simp only [cells9, List.drop_zero, List.take_succ_cons, List.take_zero, List.drop_succ_cons] at t0 t1
        obtain ⟨s0, e0, _⟩ := DataW.trod_string Try.underlying9 t0
        obtain ⟨s1, e1, _⟩ := DataW.trod_string Try.underlying9 t1
        obtain rfl : u0 = .string s0 := by simpa using e0
        obtain rfl : u1 = .string s1 := by simpa using e1
        exact ⟨(s0, s1), by rw [hcell 0 (by omega)]; rfl, by rw [hcell 1 (by omega)]; rfl⟩
    obtain ⟨X, hX⟩ := Go.Deep.choose_lt each
    refine ⟨some a, (List.range len).map X, cap, by simp, fun k p hk => ?_, by simp; omega⟩
    rw [List.getElem?_map] at hk
    cases hr : (List.range len)[k]? with
    | none => rw [hr] at hk; cases hk
    | some q =>
      rw [hr] at hk
      obtain ⟨hlt, rfl⟩ := List.getElem?_eq_some_iff.1 hr
      simp at hlt
      obtain rfl : X k = p := by simpa using hk
      have h0 := (hX 0 (by omega)).1
      obtain ⟨c0, c1⟩ := hX k hlt
      obtain ⟨b, off, spot⟩ := a
      have hspot : spot = none := by simpa [Addr.add] using World.cell?_spot h0
      subst hspot
      rw [add_plain, add_plain] at c0 c1
      exact ⟨b, off, rfl, c0, c1⟩

theorem hids_of_trod {fuel : Nat} {v : Value} {x : DataW H × List MemPlace} (h : DataW.trod enc Try.prog w 0 spare true fuel 25 [v] = some x) : ∃ a ps cap, v = .slice a ps.length cap ∧ Hids w a ps ∧ ps.length ≤ maxLen := by
  rcases Go.Deep.open_slice Try.underlying25 h with ⟨hcs, _⟩ | ⟨a, len, cap, m, n, D, Pl, hcs, _, hl, hm, hmm, _, hc⟩
  · obtain rfl : v = .slice none 0 0 := by simpa using hcs
    exact ⟨none, [], 0, rfl, fun k s hk => by simp at hk, Nat.zero_le _⟩
  · obtain rfl : v = .slice (some a) len cap := by simpa using hcs
    have hlm : len ≤ m := by rw [hmm]; split <;> omega
    rw [cells36] at hc
    have each : ∀ i, i < len → ∃ p : Hd, w.cell? ((a.add (i * 3)).add 0) = some (.string p.1) ∧ w.cell? ((a.add (i * 3)).add 1) = some (.string p.2.1) ∧ w.cell? ((a.add (i * 3)).add 2) = some (.bool p.2.2) := fun i hi => by
      obtain ⟨cs', h1, h2⟩ := hc i (by omega)
      obtain ⟨_, hlen, hcell⟩ := World.cells?_some h1
      obtain ⟨y0, y1, y2, n', _, _, t0, t1, t2⟩ := Go.Deep.trod_struct3 Try.underlying36 h2
      match cs', hlen with
      | [u0, u1, u2], _ =>
        simp only [cells9, cells4, List.drop_zero, List.take_succ_cons, List.take_zero, List.drop_succ_cons] at t0 t1 t2
        obtain ⟨s0, e0, _⟩ := DataW.trod_string Try.underlying9 t0
        obtain ⟨s1, e1, _⟩ := DataW.trod_string Try.underlying9 t1
        obtain ⟨s2, e2, _⟩ := DataW.trod_bool Try.underlying4 t2
        obtain rfl : u0 = .string s0 := by simpa using e0
        obtain rfl : u1 = .string s1 := by simpa using e1
        obtain rfl : u2 = .bool s2 := by simpa using e2
        exact ⟨(s0, s1, s2), by rw [hcell 0 (by omega)]; rfl, by rw [hcell 1 (by omega)]; rfl, by rw [hcell 2 (by omega)]; rfl⟩
    obtain ⟨X, hX⟩ := Go.Deep.choose_lt each
    refine ⟨some a, (List.range len).map X, cap, by simp, fun k p hk => ?_, by simp; omega⟩
    rw [List.getElem?_map] at hk
    cases hr : (List.range len)[k]? with
    | none => rw [hr] at hk; cases hk
    | some q =>
      rw [hr] at hk
      obtain ⟨hlt, rfl⟩ := List.getElem?_eq_some_iff.1 hr
      simp at hlt
      obtain rfl : X k = p := by simpa using hk
      have h0 := (hX 0 (by omega)).1
      obtain ⟨c0, c1, c2⟩ := hX k hlt
      obtain ⟨b, off, spot⟩ := a
      have hspot : spot = none := by simpa [Addr.add] using World.cell?_spot h0
      subst hspot
      rw [add_plain, add_plain] at c0 c1 c2
      exact ⟨b, off, rfl, c0, c1, c2⟩
end

set_option maxRecDepth 100000 in
theorem unbind_lifted (os : Os) (started : os.Started) (H : Type) (enc : TypeId × Value → H) :
    ReturnsInHanded {} Try.checked os 8 .any (Rows.fnUnbindTwiceIsUnbindToTheLowerSpec.pre6 enc Try.prog Try.f8 Rows.fnUnbindTwiceIsUnbindToTheLowerRow.domain false) (Rows.fnUnbindTwiceIsUnbindToTheLowerSpec.post enc Try.prog Try.f8 false true false false) := by
  refine returnsInHanded_of_change (C := Try.checked) own8 started (by kernel_rfl) Try.func8
    (ChangeSpec.witness6 (enc := enc) (C := Try.checked) false ⟨#[], #[.slice none 0 0, .slice none 0 0, .int .i64 0, .int .i64 0], []⟩ 8 (by kernel_rfl) (by kernel_rfl) (by kernel_rfl) (by kernel_rfl)) ?_
  intro W base args ds gs before hval0 hW _ _
  have hval : ∀ (j : Nat) t v, Try.f8.params[j]? = some t → args[j]? = some v → Value.okWide Try.prog W .any base t v := hval0
  have hW' := hW
  obtain ⟨p, q, hA0, hV, rfl, _, _⟩ := hW
  have hA : DataW.TrodAll enc Try.prog W 0 (fun _ => true) true Try.f8.params.toList args.toList ds p := hA0
  rw [Try.params8] at hA hval
  obtain ⟨v0, vs0, d0, ds0, p0, q0, hargs, rfl, rfl, h0, r0⟩ := trodAll_cons hA
  obtain ⟨v1, vs1, d1, ds1, p1, q1, rfl, rfl, rfl, h1, r1⟩ := trodAll_cons r0
  obtain ⟨v2, vs2, d2, ds2, p2, q2, rfl, rfl, rfl, h2, r2⟩ := trodAll_cons r1
  obtain ⟨v3, vs3, d3, ds3, p3, q3, rfl, rfl, rfl, h3, r3⟩ := trodAll_cons r2
  obtain ⟨rfl, rfl, rfl⟩ := trodAll_nil r3
  obtain rfl : args = #[v0, v1, v2, v3] := by cases args; simp_all
  obtain ⟨rfl, rfl⟩ := trodVars_none hV
  obtain ⟨x, rfl, rfl, rfl, wx⟩ := open_int Try.underlying3 (hval 2 3 v2 rfl rfl) h2
  obtain ⟨y, rfl, rfl, rfl, wy⟩ := open_int Try.underlying3 (hval 3 3 v3 rfl rfl) h3
  have hlt0 : ∀ x ∈ p0, x.block < W.heap.size := fun x hx => by simpa using hW'.lt x (by simp [hx])
  have hlt1 : ∀ x ∈ p1, x.block < W.heap.size := fun x hx => by simpa using hW'.lt x (by simp [hx])
  obtain ⟨a0, n0, c0, rfl⟩ := okWide_slice Try.underlying24 (hval 0 24 v0 rfl rfl)
  obtain ⟨a1, n1, c1, rfl⟩ := okWide_slice Try.underlying25 (hval 1 25 v1 rfl rfl)
  obtain ⟨f0, hf0⟩ := id h0
  obtain ⟨f1, hf1⟩ := id h1
  obtain ⟨a, ps, cap, hv0, hs, hl⟩ := pairs_of_trod hf0
  obtain ⟨ha, hds, hcap, hv1, hb, hl2⟩ := hids_of_trod hf1
  obtain ⟨rfl, rfl, rfl⟩ : a0 = a ∧ n0 = ps.length ∧ c0 = cap := by simpa using hv0
  obtain ⟨rfl, rfl, rfl⟩ : a1 = ha ∧ n1 = hds.length ∧ c1 = hcap := by simpa using hv1
  clear hA0 hval0
  refine (unbind_law a0 a1 c0 c1 ps hds x y W hs hb hl hl2).mono fun e W' ⟨he, hc⟩ => ?_
  subst he
  have hbelow := hc.below
  refine ⟨_, rfl, _, _, _, [], p0 ++ (p1 ++ ([] ++ ([] ++ []))), [], hW', ?_, ?_, rfl, hbelow.frame _, fun h => by cases h⟩
  · exact trodAll_cons_mk (shut_bool Try.underlying4 _) trodAll_mk0
  · exact trodAll_cons_mk (Below.trod laidOut (by kernel_rfl) (of_decide_eq_true (by kernel_rfl)) h0 hbelow hlt0) (trodAll_cons_mk (Below.trod laidOut (by kernel_rfl) (of_decide_eq_true (by kernel_rfl)) h1 hbelow hlt1)
      (trodAll_cons_mk (shut_int Try.underlying3 wx) (trodAll_cons_mk (shut_int Try.underlying3 wy) trodAll_mk0)))

theorem named8 : Try.pinned.checked.prog.funcNamed Rows.fnUnbindTwiceIsUnbindToTheLowerRow.func = some 8 := by kernel_rfl
theorem cf8_inPlace : (Rows.fnUnbindTwiceIsUnbindToTheLowerRow.inPlace == Try.pinned.checked.prog.inPlace 8) = true := by kernel_rfl
theorem cf8_unfollowed : (Rows.fnUnbindTwiceIsUnbindToTheLowerRow.unfollowed == Try.pinned.checked.prog.unfollowed 8) = true := by kernel_rfl
theorem cf8_recurses : (Rows.fnUnbindTwiceIsUnbindToTheLowerRow.recurses == Try.pinned.checked.prog.recurses 8) = true := by kernel_rfl
theorem cf8_named : (Rows.fnUnbindTwiceIsUnbindToTheLowerRow.named == Try.pinned.checked.prog.varsNamed 8) = true := by kernel_rfl
theorem cf8_final : (Rows.fnUnbindTwiceIsUnbindToTheLowerRow.lifted == Try.pinned.checked.prog.liftsFinal) = true := by rw [cf_final]; rfl
theorem cf8_make : (Try.pinned.checked.prog.make == some Rows.fnUnbindTwiceIsUnbindToTheLowerRow.make) = true := by rw [cf_make]; rfl
theorem closed8 : joinedFacts Try.pinned.checked.prog 8 Try.f8 Rows.fnUnbindTwiceIsUnbindToTheLowerSpec Rows.fnUnbindTwiceIsUnbindToTheLowerRow = true := by
  unfold joinedFacts
  rw [cf8_inPlace, cf8_unfollowed, cf8_recurses, cf8_named, cf_laid, cf_maps, cf_enter, cf8_final, cf8_make]
  kernel_rfl
theorem inst8 : Try.f8.isInstance Try.pinned.checked.prog Rows.fnUnbindTwiceIsUnbindToTheLowerRow.origin Rows.fnUnbindTwiceIsUnbindToTheLowerRow.targs := of_decide_eq_true (by kernel_rfl)
theorem wrap8 : Try.f8.isWrapper Try.pinned.checked.prog Rows.fnUnbindTwiceIsUnbindToTheLowerRow.wrapper Rows.fnUnbindTwiceIsUnbindToTheLowerRow.mainSum := by
  unfold Func.isWrapper; first | (rw [if_pos (by decide +kernel)]; kernel_rfl) | (rw [if_neg (by decide +kernel)]; exact ⟨rfl, rfl⟩)

theorem unbindTwiceIsUnbindToTheLower : Rows.FnUnbindTwiceIsUnbindToTheLowerSaid :=
  OpenClaim.holds_of_wide 8 Try.f8 rfl rfl rfl rfl rfl rfl rfl ⟨rfl, rfl, rfl, rfl, rfl⟩ rfl rfl rfl rfl rfl named8 Try.func8 closed8 inst8 wrap8
    (fun os started H enc _ => unbind_lifted os started H enc)
end Go.Proofs.Qxb6601864a
