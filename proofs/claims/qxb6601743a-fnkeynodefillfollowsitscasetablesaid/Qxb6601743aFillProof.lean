import Derived.Test.Qxb6601743aRows
import Derived.Test.Qxb6601743aCf
import Derived.Test.Qxb6601743aLw8
import Derived.ProofKit
import Derived.Carry
import Derived.OpenShut
import Derived.Deep.Strs
namespace Go.Proofs.Qxb6601743a
open Go.ChangeShapes Go.WideShapes Go.ChangeAt Go.RowKit

theorem own8 : ownKnob Try.prog.godebug = none := by kernel_rfl
theorem laidOut : laidOutB Try.prog = true := by kernel_rfl
theorem cells9 : Try.prog.cellsOf 9 = 1 := by kernel_rfl
theorem cells22 : Try.prog.cellsOf 22 = 1 := by kernel_rfl

section
variable {H : Type} {enc : TypeId × Value → H} {w : World} {spare : Nat → Bool}

/-- A slice of strings that reads as data. -/
theorem strV_of_trod {fuel : Nat} {v : Value} {x : DataW H × List MemPlace} (h : DataW.trod enc Try.prog w 0 spare true fuel 22 [v] = some x) : ∃ xs, StrV w v xs ∧ xs.length ≤ maxLen := by
  rcases Go.Deep.open_strs Try.underlying22 Try.underlying9 cells9 h with ⟨hcs, _⟩ | ⟨a, len, cap, m, Sx, hcs, _, hl, hm, hmm, _, hc⟩
  · obtain rfl : v = .slice none 0 0 := by simpa using hcs
    exact ⟨[], ⟨none, 0, rfl, fun k s hk => by simp at hk, fun _ => rfl⟩, Nat.zero_le _⟩
  · obtain rfl : v = .slice (some a) len cap := by simpa using hcs
    have hlm : len ≤ m := by rw [hmm]; split <;> omega
    refine ⟨(List.range len).map Sx, ⟨some a, cap, by simp, fun k s hk => ?_, fun h => by cases h⟩, by simp; omega⟩
    rw [List.getElem?_map] at hk
    cases hr : (List.range len)[k]? with
    | none => rw [hr] at hk; cases hk
    | some q =>
      rw [hr] at hk
      obtain ⟨hlt, rfl⟩ := List.getElem?_eq_some_iff.1 hr
      simp at hlt
      obtain rfl : Sx k = s := by simpa using hk
      have hck := (hc k (by omega)).1
      obtain ⟨b, off, spot⟩ := a
      have hspot : spot = none := by simpa [Addr.add] using World.cell?_spot (hc 0 (by omega)).1
      subst hspot
      exact ⟨b, off, rfl, by rw [← add_plain]; exact hck⟩

/-- A slice of slices of strings that reads as data. -/
theorem nest_of_trod {fuel : Nat} {v : Value} {x : DataW H × List MemPlace} (h : DataW.trod enc Try.prog w 0 spare true fuel 41 [v] = some x) : ∃ a xss cap, v = .slice a xss.length cap ∧ Nest w a xss ∧ xss.length ≤ maxLen := by
  rcases Go.Deep.open_slice1 Try.underlying41 cells22 h with ⟨hcs, _⟩ | ⟨a, len, cap, m, n, V, D, Pl, hcs, _, hl, hm, hmm, _, hc⟩
  · obtain rfl : v = .slice none 0 0 := by simpa using hcs
    exact ⟨none, [], 0, rfl, fun k v xs hk => by simp at hk, Nat.zero_le _⟩
  · obtain rfl : v = .slice (some a) len cap := by simpa using hcs
    have hlm : len ≤ m := by rw [hmm]; split <;> omega
    have each : ∀ i, i < len → ∃ xs, StrV w (V i) xs := fun i hi => by
      obtain ⟨xs, h1, _⟩ := strV_of_trod (hc i (by omega)).2
      exact ⟨xs, h1⟩
    obtain ⟨X, hX⟩ := Go.Deep.choose_lt each
    refine ⟨some a, (List.range len).map (fun i => (V i, X i)), cap, by simp, fun k v xs hk => ?_, by simp; omega⟩
    rw [List.getElem?_map] at hk
    cases hr : (List.range len)[k]? with
    | none => rw [hr] at hk; cases hk
    | some q =>
      rw [hr] at hk
      obtain ⟨hlt, rfl⟩ := List.getElem?_eq_some_iff.1 hr
      simp at hlt
      obtain ⟨rfl, rfl⟩ : V k = v ∧ X k = xs := by simpa using hk
      have hck := (hc k (by omega)).1
      obtain ⟨b, off, spot⟩ := a
      have hspot : spot = none := by simpa [Addr.add] using World.cell?_spot (hc 0 (by omega)).1
      subst hspot
      exact ⟨b, off, rfl, by rw [← add_plain]; exact hck, hX k hlt⟩
end

set_option maxRecDepth 100000 in
theorem fill_lifted (os : Os) (started : os.Started) (H : Type) (enc : TypeId × Value → H) :
    ReturnsInHanded {} Try.checked os 8 .any (Rows.fnKeyNodeFillFollowsItsCaseTableSpec.pre6 enc Try.prog Try.f8 Rows.fnKeyNodeFillFollowsItsCaseTableRow.domain false) (Rows.fnKeyNodeFillFollowsItsCaseTableSpec.post enc Try.prog Try.f8 false true false false) := by
  refine returnsInHanded_of_change (C := Try.checked) own8 started (by kernel_rfl) Try.func8
    (ChangeSpec.witness6 (enc := enc) (C := Try.checked) false ⟨#[], #[.slice none 0 0, .slice none 0 0, .int .i64 0], []⟩ 8 (by kernel_rfl) (by kernel_rfl) (by kernel_rfl) (by kernel_rfl)) ?_
  intro W base args ds gs before hval0 hW _ _
  have hval : ∀ (j : Nat) t v, Try.f8.params[j]? = some t → args[j]? = some v → Value.okWide Try.prog W .any base t v := hval0
  have hW' := hW
  obtain ⟨p, q, hA0, hV, rfl, _, _⟩ := hW
  have hA : DataW.TrodAll enc Try.prog W 0 (fun _ => true) true Try.f8.params.toList args.toList ds p := hA0
  rw [Try.params8] at hA hval
  obtain ⟨v0, vs0, d0, ds0, p0, q0, hargs, rfl, rfl, h0, r0⟩ := trodAll_cons hA
  obtain ⟨v1, vs1, d1, ds1, p1, q1, rfl, rfl, rfl, h1, r1⟩ := trodAll_cons r0
  obtain ⟨v2, vs2, d2, ds2, p2, q2, rfl, rfl, rfl, h2, r2⟩ := trodAll_cons r1
  obtain ⟨rfl, rfl, rfl⟩ := trodAll_nil r2
  obtain rfl : args = #[v0, v1, v2] := by cases args; simp_all
  obtain ⟨rfl, rfl⟩ := trodVars_none hV
  obtain ⟨i, rfl, rfl, rfl, wi⟩ := open_int Try.underlying3 (hval 2 3 v2 rfl rfl) h2
  have hlt0 : ∀ x ∈ p0, x.block < W.heap.size := fun x hx => by simpa using hW'.lt x (by simp [hx])
  have hlt1 : ∀ x ∈ p1, x.block < W.heap.size := fun x hx => by simpa using hW'.lt x (by simp [hx])
  obtain ⟨a0, n0, c0, rfl⟩ := okWide_slice Try.underlying22 (hval 0 22 v0 rfl rfl)
  obtain ⟨a1, n1, c1, rfl⟩ := okWide_slice Try.underlying41 (hval 1 41 v1 rfl rfl)
  obtain ⟨f0, hf0⟩ := id h0
  obtain ⟨f1, hf1⟩ := id h1
  obtain ⟨xs, ⟨a, cap, hv0, hs, _⟩, hl⟩ := strV_of_trod hf0
  obtain ⟨ca, xss, ccap, hv1, hn, hl2⟩ := nest_of_trod hf1
  obtain ⟨rfl, rfl, rfl⟩ : a0 = a ∧ n0 = xs.length ∧ c0 = cap := by simpa using hv0
  obtain ⟨rfl, rfl, rfl⟩ : a1 = ca ∧ n1 = xss.length ∧ c1 = ccap := by simpa using hv1
  clear hA0 hval0
  refine (fill_law a0 a1 c0 c1 i xs xss W hs hn hl hl2 (by simpa [Lit.wf, IntKind.min, IntKind.max, IntKind.signed, IntKind.bits] using wi)).mono fun e W' ⟨he, hc⟩ => ?_
  subst he
  have hbelow := hc.below
  refine ⟨_, rfl, _, _, _, [], p0 ++ (p1 ++ ([] ++ [])), [], hW', ?_, ?_, rfl, hbelow.frame _, fun h => by cases h⟩
  · exact trodAll_cons_mk (shut_bool Try.underlying4 _) trodAll_mk0
  · exact trodAll_cons_mk (Below.trod laidOut (by kernel_rfl) (of_decide_eq_true (by kernel_rfl)) h0 hbelow hlt0) (trodAll_cons_mk (Below.trod laidOut (by kernel_rfl) (of_decide_eq_true (by kernel_rfl)) h1 hbelow hlt1) (trodAll_cons_mk (shut_int Try.underlying3 wi) trodAll_mk0))

theorem named8 : Try.pinned.checked.prog.funcNamed Rows.fnKeyNodeFillFollowsItsCaseTableRow.func = some 8 := by kernel_rfl
theorem cf8_inPlace : (Rows.fnKeyNodeFillFollowsItsCaseTableRow.inPlace == Try.pinned.checked.prog.inPlace 8) = true := by kernel_rfl
theorem cf8_unfollowed : (Rows.fnKeyNodeFillFollowsItsCaseTableRow.unfollowed == Try.pinned.checked.prog.unfollowed 8) = true := by kernel_rfl
theorem cf8_recurses : (Rows.fnKeyNodeFillFollowsItsCaseTableRow.recurses == Try.pinned.checked.prog.recurses 8) = true := by kernel_rfl
theorem cf8_named : (Rows.fnKeyNodeFillFollowsItsCaseTableRow.named == Try.pinned.checked.prog.varsNamed 8) = true := by kernel_rfl
theorem cf8_final : (Rows.fnKeyNodeFillFollowsItsCaseTableRow.lifted == Try.pinned.checked.prog.liftsFinal) = true := by rw [cf_final]; rfl
theorem cf8_make : (Try.pinned.checked.prog.make == some Rows.fnKeyNodeFillFollowsItsCaseTableRow.make) = true := by rw [cf_make]; rfl
theorem closed8 : joinedFacts Try.pinned.checked.prog 8 Try.f8 Rows.fnKeyNodeFillFollowsItsCaseTableSpec Rows.fnKeyNodeFillFollowsItsCaseTableRow = true := by
  unfold joinedFacts
  rw [cf8_inPlace, cf8_unfollowed, cf8_recurses, cf8_named, cf_laid, cf_maps, cf_enter, cf8_final, cf8_make]
  kernel_rfl
theorem inst8 : Try.f8.isInstance Try.pinned.checked.prog Rows.fnKeyNodeFillFollowsItsCaseTableRow.origin Rows.fnKeyNodeFillFollowsItsCaseTableRow.targs := of_decide_eq_true (by kernel_rfl)
theorem wrap8 : Try.f8.isWrapper Try.pinned.checked.prog Rows.fnKeyNodeFillFollowsItsCaseTableRow.wrapper Rows.fnKeyNodeFillFollowsItsCaseTableRow.mainSum := by
  unfold Func.isWrapper; first | (rw [if_pos (by decide +kernel)]; kernel_rfl) | (rw [if_neg (by decide +kernel)]; exact ⟨rfl, rfl⟩)

theorem fillFollowsItsCaseTable : Rows.FnKeyNodeFillFollowsItsCaseTableSaid :=
  OpenClaim.holds_of_wide 8 Try.f8 rfl rfl rfl rfl rfl rfl rfl ⟨rfl, rfl, rfl, rfl, rfl⟩ rfl rfl rfl rfl rfl named8 Try.func8 closed8 inst8 wrap8
    (fun os started H enc _ => fill_lifted os started H enc)
end Go.Proofs.Qxb6601743a
