import Derived.Test.Qxb6601743aRows
import Derived.Test.Qxb6601743aCf
import Derived.Test.Qxb6601743aLw7
import Derived.ProofKit
import Derived.Carry
import Derived.OpenShut
import Derived.ShutString
import Derived.Deep.Strs
namespace Go.Proofs.Qxb6601743a
open Go.ChangeShapes Go.WideShapes Go.ChangeAt Go.RowKit
open Go.ChangeMaps (open_string shut_string)

theorem own7 : ownKnob Try.prog.godebug = none := by kernel_rfl
theorem laidOut7 : laidOutB Try.prog = true := by kernel_rfl
theorem cells9' : Try.prog.cellsOf 9 = 1 := by kernel_rfl
theorem cells4' : Try.prog.cellsOf 4 = 1 := by kernel_rfl

section
variable {H : Type} {enc : TypeId × Value → H} {w : World} {spare : Nat → Bool}

/-- A slice of strings that reads as data. -/
theorem strs_of_trod {fuel : Nat} {v : Value} {x : DataW H × List MemPlace} (h : DataW.trod enc Try.prog w 0 spare true fuel 22 [v] = some x) :
    ∃ a xs cap, v = .slice a xs.length cap ∧ Strs w a xs ∧ (a = none → xs = [] ∧ cap = 0) ∧ xs.length ≤ maxLen := by
  rcases Go.Deep.open_strs Try.underlying22 Try.underlying9 cells9' h with ⟨hcs, _⟩ | ⟨a, len, cap, m, Sx, hcs, _, hl, hm, hmm, _, hc⟩
  · obtain rfl : v = .slice none 0 0 := by simpa using hcs
    exact ⟨none, [], 0, rfl, fun k s hk => by simp at hk, fun _ => ⟨rfl, rfl⟩, Nat.zero_le _⟩
  · obtain rfl : v = .slice (some a) len cap := by simpa using hcs
    have hlm : len ≤ m := by rw [hmm]; split <;> omega
    refine ⟨some a, (List.range len).map Sx, cap, by simp, fun k s hk => ?_, fun h => (by cases h), by simp; omega⟩
    rw [List.getElem?_map] at hk
    cases hr : (List.range len)[k]? with
    | none => rw [hr] at hk; cases hk
    | some q =>
      rw [hr] at hk
      obtain ⟨hlt, rfl⟩ := List.getElem?_eq_some_iff.1 hr
      simp at hlt
      obtain rfl : Sx k = s := by simpa using hk
      have hck := (hc k (by omega)).1
      obtain ⟨b, off, spot⟩ := a
      have hspot : spot = none := by simpa [Addr.add] using World.cell?_spot (hc 0 (by omega)).1
      subst hspot
      exact ⟨b, off, rfl, by rw [← add_plain]; exact hck⟩

/-- A slice of bools that reads as data. -/
theorem bools_of_trod {fuel : Nat} {v : Value} {x : DataW H × List MemPlace} (h : DataW.trod enc Try.prog w 0 spare true fuel 23 [v] = some x) :
    ∃ a bs cap, v = .slice a bs.length cap ∧ Bools w a bs ∧ (a = none → bs = []) ∧ bs.length ≤ maxLen := by
  rcases Go.Deep.open_slice1 Try.underlying23 cells4' h with ⟨hcs, _⟩ | ⟨a, len, cap, m, n, V, D, Pl, hcs, _, hl, hm, hmm, _, hc⟩
  · obtain rfl : v = .slice none 0 0 := by simpa using hcs
    exact ⟨none, [], 0, rfl, fun k s hk => by simp at hk, fun _ => rfl, Nat.zero_le _⟩
  · obtain rfl : v = .slice (some a) len cap := by simpa using hcs
    have hlm : len ≤ m := by rw [hmm]; split <;> omega
    have each : ∀ i, i < len → ∃ b : Bool, V i = .bool b := fun i hi => by
      obtain ⟨b, h1, _⟩ := DataW.trod_bool Try.underlying4 (hc i (by omega)).2
      exact ⟨b, by simpa using h1⟩
    obtain ⟨X, hX⟩ := Go.Deep.choose_lt each
    refine ⟨some a, (List.range len).map X, cap, by simp, fun k s hk => ?_, fun h => (by cases h), by simp; omega⟩
    rw [List.getElem?_map] at hk
    cases hr : (List.range len)[k]? with
    | none => rw [hr] at hk; cases hk
    | some q =>
      rw [hr] at hk
      obtain ⟨hlt, rfl⟩ := List.getElem?_eq_some_iff.1 hr
      simp at hlt
      obtain rfl : X k = s := by simpa using hk
      have hck := (hc k (by omega)).1
      rw [hX k hlt] at hck
      obtain ⟨b, off, spot⟩ := a
      have hspot : spot = none := by simpa [Addr.add] using World.cell?_spot (hc 0 (by omega)).1
      subst hspot
      exact ⟨b, off, rfl, by rw [← add_plain]; exact hck⟩
end

set_option maxRecDepth 100000 in
theorem shrink_lifted (os : Os) (started : os.Started) (H : Type) (enc : TypeId × Value → H) :
    ReturnsInHanded {} Try.checked os 7 .any (Rows.fnKeyIndexDeleteShrinksOnlyAtAOneKeyRootSpec.pre6 enc Try.prog Try.f7 Rows.fnKeyIndexDeleteShrinksOnlyAtAOneKeyRootRow.domain false) (Rows.fnKeyIndexDeleteShrinksOnlyAtAOneKeyRootSpec.post enc Try.prog Try.f7 false true false false) := by
  refine returnsInHanded_of_change (C := Try.checked) own7 started (by kernel_rfl) Try.func7
    (ChangeSpec.witness6 (enc := enc) (C := Try.checked) false ⟨#[], #[.slice none 0 0, .slice none 0 0, .string ByteArray.empty], []⟩ 8 (by kernel_rfl) (by kernel_rfl) (by kernel_rfl) (by kernel_rfl)) ?_
  intro W base args ds gs before hval0 hW _ _
  have hval : ∀ (j : Nat) t v, Try.f7.params[j]? = some t → args[j]? = some v → Value.okWide Try.prog W .any base t v := hval0
  have hW' := hW
  obtain ⟨p, q, hA0, hV, rfl, _, _⟩ := hW
  have hA : DataW.TrodAll enc Try.prog W 0 (fun _ => true) true Try.f7.params.toList args.toList ds p := hA0
  rw [Try.params7] at hA hval
  obtain ⟨v0, vs0, d0, ds0, p0, q0, hargs, rfl, rfl, h0, r0⟩ := trodAll_cons hA
  obtain ⟨v1, vs1, d1, ds1, p1, q1, rfl, rfl, rfl, h1, r1⟩ := trodAll_cons r0
  obtain ⟨v2, vs2, d2, ds2, p2, q2, rfl, rfl, rfl, h2, r2⟩ := trodAll_cons r1
  obtain ⟨rfl, rfl, rfl⟩ := trodAll_nil r2
  obtain rfl : args = #[v0, v1, v2] := by cases args; simp_all
  obtain ⟨rfl, rfl⟩ := trodVars_none hV
  obtain ⟨key, rfl, rfl, rfl, wk⟩ := open_string Try.underlying9 (hval 2 9 v2 rfl rfl) h2
  have hlt0 : ∀ x ∈ p0, x.block < W.heap.size := fun x hx => by simpa using hW'.lt x (by simp [hx])
  have hlt1 : ∀ x ∈ p1, x.block < W.heap.size := fun x hx => by simpa using hW'.lt x (by simp [hx])
  obtain ⟨a0, n0, c0, rfl⟩ := okWide_slice Try.underlying22 (hval 0 22 v0 rfl rfl)
  obtain ⟨a1, n1, c1, rfl⟩ := okWide_slice Try.underlying23 (hval 1 23 v1 rfl rfl)
  obtain ⟨f0, hf0⟩ := id h0
  obtain ⟨f1, hf1⟩ := id h1
  obtain ⟨a, xs, cap, hv0, hs, hn, hl⟩ := strs_of_trod hf0
  obtain ⟨da, bs, dcap, hv1, hb, hbn, hl2⟩ := bools_of_trod hf1
  obtain ⟨rfl, rfl, rfl⟩ : a0 = a ∧ n0 = xs.length ∧ c0 = cap := by simpa using hv0
  obtain ⟨rfl, rfl, rfl⟩ : a1 = da ∧ n1 = bs.length ∧ c1 = dcap := by simpa using hv1
  clear hA0 hval0
  refine (shrink_law a0 a1 c0 c1 key xs bs W hs hn hb hbn hl hl2 wk).mono fun e W' ⟨he, hc⟩ => ?_
  subst he
  have hbelow := hc.below
  refine ⟨_, rfl, _, _, _, [], p0 ++ (p1 ++ ([] ++ [])), [], hW', ?_, ?_, rfl, hbelow.frame _, fun h => by cases h⟩
  · exact trodAll_cons_mk (shut_bool Try.underlying4 _) trodAll_mk0
  · exact trodAll_cons_mk (Below.trod laidOut7 (by kernel_rfl) (of_decide_eq_true (by kernel_rfl)) h0 hbelow hlt0) (trodAll_cons_mk (Below.trod laidOut7 (by kernel_rfl) (of_decide_eq_true (by kernel_rfl)) h1 hbelow hlt1) (trodAll_cons_mk (shut_string Try.underlying9 wk) trodAll_mk0))

theorem named7 : Try.pinned.checked.prog.funcNamed Rows.fnKeyIndexDeleteShrinksOnlyAtAOneKeyRootRow.func = some 7 := by kernel_rfl
theorem cf7_inPlace : (Rows.fnKeyIndexDeleteShrinksOnlyAtAOneKeyRootRow.inPlace == Try.pinned.checked.prog.inPlace 7) = true := by kernel_rfl
theorem cf7_unfollowed : (Rows.fnKeyIndexDeleteShrinksOnlyAtAOneKeyRootRow.unfollowed == Try.pinned.checked.prog.unfollowed 7) = true := by kernel_rfl
theorem cf7_recurses : (Rows.fnKeyIndexDeleteShrinksOnlyAtAOneKeyRootRow.recurses == Try.pinned.checked.prog.recurses 7) = true := by kernel_rfl
theorem cf7_named : (Rows.fnKeyIndexDeleteShrinksOnlyAtAOneKeyRootRow.named == Try.pinned.checked.prog.varsNamed 7) = true := by kernel_rfl
theorem cf7_final : (Rows.fnKeyIndexDeleteShrinksOnlyAtAOneKeyRootRow.lifted == Try.pinned.checked.prog.liftsFinal) = true := by rw [cf_final]; rfl
theorem cf7_make : (Try.pinned.checked.prog.make == some Rows.fnKeyIndexDeleteShrinksOnlyAtAOneKeyRootRow.make) = true := by rw [cf_make]; rfl
theorem closed7 : joinedFacts Try.pinned.checked.prog 7 Try.f7 Rows.fnKeyIndexDeleteShrinksOnlyAtAOneKeyRootSpec Rows.fnKeyIndexDeleteShrinksOnlyAtAOneKeyRootRow = true := by
  unfold joinedFacts
  rw [cf7_inPlace, cf7_unfollowed, cf7_recurses, cf7_named, cf_laid, cf_maps, cf_enter, cf7_final, cf7_make]
  kernel_rfl
theorem inst7 : Try.f7.isInstance Try.pinned.checked.prog Rows.fnKeyIndexDeleteShrinksOnlyAtAOneKeyRootRow.origin Rows.fnKeyIndexDeleteShrinksOnlyAtAOneKeyRootRow.targs := of_decide_eq_true (by kernel_rfl)
theorem wrap7 : Try.f7.isWrapper Try.pinned.checked.prog Rows.fnKeyIndexDeleteShrinksOnlyAtAOneKeyRootRow.wrapper Rows.fnKeyIndexDeleteShrinksOnlyAtAOneKeyRootRow.mainSum := by
  unfold Func.isWrapper; first | (rw [if_pos (by decide +kernel)]; kernel_rfl) | (rw [if_neg (by decide +kernel)]; exact ⟨rfl, rfl⟩)

theorem deleteShrinksOnlyAtAOneKeyRoot : Rows.FnKeyIndexDeleteShrinksOnlyAtAOneKeyRootSaid :=
  OpenClaim.holds_of_wide 7 Try.f7 rfl rfl rfl rfl rfl rfl rfl ⟨rfl, rfl, rfl, rfl, rfl⟩ rfl rfl rfl rfl rfl named7 Try.func7 closed7 inst7 wrap7
    (fun os started H enc _ => shrink_lifted os started H enc)
end Go.Proofs.Qxb6601743a
