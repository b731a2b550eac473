import Derived.Test.Qxb6602120aRows
import Derived.ProofKit
import Derived.Carry
namespace Go.Proofs.Qxb6602120a
open Go.ChangeShapes Go.WideShapes Go.ChangeAt Go.RowKit

-- the program's head string is long (some 1,100 signs): the kernel is never to decode it. Its first words are taken apart by String.ofList, the rest stays a variable.
theorem lifts_cut (ws : List (List Char)) : stripLifts liftWords (['c', 'u', 't'] :: ws) = ([], ['c', 'u', 't'] :: ws) := by kernel_rfl

theorem head_cut {P : Program} {ws : List (List Char)} (h : behindMainWord (wordsSigns P.initOrder.toList) = ['c', 'u', 't'] :: ws) : P.headLifts = [] := by
  unfold Program.headLifts
  rw [h, lifts_cut]
  rfl

theorem lifts_final {P : Program} {ws : List (List Char)} (h : behindMainWord (wordsSigns P.initOrder.toList) = ['c', 'u', 't'] :: ws) : P.liftsFinal = false := by
  unfold Program.liftsFinal
  rw [h, head_cut h]
  rfl

theorem make_cut {P : Program} {ws : List (List Char)} (h : behindMainWord (wordsSigns P.initOrder.toList) = ['c', 'u', 't'] :: ws) : P.make = some .cut := by
  unfold Program.make
  rw [h]
  rfl

theorem enter_cut {P : Program} {ws : List (List Char)} (h : behindMainWord (wordsSigns P.initOrder.toList) = ['c', 'u', 't'] :: ws) (h1 : P.laysLater = false) (h2 : P.bearsReflect = false) (h3 : P.doorFits [] = true) : P.mayEnter = true := by
  unfold Program.mayEnter
  rw [h]
  simp only [lifts_cut, h1, h2, h3]
  rfl

set_option maxRecDepth 100000 in
theorem head9 : ∃ R, Try.pinned.checked.prog.initOrder = String.ofList ('h' :: 'a' :: 'r' :: 'n' :: 'e' :: 's' :: 's' :: ' ' :: '9' :: '2' :: 'a' :: 'b' :: 'c' :: '8' :: '0' :: '9' :: '6' :: '0' :: '3' :: '8' :: 'd' :: '9' :: '5' :: '9' :: 'b' :: '2' :: '4' :: 'c' :: '4' :: '6' :: 'e' :: 'd' :: '1' :: '4' :: '4' :: 'a' :: 'f' :: '0' :: '5' :: 'f' :: '9' :: '7' :: '8' :: '7' :: 'f' :: 'b' :: 'c' :: 'a' :: 'c' :: '6' :: 'e' :: '6' :: '0' :: '2' :: 'f' :: '1' :: 'f' :: '1' :: '4' :: '8' :: '2' :: 'e' :: '7' :: 'a' :: 'c' :: '0' :: 'a' :: 'e' :: '6' :: 'f' :: 'f' :: '2' :: ' ' :: 'c' :: 'u' :: 't' :: ' ' :: R) := ⟨_, rfl⟩

theorem words9 : ∃ ws, behindMainWord (wordsSigns Try.pinned.checked.prog.initOrder.toList) = ['c', 'u', 't'] :: ws := by
  obtain ⟨R, e⟩ := head9
  rw [e, String.toList_ofList]
  exact ⟨wordsSigns R, by kernel_rfl⟩

theorem named9 : Try.pinned.checked.prog.funcNamed Rows.fnHPXMatchesInnermostOfKindModelRow.func = some 9 := by kernel_rfl
theorem cf_inPlace : (Rows.fnHPXMatchesInnermostOfKindModelRow.inPlace == Try.pinned.checked.prog.inPlace 9) = true := by kernel_rfl
theorem cf_unfollowed : (Rows.fnHPXMatchesInnermostOfKindModelRow.unfollowed == Try.pinned.checked.prog.unfollowed 9) = true := by kernel_rfl
theorem cf_recurses : (Rows.fnHPXMatchesInnermostOfKindModelRow.recurses == Try.pinned.checked.prog.recurses 9) = true := by kernel_rfl
theorem cf_named : (Rows.fnHPXMatchesInnermostOfKindModelRow.named == Try.pinned.checked.prog.varsNamed 9) = true := by kernel_rfl
theorem cf_laid : laidOutB Try.pinned.checked.prog = true := by kernel_rfl
theorem cf_maps : mapsRowed Try.pinned.checked.prog = true := by kernel_rfl

theorem cf_later : Try.pinned.checked.prog.laysLater = false := by kernel_rfl
theorem cf_reflect : Try.pinned.checked.prog.bearsReflect = false := by kernel_rfl
theorem cf_door : Try.pinned.checked.prog.doorFits [] = true := by kernel_rfl
theorem cf_enter : Try.pinned.checked.prog.mayEnter = true := by
  obtain ⟨ws, h⟩ := words9
  exact enter_cut h cf_later cf_reflect cf_door
theorem cf_final : (Rows.fnHPXMatchesInnermostOfKindModelRow.lifted == Try.pinned.checked.prog.liftsFinal) = true := by
  obtain ⟨ws, h⟩ := words9
  rw [lifts_final h]
  rfl
theorem cf_make : (Try.pinned.checked.prog.make == some Rows.fnHPXMatchesInnermostOfKindModelRow.make) = true := by
  obtain ⟨ws, h⟩ := words9
  rw [make_cut h]
  rfl

theorem closed9 : joinedFacts Try.pinned.checked.prog 9 Try.f9 Rows.fnHPXMatchesInnermostOfKindModelSpec Rows.fnHPXMatchesInnermostOfKindModelRow = true := by
  unfold joinedFacts
  rw [cf_inPlace, cf_unfollowed, cf_recurses, cf_named, cf_laid, cf_maps, cf_enter, cf_final, cf_make]
  kernel_rfl
theorem inst9 : Try.f9.isInstance Try.pinned.checked.prog Rows.fnHPXMatchesInnermostOfKindModelRow.origin Rows.fnHPXMatchesInnermostOfKindModelRow.targs := of_decide_eq_true (by kernel_rfl)
theorem wrap9 : Try.f9.isWrapper Try.pinned.checked.prog Rows.fnHPXMatchesInnermostOfKindModelRow.wrapper Rows.fnHPXMatchesInnermostOfKindModelRow.mainSum := by
  unfold Func.isWrapper; first | (rw [if_pos (by decide +kernel)]; kernel_rfl) | (rw [if_neg (by decide +kernel)]; exact ⟨rfl, rfl⟩)
end Go.Proofs.Qxb6602120a
