import Derived.Test.Qxb6601743aRows
import Derived.ProofKit
import Derived.Carry
namespace Go.Proofs.Qxb6601743a
open Go.ChangeShapes Go.WideShapes Go.ChangeAt Go.RowKit

-- the program's head string is long: the kernel is never to decode it. Its first words are named one sign after the other, the rest stays a variable.
theorem lifts_cut (ws : List (List Char)) : stripLifts liftWords (['c', 'u', 't'] :: ws) = ([], ['c', 'u', 't'] :: ws) := by kernel_rfl

theorem head_cut {P : Program} {ws : List (List Char)} (h : behindMainWord (wordsSigns P.initOrder.toList) = ['c', 'u', 't'] :: ws) : P.headLifts = [] := by
  unfold Program.headLifts
  rw [h, lifts_cut]
  rfl

theorem lifts_final {P : Program} {ws : List (List Char)} (h : behindMainWord (wordsSigns P.initOrder.toList) = ['c', 'u', 't'] :: ws) : P.liftsFinal = false := by
  unfold Program.liftsFinal
  rw [h, head_cut h]
  rfl

theorem make_cut {P : Program} {ws : List (List Char)} (h : behindMainWord (wordsSigns P.initOrder.toList) = ['c', 'u', 't'] :: ws) : P.make = some .cut := by
  unfold Program.make
  rw [h]
  rfl

theorem enter_cut {P : Program} {ws : List (List Char)} (h : behindMainWord (wordsSigns P.initOrder.toList) = ['c', 'u', 't'] :: ws) (h1 : P.laysLater = false) (h2 : P.bearsReflect = false) (h3 : P.doorFits [] = true) : P.mayEnter = true := by
  unfold Program.mayEnter
  rw [h]
  simp only [lifts_cut, h1, h2, h3]
  rfl

set_option maxRecDepth 100000 in
theorem cf_head : ∃ R, Try.pinned.checked.prog.initOrder = String.ofList ('h' :: 'a' :: 'r' :: 'n' :: 'e' :: 's' :: 's' :: ' ' :: 'e' :: 'd' :: '4' :: 'd' :: '3' :: '0' :: '0' :: '4' :: 'e' :: 'e' :: 'a' :: '0' :: 'a' :: '4' :: '8' :: '4' :: '0' :: '0' :: '2' :: 'c' :: 'f' :: '7' :: '2' :: '0' :: 'e' :: 'b' :: 'f' :: '5' :: 'f' :: 'd' :: '5' :: '1' :: 'c' :: 'd' :: 'b' :: '3' :: '8' :: 'f' :: '4' :: '7' :: '2' :: '1' :: 'a' :: '0' :: '8' :: 'a' :: '4' :: '7' :: '3' :: '3' :: 'e' :: 'a' :: '9' :: '8' :: '1' :: '2' :: '3' :: '2' :: 'e' :: 'd' :: 'a' :: '0' :: '1' :: 'f' :: ' ' :: 'c' :: 'u' :: 't' :: ' ' :: R) := ⟨_, rfl⟩

theorem cf_words : ∃ ws, behindMainWord (wordsSigns Try.pinned.checked.prog.initOrder.toList) = ['c', 'u', 't'] :: ws := by
  obtain ⟨R, e⟩ := cf_head
  rw [e, String.toList_ofList]
  exact ⟨wordsSigns R, by kernel_rfl⟩

theorem cf_laid : laidOutB Try.pinned.checked.prog = true := by kernel_rfl
theorem cf_maps : mapsRowed Try.pinned.checked.prog = true := by kernel_rfl
theorem cf_later : Try.pinned.checked.prog.laysLater = false := by kernel_rfl
theorem cf_reflect : Try.pinned.checked.prog.bearsReflect = false := by kernel_rfl
theorem cf_door : Try.pinned.checked.prog.doorFits [] = true := by kernel_rfl
theorem cf_enter : Try.pinned.checked.prog.mayEnter = true := by
  obtain ⟨ws, h⟩ := cf_words
  exact enter_cut h cf_later cf_reflect cf_door
theorem cf_final : Try.pinned.checked.prog.liftsFinal = false := by
  obtain ⟨ws, h⟩ := cf_words
  exact lifts_final h
theorem cf_make : Try.pinned.checked.prog.make = some .cut := by
  obtain ⟨ws, h⟩ := cf_words
  exact make_cut h
end Go.Proofs.Qxb6601743a
