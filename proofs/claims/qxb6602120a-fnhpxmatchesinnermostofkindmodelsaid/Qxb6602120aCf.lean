import Derived.Test.Qxb6602120aRows
import Derived.ProofKit
import Derived.Carry
namespace Go.Proofs.Qxb6602120a
open Go.ChangeShapes Go.WideShapes Go.ChangeAt Go.RowKit

theorem named9 : Try.pinned.checked.prog.funcNamed Rows.fnHPXMatchesInnermostOfKindModelRow.func = some 9 := by kernel_rfl
theorem cf_inPlace : (Rows.fnHPXMatchesInnermostOfKindModelRow.inPlace == Try.pinned.checked.prog.inPlace 9) = true := by kernel_rfl
theorem cf_unfollowed : (Rows.fnHPXMatchesInnermostOfKindModelRow.unfollowed == Try.pinned.checked.prog.unfollowed 9) = true := by kernel_rfl
theorem cf_recurses : (Rows.fnHPXMatchesInnermostOfKindModelRow.recurses == Try.pinned.checked.prog.recurses 9) = true := by kernel_rfl
theorem cf_named : (Rows.fnHPXMatchesInnermostOfKindModelRow.named == Try.pinned.checked.prog.varsNamed 9) = true := by kernel_rfl
theorem cf_laid : laidOutB Try.pinned.checked.prog = true := by kernel_rfl
theorem cf_maps : mapsRowed Try.pinned.checked.prog = true := by kernel_rfl

theorem closed9 : joinedFacts Try.pinned.checked.prog 9 Try.f9 Rows.fnHPXMatchesInnermostOfKindModelSpec Rows.fnHPXMatchesInnermostOfKindModelRow = true := by
  unfold joinedFacts
  rw [cf_inPlace, cf_unfollowed, cf_recurses, cf_named, cf_laid, cf_maps]
  kernel_rfl
theorem inst9 : Try.f9.isInstance Try.pinned.checked.prog Rows.fnHPXMatchesInnermostOfKindModelRow.origin Rows.fnHPXMatchesInnermostOfKindModelRow.targs := of_decide_eq_true (by kernel_rfl)
theorem wrap9 : Try.f9.isWrapper Try.pinned.checked.prog Rows.fnHPXMatchesInnermostOfKindModelRow.wrapper Rows.fnHPXMatchesInnermostOfKindModelRow.mainSum := by
  unfold Func.isWrapper; first | (rw [if_pos (by decide +kernel)]; kernel_rfl) | (rw [if_neg (by decide +kernel)]; exact ⟨rfl, rfl⟩)
end Go.Proofs.Qxb6602120a
