import Derived.Test.Qxb6602120aRows
import Derived.Test.Qxb6602120aCf
import Derived.Test.Qxb6602120aPg
import Derived.Test.Qxb6602120aLw
import Derived.ProofKit
import Derived.Carry
import Derived.OpenShut
import Derived.ShutString
import Derived.ChangeSame
namespace Go.Proofs.Qxb6602120a
open Go.ChangeShapes Go.WideShapes Go.ChangeAt Go.RowKit
open Go.ChangeMaps (open_string shut_string)

theorem own9 : ownKnob Try.prog.godebug = none := by kernel_rfl

set_option maxRecDepth 100000 in
theorem hpx_lifted (os : Os) (started : os.Started) (H : Type) (enc : TypeId × Value → H) :
    ReturnsInHanded {} Try.checked os 9 .any (Rows.fnHPXMatchesInnermostOfKindModelSpec.pre6 enc Try.prog Try.f9 Rows.fnHPXMatchesInnermostOfKindModelRow.domain false) (Rows.fnHPXMatchesInnermostOfKindModelSpec.post enc Try.prog Try.f9 false true false false) := by
  refine returnsInHanded_of_change (C := Try.checked) own9 started (by kernel_rfl) Try.func9
    (ChangeSpec.witness6 (enc := enc) (C := Try.checked) false ⟨#[], #[.string ByteArray.empty], []⟩ 8 (by kernel_rfl) (by kernel_rfl) (by kernel_rfl) (by kernel_rfl)) ?_
  intro W base args ds gs before hval0 hW _ _
  have hval : ∀ (j : Nat) t v, Try.f9.params[j]? = some t → args[j]? = some v → Value.okWide Try.prog W .any base t v := hval0
  have hW' := hW
  obtain ⟨p, q, hA0, hV, rfl, _, _⟩ := hW
  have hA : DataW.TrodAll enc Try.prog W 0 (fun _ => true) true Try.f9.params.toList args.toList ds p := hA0
  rw [Try.params9] at hA hval
  obtain ⟨v0, vs0, d0, ds0, p0, q0, hargs, rfl, rfl, h0, r0⟩ := trodAll_cons hA
  obtain ⟨rfl, rfl, rfl⟩ := trodAll_nil r0
  obtain rfl : args = #[v0] := by cases args; simp_all
  obtain ⟨rfl, rfl⟩ := trodVars_none hV
  obtain ⟨a0, rfl, rfl, rfl, w0⟩ := open_string Try.underlying9 (hval 0 9 v0 rfl rfl) h0
  clear hA0 hval0
  refine (law_any a0 W (hid (fun h => match_any a0 h W))).mono fun e W' ⟨he, hc⟩ => ?_
  subst he
  have hbelow := hc.below
  refine ⟨_, rfl, _, _, _, [], [] ++ [], [], hW', ?_, ?_, rfl, hbelow.frame _, fun h => by cases h⟩
  · exact trodAll_cons_mk (shut_bool Try.underlying4 _) trodAll_mk0
  · exact trodAll_cons_mk (shut_string Try.underlying9 w0) trodAll_mk0

theorem hpx_over : Rows.fnHPXMatchesInnermostOfKindModelRow.holds Try.pinned (OpenSpec.ofChange Rows.fnHPXMatchesInnermostOfKindModelSpec) :=
  OpenClaim.holds_of_wide 9 Try.f9 rfl rfl rfl rfl rfl rfl rfl ⟨rfl, rfl, rfl, rfl, rfl⟩ rfl rfl rfl rfl rfl named9 Try.func9 closed9 inst9 wrap9
    (fun os started H enc _ => hpx_lifted os started H enc)

theorem hpxMatchesInnermostOfKindModel : Rows.FnHPXMatchesInnermostOfKindModelSaid := hpx_over
end Go.Proofs.Qxb6602120a
