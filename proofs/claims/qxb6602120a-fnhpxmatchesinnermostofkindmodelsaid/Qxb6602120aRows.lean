/-
  No cell of these rows narrows 'for every input' (looked for: loops, veiled, ifaces, maps, wideKeys, modest, calm, conditions, laid).
  DERIVED. THE GIVEN ROWS OF THIS SEAT. 9 by the template 'for every input the law returns true; each argument reads behind the call as it read before'; 0 by the template 'total and deterministic' (their statements: Qxb6602120aTotals.lean).
  GIVEN WITH THE SEED: the statements are not yours to turn. If you find one false, say at which input.
  Laid BY PROGRAM, IN A SANDBOX (cutbox-rows.mjs): the forced cells as the released guide's own fill.sh prints them over the translation 6791654547504c1d… (all of the seat's roots in one cut). By AI agents, Wed Nov 11 2026. No macro, syntax, notation, axiom, sorry.
-/
import Derived.Test.Qxb6602120aChecked
import GoSem.Claim
import GoSem.ClaimJoined
import GoSem.ClaimMapViews
import Derived.JoinedTies
import Derived.KernelRfl
namespace Go.Proofs.Qxb6602120a
/- THE CELL 'sum', in the pinned program and in every row, IS THE sha256 OF THE DUMP (.gsa) THAT Qxb6602120aProg.lean LOADS. Nothing in Lean hashes anything: it is a label: what it is worth is what the hold of that sum in a sandbox is worth. -/
noncomputable def Try.pinned : Pinned := { name := "qxb6602120a", sum := "6791654547504c1d840cb08f206b2d9ad1ac9ca001e300e682c2da2bd7a7b079", checked := Try.checked }
namespace Rows
def none {H : Type} : Left H := { results := [], args := [] }

/-- 'zzlaws_root_b1.FnQDLNumberMatchesAutomaton': WHATEVER THE INPUT: true; the input reads as it did. -/
def fnQDLNumberMatchesAutomatonSpec : ChangeSpec := { name := "fnQDLNumberMatchesAutomaton", fn := fun _ => fun
  | [d] => { results := [.lit (.bool true)], args := [d] }
  | _ => none }
def fnQDLNumberMatchesAutomatonRow : OpenClaim := { program := "qxb6602120a", sum := "6791654547504c1d840cb08f206b2d9ad1ac9ca001e300e682c2da2bd7a7b079", func := "example.com/any-ini/any-ini/zzlaws_root_b1.FnQDLNumberMatchesAutomaton", spec := "fnQDLNumberMatchesAutomaton", apart := false }
def FnQDLNumberMatchesAutomatonSaid : Prop := fnQDLNumberMatchesAutomatonRow.holds Try.pinned (OpenSpec.ofChange fnQDLNumberMatchesAutomatonSpec)

/-- ITS FALSE NEIGHBOUR: 'it returns false'. Refute it at one input. -/
def fnQDLNumberMatchesAutomatonWrong : ChangeSpec := { name := "fnQDLNumberMatchesAutomaton", fn := fun _ => fun
  | [d] => { results := [.lit (.bool false)], args := [d] }
  | _ => none }
def FnQDLNumberMatchesAutomatonWrongFalsely : Prop := fnQDLNumberMatchesAutomatonRow.holds Try.pinned (OpenSpec.ofChange fnQDLNumberMatchesAutomatonWrong)

/-- 'zzlaws_root_b1.FnQDLNumberOneMinusSign': WHATEVER THE INPUT: true; the input reads as it did. -/
def fnQDLNumberOneMinusSignSpec : ChangeSpec := { name := "fnQDLNumberOneMinusSign", fn := fun _ => fun
  | [d] => { results := [.lit (.bool true)], args := [d] }
  | _ => none }
def fnQDLNumberOneMinusSignRow : OpenClaim := { program := "qxb6602120a", sum := "6791654547504c1d840cb08f206b2d9ad1ac9ca001e300e682c2da2bd7a7b079", func := "example.com/any-ini/any-ini/zzlaws_root_b1.FnQDLNumberOneMinusSign", spec := "fnQDLNumberOneMinusSign", apart := false }
def FnQDLNumberOneMinusSignSaid : Prop := fnQDLNumberOneMinusSignRow.holds Try.pinned (OpenSpec.ofChange fnQDLNumberOneMinusSignSpec)

/-- ITS FALSE NEIGHBOUR: 'it returns false'. Refute it at one input. -/
def fnQDLNumberOneMinusSignWrong : ChangeSpec := { name := "fnQDLNumberOneMinusSign", fn := fun _ => fun
  | [d] => { results := [.lit (.bool false)], args := [d] }
  | _ => none }
def FnQDLNumberOneMinusSignWrongFalsely : Prop := fnQDLNumberOneMinusSignRow.holds Try.pinned (OpenSpec.ofChange fnQDLNumberOneMinusSignWrong)

/-- 'zzlaws_root_b1.FnQDLNumberEndsInDigitAndGrowsByDigitsAlone': WHATEVER THE INPUT: true; the input reads as it did. -/
def fnQDLNumberEndsInDigitAndGrowsByDigitsAloneSpec : ChangeSpec := { name := "fnQDLNumberEndsInDigitAndGrowsByDigitsAlone", fn := fun _ => fun
  | [d1, d2] => { results := [.lit (.bool true)], args := [d1, d2] }
  | _ => none }
def fnQDLNumberEndsInDigitAndGrowsByDigitsAloneRow : OpenClaim := { program := "qxb6602120a", sum := "6791654547504c1d840cb08f206b2d9ad1ac9ca001e300e682c2da2bd7a7b079", func := "example.com/any-ini/any-ini/zzlaws_root_b1.FnQDLNumberEndsInDigitAndGrowsByDigitsAlone", spec := "fnQDLNumberEndsInDigitAndGrowsByDigitsAlone", apart := false }
def FnQDLNumberEndsInDigitAndGrowsByDigitsAloneSaid : Prop := fnQDLNumberEndsInDigitAndGrowsByDigitsAloneRow.holds Try.pinned (OpenSpec.ofChange fnQDLNumberEndsInDigitAndGrowsByDigitsAloneSpec)

/-- ITS FALSE NEIGHBOUR: 'it returns false'. Refute it at one input. -/
def fnQDLNumberEndsInDigitAndGrowsByDigitsAloneWrong : ChangeSpec := { name := "fnQDLNumberEndsInDigitAndGrowsByDigitsAlone", fn := fun _ => fun
  | [d1, d2] => { results := [.lit (.bool false)], args := [d1, d2] }
  | _ => none }
def FnQDLNumberEndsInDigitAndGrowsByDigitsAloneWrongFalsely : Prop := fnQDLNumberEndsInDigitAndGrowsByDigitsAloneRow.holds Try.pinned (OpenSpec.ofChange fnQDLNumberEndsInDigitAndGrowsByDigitsAloneWrong)

/-- 'zzlaws_root_b1.FnSchemeBracketMatchesWordTable': WHATEVER THE INPUT: true; the input reads as it did. -/
def fnSchemeBracketMatchesWordTableSpec : ChangeSpec := { name := "fnSchemeBracketMatchesWordTable", fn := fun _ => fun
  | [d] => { results := [.lit (.bool true)], args := [d] }
  | _ => none }
def fnSchemeBracketMatchesWordTableRow : OpenClaim := { program := "qxb6602120a", sum := "6791654547504c1d840cb08f206b2d9ad1ac9ca001e300e682c2da2bd7a7b079", func := "example.com/any-ini/any-ini/zzlaws_root_b1.FnSchemeBracketMatchesWordTable", spec := "fnSchemeBracketMatchesWordTable", inPlace := ["internal/bytealg.IndexByteString", "internal/bytealg.IndexString"], named := ["internal/bytealg.MaxLen"], apart := false }
def FnSchemeBracketMatchesWordTableSaid : Prop := fnSchemeBracketMatchesWordTableRow.holds Try.pinned (OpenSpec.ofChange fnSchemeBracketMatchesWordTableSpec)

/-- ITS FALSE NEIGHBOUR: 'it returns false'. Refute it at one input. -/
def fnSchemeBracketMatchesWordTableWrong : ChangeSpec := { name := "fnSchemeBracketMatchesWordTable", fn := fun _ => fun
  | [d] => { results := [.lit (.bool false)], args := [d] }
  | _ => none }
def FnSchemeBracketMatchesWordTableWrongFalsely : Prop := fnSchemeBracketMatchesWordTableRow.holds Try.pinned (OpenSpec.ofChange fnSchemeBracketMatchesWordTableWrong)

/-- 'zzlaws_root_b1.FnSchemeBracketIgnoresPrefixBeforeColon': WHATEVER THE INPUT: true; the input reads as it did. -/
def fnSchemeBracketIgnoresPrefixBeforeColonSpec : ChangeSpec := { name := "fnSchemeBracketIgnoresPrefixBeforeColon", fn := fun _ => fun
  | [d1, d2] => { results := [.lit (.bool true)], args := [d1, d2] }
  | _ => none }
def fnSchemeBracketIgnoresPrefixBeforeColonRow : OpenClaim := { program := "qxb6602120a", sum := "6791654547504c1d840cb08f206b2d9ad1ac9ca001e300e682c2da2bd7a7b079", func := "example.com/any-ini/any-ini/zzlaws_root_b1.FnSchemeBracketIgnoresPrefixBeforeColon", spec := "fnSchemeBracketIgnoresPrefixBeforeColon", inPlace := ["internal/bytealg.IndexByteString", "internal/bytealg.IndexString"], named := ["internal/bytealg.MaxLen"], apart := false }
def FnSchemeBracketIgnoresPrefixBeforeColonSaid : Prop := fnSchemeBracketIgnoresPrefixBeforeColonRow.holds Try.pinned (OpenSpec.ofChange fnSchemeBracketIgnoresPrefixBeforeColonSpec)

/-- ITS FALSE NEIGHBOUR: 'it returns false'. Refute it at one input. -/
def fnSchemeBracketIgnoresPrefixBeforeColonWrong : ChangeSpec := { name := "fnSchemeBracketIgnoresPrefixBeforeColon", fn := fun _ => fun
  | [d1, d2] => { results := [.lit (.bool false)], args := [d1, d2] }
  | _ => none }
def FnSchemeBracketIgnoresPrefixBeforeColonWrongFalsely : Prop := fnSchemeBracketIgnoresPrefixBeforeColonRow.holds Try.pinned (OpenSpec.ofChange fnSchemeBracketIgnoresPrefixBeforeColonWrong)

/-- 'zzlaws_root_b1.FnSchemeBracketIgnoresBracketFreeSuffix': WHATEVER THE INPUT: true; the input reads as it did. -/
def fnSchemeBracketIgnoresBracketFreeSuffixSpec : ChangeSpec := { name := "fnSchemeBracketIgnoresBracketFreeSuffix", fn := fun _ => fun
  | [d1, d2] => { results := [.lit (.bool true)], args := [d1, d2] }
  | _ => none }
def fnSchemeBracketIgnoresBracketFreeSuffixRow : OpenClaim := { program := "qxb6602120a", sum := "6791654547504c1d840cb08f206b2d9ad1ac9ca001e300e682c2da2bd7a7b079", func := "example.com/any-ini/any-ini/zzlaws_root_b1.FnSchemeBracketIgnoresBracketFreeSuffix", spec := "fnSchemeBracketIgnoresBracketFreeSuffix", inPlace := ["internal/bytealg.IndexByteString", "internal/bytealg.IndexString"], named := ["internal/bytealg.MaxLen"], apart := false }
def FnSchemeBracketIgnoresBracketFreeSuffixSaid : Prop := fnSchemeBracketIgnoresBracketFreeSuffixRow.holds Try.pinned (OpenSpec.ofChange fnSchemeBracketIgnoresBracketFreeSuffixSpec)

/-- ITS FALSE NEIGHBOUR: 'it returns false'. Refute it at one input. -/
def fnSchemeBracketIgnoresBracketFreeSuffixWrong : ChangeSpec := { name := "fnSchemeBracketIgnoresBracketFreeSuffix", fn := fun _ => fun
  | [d1, d2] => { results := [.lit (.bool false)], args := [d1, d2] }
  | _ => none }
def FnSchemeBracketIgnoresBracketFreeSuffixWrongFalsely : Prop := fnSchemeBracketIgnoresBracketFreeSuffixRow.holds Try.pinned (OpenSpec.ofChange fnSchemeBracketIgnoresBracketFreeSuffixWrong)

/-- 'zzlaws_root_b1.FnHPXMatchesInnermostOfKindModel': WHATEVER THE INPUT: true; the input reads as it did. -/
def fnHPXMatchesInnermostOfKindModelSpec : ChangeSpec := { name := "fnHPXMatchesInnermostOfKindModel", fn := fun _ => fun
  | [d] => { results := [.lit (.bool true)], args := [d] }
  | _ => none }
def fnHPXMatchesInnermostOfKindModelRow : OpenClaim := { program := "qxb6602120a", sum := "6791654547504c1d840cb08f206b2d9ad1ac9ca001e300e682c2da2bd7a7b079", func := "example.com/any-ini/any-ini/zzlaws_root_b1.FnHPXMatchesInnermostOfKindModel", spec := "fnHPXMatchesInnermostOfKindModel", apart := false }
def FnHPXMatchesInnermostOfKindModelSaid : Prop := fnHPXMatchesInnermostOfKindModelRow.holds Try.pinned (OpenSpec.ofChange fnHPXMatchesInnermostOfKindModelSpec)

/-- ITS FALSE NEIGHBOUR: 'it returns false'. Refute it at one input. -/
def fnHPXMatchesInnermostOfKindModelWrong : ChangeSpec := { name := "fnHPXMatchesInnermostOfKindModel", fn := fun _ => fun
  | [d] => { results := [.lit (.bool false)], args := [d] }
  | _ => none }
def FnHPXMatchesInnermostOfKindModelWrongFalsely : Prop := fnHPXMatchesInnermostOfKindModelRow.holds Try.pinned (OpenSpec.ofChange fnHPXMatchesInnermostOfKindModelWrong)

/-- 'zzlaws_root_b1.FnHPXPairsNestAndMatch': WHATEVER THE INPUT: true; the input reads as it did. -/
def fnHPXPairsNestAndMatchSpec : ChangeSpec := { name := "fnHPXPairsNestAndMatch", fn := fun _ => fun
  | [d] => { results := [.lit (.bool true)], args := [d] }
  | _ => none }
def fnHPXPairsNestAndMatchRow : OpenClaim := { program := "qxb6602120a", sum := "6791654547504c1d840cb08f206b2d9ad1ac9ca001e300e682c2da2bd7a7b079", func := "example.com/any-ini/any-ini/zzlaws_root_b1.FnHPXPairsNestAndMatch", spec := "fnHPXPairsNestAndMatch", apart := false }
def FnHPXPairsNestAndMatchSaid : Prop := fnHPXPairsNestAndMatchRow.holds Try.pinned (OpenSpec.ofChange fnHPXPairsNestAndMatchSpec)

/-- ITS FALSE NEIGHBOUR: 'it returns false'. Refute it at one input. -/
def fnHPXPairsNestAndMatchWrong : ChangeSpec := { name := "fnHPXPairsNestAndMatch", fn := fun _ => fun
  | [d] => { results := [.lit (.bool false)], args := [d] }
  | _ => none }
def FnHPXPairsNestAndMatchWrongFalsely : Prop := fnHPXPairsNestAndMatchRow.holds Try.pinned (OpenSpec.ofChange fnHPXPairsNestAndMatchWrong)

/-- 'zzlaws_root_b1.FnHPXUnmovedByDollarFreePrefixAndCloserFreeSuffix': WHATEVER THE INPUT: true; the input reads as it did. -/
def fnHPXUnmovedByDollarFreePrefixAndCloserFreeSuffixSpec : ChangeSpec := { name := "fnHPXUnmovedByDollarFreePrefixAndCloserFreeSuffix", fn := fun _ => fun
  | [d1, d2, d3] => { results := [.lit (.bool true)], args := [d1, d2, d3] }
  | _ => none }
def fnHPXUnmovedByDollarFreePrefixAndCloserFreeSuffixRow : OpenClaim := { program := "qxb6602120a", sum := "6791654547504c1d840cb08f206b2d9ad1ac9ca001e300e682c2da2bd7a7b079", func := "example.com/any-ini/any-ini/zzlaws_root_b1.FnHPXUnmovedByDollarFreePrefixAndCloserFreeSuffix", spec := "fnHPXUnmovedByDollarFreePrefixAndCloserFreeSuffix", apart := false }
def FnHPXUnmovedByDollarFreePrefixAndCloserFreeSuffixSaid : Prop := fnHPXUnmovedByDollarFreePrefixAndCloserFreeSuffixRow.holds Try.pinned (OpenSpec.ofChange fnHPXUnmovedByDollarFreePrefixAndCloserFreeSuffixSpec)

/-- ITS FALSE NEIGHBOUR: 'it returns false'. Refute it at one input. -/
def fnHPXUnmovedByDollarFreePrefixAndCloserFreeSuffixWrong : ChangeSpec := { name := "fnHPXUnmovedByDollarFreePrefixAndCloserFreeSuffix", fn := fun _ => fun
  | [d1, d2, d3] => { results := [.lit (.bool false)], args := [d1, d2, d3] }
  | _ => none }
def FnHPXUnmovedByDollarFreePrefixAndCloserFreeSuffixWrongFalsely : Prop := fnHPXUnmovedByDollarFreePrefixAndCloserFreeSuffixRow.holds Try.pinned (OpenSpec.ofChange fnHPXUnmovedByDollarFreePrefixAndCloserFreeSuffixWrong)

end Rows
end Go.Proofs.Qxb6602120a
