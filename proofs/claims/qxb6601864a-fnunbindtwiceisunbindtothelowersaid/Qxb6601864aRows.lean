/-
  No cell of these rows narrows 'for every input' (looked for: loops, veiled, ifaces, maps, wideKeys, modest, calm, conditions, laid).
  DERIVED. THE GIVEN ROWS OF THIS SEAT. 6 by the template 'for every input the law returns true; each argument reads behind the call as it read before'; 0 by the template 'total and deterministic' (their statements: Qxb6601864aTotals.lean).
  GIVEN WITH THE SEED: the statements are not yours to turn. If you find one false, say at which input.
  Laid BY PROGRAM, IN A SANDBOX (cutbox-rows.mjs): the forced cells as the released guide's own fill.sh prints them over the translation 2892a067590d629c… (all of the seat's roots in one cut). By AI agents, Wed Nov 11 2026. No macro, syntax, notation, axiom, sorry.
-/
import Derived.Test.Qxb6601864aChecked
import GoSem.Claim
import GoSem.ClaimJoined
import GoSem.ClaimMapViews
import Derived.JoinedTies
import Derived.KernelRfl
namespace Go.Proofs.Qxb6601864a
/- THE CELL 'sum', in the pinned program and in every row, IS THE sha256 OF THE DUMP (.gsa) THAT Qxb6601864aProg.lean LOADS. Nothing in Lean hashes anything: it is a label: what it is worth is what the hold of that sum in a sandbox is worth. -/
noncomputable def Try.pinned : Pinned := { name := "qxb6601864a", sum := "2892a067590d629c3ef0720c01118ccf7bd05237f49869ff1885b20e9c4f513c", checked := Try.checked }
namespace Rows
def none {H : Type} : Left H := { results := [], args := [] }

/-- 'zzlaws_internal_xmldsig_b1.FnNameCharBeyondASCIIMatchesXML10': WHATEVER THE INPUT: true; the input reads as it did. -/
def fnNameCharBeyondASCIIMatchesXML10Spec : ChangeSpec := { name := "fnNameCharBeyondASCIIMatchesXML10", fn := fun _ => fun
  | [d1, d2] => { results := [.lit (.bool true)], args := [d1, d2] }
  | _ => none }
def fnNameCharBeyondASCIIMatchesXML10Row : OpenClaim := { program := "qxb6601864a", sum := "2892a067590d629c3ef0720c01118ccf7bd05237f49869ff1885b20e9c4f513c", func := "example.com/attestant/attestant/zzlaws_internal_xmldsig_b1.FnNameCharBeyondASCIIMatchesXML10", spec := "fnNameCharBeyondASCIIMatchesXML10", apart := false }
def FnNameCharBeyondASCIIMatchesXML10Said : Prop := fnNameCharBeyondASCIIMatchesXML10Row.holds Try.pinned (OpenSpec.ofChange fnNameCharBeyondASCIIMatchesXML10Spec)

/-- ITS FALSE NEIGHBOUR: 'it returns false'. Refute it at one input. -/
def fnNameCharBeyondASCIIMatchesXML10Wrong : ChangeSpec := { name := "fnNameCharBeyondASCIIMatchesXML10", fn := fun _ => fun
  | [d1, d2] => { results := [.lit (.bool false)], args := [d1, d2] }
  | _ => none }
def FnNameCharBeyondASCIIMatchesXML10WrongFalsely : Prop := fnNameCharBeyondASCIIMatchesXML10Row.holds Try.pinned (OpenSpec.ofChange fnNameCharBeyondASCIIMatchesXML10Wrong)

/-- 'zzlaws_internal_xmldsig_b1.FnNameStartCharIsNameChar': WHATEVER THE INPUT: true; the input reads as it did. -/
def fnNameStartCharIsNameCharSpec : ChangeSpec := { name := "fnNameStartCharIsNameChar", fn := fun _ => fun
  | [d] => { results := [.lit (.bool true)], args := [d] }
  | _ => none }
def fnNameStartCharIsNameCharRow : OpenClaim := { program := "qxb6601864a", sum := "2892a067590d629c3ef0720c01118ccf7bd05237f49869ff1885b20e9c4f513c", func := "example.com/attestant/attestant/zzlaws_internal_xmldsig_b1.FnNameStartCharIsNameChar", spec := "fnNameStartCharIsNameChar", apart := false }
def FnNameStartCharIsNameCharSaid : Prop := fnNameStartCharIsNameCharRow.holds Try.pinned (OpenSpec.ofChange fnNameStartCharIsNameCharSpec)

/-- ITS FALSE NEIGHBOUR: 'it returns false'. Refute it at one input. -/
def fnNameStartCharIsNameCharWrong : ChangeSpec := { name := "fnNameStartCharIsNameChar", fn := fun _ => fun
  | [d] => { results := [.lit (.bool false)], args := [d] }
  | _ => none }
def FnNameStartCharIsNameCharWrongFalsely : Prop := fnNameStartCharIsNameCharRow.holds Try.pinned (OpenSpec.ofChange fnNameStartCharIsNameCharWrong)

/-- 'zzlaws_internal_xmldsig_b1.FnNameCharRefusesNonCharacters': WHATEVER THE INPUT: true; the input reads as it did. -/
def fnNameCharRefusesNonCharactersSpec : ChangeSpec := { name := "fnNameCharRefusesNonCharacters", fn := fun _ => fun
  | [d] => { results := [.lit (.bool true)], args := [d] }
  | _ => none }
def fnNameCharRefusesNonCharactersRow : OpenClaim := { program := "qxb6601864a", sum := "2892a067590d629c3ef0720c01118ccf7bd05237f49869ff1885b20e9c4f513c", func := "example.com/attestant/attestant/zzlaws_internal_xmldsig_b1.FnNameCharRefusesNonCharacters", spec := "fnNameCharRefusesNonCharacters", apart := false }
def FnNameCharRefusesNonCharactersSaid : Prop := fnNameCharRefusesNonCharactersRow.holds Try.pinned (OpenSpec.ofChange fnNameCharRefusesNonCharactersSpec)

/-- ITS FALSE NEIGHBOUR: 'it returns false'. Refute it at one input. -/
def fnNameCharRefusesNonCharactersWrong : ChangeSpec := { name := "fnNameCharRefusesNonCharacters", fn := fun _ => fun
  | [d] => { results := [.lit (.bool false)], args := [d] }
  | _ => none }
def FnNameCharRefusesNonCharactersWrongFalsely : Prop := fnNameCharRefusesNonCharactersRow.holds Try.pinned (OpenSpec.ofChange fnNameCharRefusesNonCharactersWrong)

/-- 'zzlaws_internal_xmldsig_b1.FnUnbindRestoresWhatTheOldestUndoneBindHid': WHATEVER THE INPUT: true; the input reads as it did. -/
def fnUnbindRestoresWhatTheOldestUndoneBindHidSpec : ChangeSpec := { name := "fnUnbindRestoresWhatTheOldestUndoneBindHid", fn := fun _ => fun
  | [d1, d2, d3] => { results := [.lit (.bool true)], args := [d1, d2, d3] }
  | _ => none }
def fnUnbindRestoresWhatTheOldestUndoneBindHidRow : OpenClaim := { program := "qxb6601864a", sum := "2892a067590d629c3ef0720c01118ccf7bd05237f49869ff1885b20e9c4f513c", func := "example.com/attestant/attestant/zzlaws_internal_xmldsig_b1.FnUnbindRestoresWhatTheOldestUndoneBindHid", spec := "fnUnbindRestoresWhatTheOldestUndoneBindHid", apart := false }
def FnUnbindRestoresWhatTheOldestUndoneBindHidSaid : Prop := fnUnbindRestoresWhatTheOldestUndoneBindHidRow.holds Try.pinned (OpenSpec.ofChange fnUnbindRestoresWhatTheOldestUndoneBindHidSpec)

/-- ITS FALSE NEIGHBOUR: 'it returns false'. Refute it at one input. -/
def fnUnbindRestoresWhatTheOldestUndoneBindHidWrong : ChangeSpec := { name := "fnUnbindRestoresWhatTheOldestUndoneBindHid", fn := fun _ => fun
  | [d1, d2, d3] => { results := [.lit (.bool false)], args := [d1, d2, d3] }
  | _ => none }
def FnUnbindRestoresWhatTheOldestUndoneBindHidWrongFalsely : Prop := fnUnbindRestoresWhatTheOldestUndoneBindHidRow.holds Try.pinned (OpenSpec.ofChange fnUnbindRestoresWhatTheOldestUndoneBindHidWrong)

/-- 'zzlaws_internal_xmldsig_b1.FnUnbindToMarkUndoesEveryLaterBind': WHATEVER THE INPUT: true; the input reads as it did. -/
def fnUnbindToMarkUndoesEveryLaterBindSpec : ChangeSpec := { name := "fnUnbindToMarkUndoesEveryLaterBind", fn := fun _ => fun
  | [d1, d2, d3] => { results := [.lit (.bool true)], args := [d1, d2, d3] }
  | _ => none }
def fnUnbindToMarkUndoesEveryLaterBindRow : OpenClaim := { program := "qxb6601864a", sum := "2892a067590d629c3ef0720c01118ccf7bd05237f49869ff1885b20e9c4f513c", func := "example.com/attestant/attestant/zzlaws_internal_xmldsig_b1.FnUnbindToMarkUndoesEveryLaterBind", spec := "fnUnbindToMarkUndoesEveryLaterBind", apart := false }
def FnUnbindToMarkUndoesEveryLaterBindSaid : Prop := fnUnbindToMarkUndoesEveryLaterBindRow.holds Try.pinned (OpenSpec.ofChange fnUnbindToMarkUndoesEveryLaterBindSpec)

/-- ITS FALSE NEIGHBOUR: 'it returns false'. Refute it at one input. -/
def fnUnbindToMarkUndoesEveryLaterBindWrong : ChangeSpec := { name := "fnUnbindToMarkUndoesEveryLaterBind", fn := fun _ => fun
  | [d1, d2, d3] => { results := [.lit (.bool false)], args := [d1, d2, d3] }
  | _ => none }
def FnUnbindToMarkUndoesEveryLaterBindWrongFalsely : Prop := fnUnbindToMarkUndoesEveryLaterBindRow.holds Try.pinned (OpenSpec.ofChange fnUnbindToMarkUndoesEveryLaterBindWrong)

/-- 'zzlaws_internal_xmldsig_b1.FnUnbindTwiceIsUnbindToTheLower': WHATEVER THE INPUT: true; the input reads as it did. -/
def fnUnbindTwiceIsUnbindToTheLowerSpec : ChangeSpec := { name := "fnUnbindTwiceIsUnbindToTheLower", fn := fun _ => fun
  | [d1, d2, d3, d4] => { results := [.lit (.bool true)], args := [d1, d2, d3, d4] }
  | _ => none }
def fnUnbindTwiceIsUnbindToTheLowerRow : OpenClaim := { program := "qxb6601864a", sum := "2892a067590d629c3ef0720c01118ccf7bd05237f49869ff1885b20e9c4f513c", func := "example.com/attestant/attestant/zzlaws_internal_xmldsig_b1.FnUnbindTwiceIsUnbindToTheLower", spec := "fnUnbindTwiceIsUnbindToTheLower", apart := false }
def FnUnbindTwiceIsUnbindToTheLowerSaid : Prop := fnUnbindTwiceIsUnbindToTheLowerRow.holds Try.pinned (OpenSpec.ofChange fnUnbindTwiceIsUnbindToTheLowerSpec)

/-- ITS FALSE NEIGHBOUR: 'it returns false'. Refute it at one input. -/
def fnUnbindTwiceIsUnbindToTheLowerWrong : ChangeSpec := { name := "fnUnbindTwiceIsUnbindToTheLower", fn := fun _ => fun
  | [d1, d2, d3, d4] => { results := [.lit (.bool false)], args := [d1, d2, d3, d4] }
  | _ => none }
def FnUnbindTwiceIsUnbindToTheLowerWrongFalsely : Prop := fnUnbindTwiceIsUnbindToTheLowerRow.holds Try.pinned (OpenSpec.ofChange fnUnbindTwiceIsUnbindToTheLowerWrong)

end Rows
end Go.Proofs.Qxb6601864a
