/-
  No cell of these rows narrows 'for every input' (looked for: loops, veiled, ifaces, maps, wideKeys, modest, calm, conditions, laid).
  DERIVED. THE GIVEN ROWS OF THIS SEAT. 3 by the template 'for every input the law returns true; each argument reads behind the call as it read before'; 0 by the template 'total and deterministic' (their statements: Qxb6616123aTotals.lean).
  GIVEN WITH THE SEED: the statements are not yours to turn. If you find one false, say at which input.
  Laid BY PROGRAM, IN A SANDBOX (cutbox-rows.mjs): the forced cells as the released guide's own fill.sh prints them over the translation cb6a6e0cbc7f862e… (all of the seat's roots in one cut). By AI agents, Wed Nov 11 2026. No macro, syntax, notation, axiom, sorry.
-/
import Derived.Test.Qxb6616123aChecked
import GoSem.Claim
import GoSem.ClaimJoined
import GoSem.ClaimMapViews
import Derived.JoinedTies
import Derived.KernelRfl
namespace Go.Proofs.Qxb6616123a
/- THE CELL 'sum', in the pinned program and in every row, IS THE sha256 OF THE DUMP (.gsa) THAT Qxb6616123aProg.lean LOADS. Nothing in Lean hashes anything: it is a label: what it is worth is what the hold of that sum in a sandbox is worth. -/
noncomputable def Try.pinned : Pinned := { name := "qxb6616123a", sum := "cb6a6e0cbc7f862ecb29e1d70c5cdc0aa6b1e6b57b5958b9a7a8f6c7d9e74773", checked := Try.checked }
namespace Rows
def none {H : Type} : Left H := { results := [], args := [] }

/-- 'zzlaws_api_b1.FnInvalidTypeJoinsWantOntoOneLead': WHATEVER THE INPUT: true; the input reads as it did. -/
def fnInvalidTypeJoinsWantOntoOneLeadSpec : ChangeSpec := { name := "fnInvalidTypeJoinsWantOntoOneLead", fn := fun _ => fun
  | [d1, d2] => { results := [.lit (.bool true)], args := [d1, d2] }
  | _ => none }
def fnInvalidTypeJoinsWantOntoOneLeadRow : OpenClaim := { program := "qxb6616123a", sum := "cb6a6e0cbc7f862ecb29e1d70c5cdc0aa6b1e6b57b5958b9a7a8f6c7d9e74773", func := "example.com/ferry/ferry/zzlaws_api_b1.FnInvalidTypeJoinsWantOntoOneLead", spec := "fnInvalidTypeJoinsWantOntoOneLead", apart := false }
def FnInvalidTypeJoinsWantOntoOneLeadSaid : Prop := fnInvalidTypeJoinsWantOntoOneLeadRow.holds Try.pinned (OpenSpec.ofChange fnInvalidTypeJoinsWantOntoOneLeadSpec)

/-- ITS FALSE NEIGHBOUR: 'it returns false'. Refute it at one input. -/
def fnInvalidTypeJoinsWantOntoOneLeadWrong : ChangeSpec := { name := "fnInvalidTypeJoinsWantOntoOneLead", fn := fun _ => fun
  | [d1, d2] => { results := [.lit (.bool false)], args := [d1, d2] }
  | _ => none }
def FnInvalidTypeJoinsWantOntoOneLeadWrongFalsely : Prop := fnInvalidTypeJoinsWantOntoOneLeadRow.holds Try.pinned (OpenSpec.ofChange fnInvalidTypeJoinsWantOntoOneLeadWrong)

/-- 'zzlaws_api_b1.FnInvalidTypeGivesFreshFaultsThatTellWantsApart': WHATEVER THE INPUT: true; the input reads as it did. -/
def fnInvalidTypeGivesFreshFaultsThatTellWantsApartSpec : ChangeSpec := { name := "fnInvalidTypeGivesFreshFaultsThatTellWantsApart", fn := fun _ => fun
  | [d1, d2] => { results := [.lit (.bool true)], args := [d1, d2] }
  | _ => none }
def fnInvalidTypeGivesFreshFaultsThatTellWantsApartRow : OpenClaim := { program := "qxb6616123a", sum := "cb6a6e0cbc7f862ecb29e1d70c5cdc0aa6b1e6b57b5958b9a7a8f6c7d9e74773", func := "example.com/ferry/ferry/zzlaws_api_b1.FnInvalidTypeGivesFreshFaultsThatTellWantsApart", spec := "fnInvalidTypeGivesFreshFaultsThatTellWantsApart", apart := false }
def FnInvalidTypeGivesFreshFaultsThatTellWantsApartSaid : Prop := fnInvalidTypeGivesFreshFaultsThatTellWantsApartRow.holds Try.pinned (OpenSpec.ofChange fnInvalidTypeGivesFreshFaultsThatTellWantsApartSpec)

/-- ITS FALSE NEIGHBOUR: 'it returns false'. Refute it at one input. -/
def fnInvalidTypeGivesFreshFaultsThatTellWantsApartWrong : ChangeSpec := { name := "fnInvalidTypeGivesFreshFaultsThatTellWantsApart", fn := fun _ => fun
  | [d1, d2] => { results := [.lit (.bool false)], args := [d1, d2] }
  | _ => none }
def FnInvalidTypeGivesFreshFaultsThatTellWantsApartWrongFalsely : Prop := fnInvalidTypeGivesFreshFaultsThatTellWantsApartRow.holds Try.pinned (OpenSpec.ofChange fnInvalidTypeGivesFreshFaultsThatTellWantsApartWrong)

/-- 'zzlaws_api_b1.FnNewDocumentSizesRawTextAndJoins': WHATEVER THE INPUT: true; the input reads as it did. -/
def fnNewDocumentSizesRawTextAndJoinsSpec : ChangeSpec := { name := "fnNewDocumentSizesRawTextAndJoins", fn := fun _ => fun
  | [d1, d2] => { results := [.lit (.bool true)], args := [d1, d2] }
  | _ => none }
def fnNewDocumentSizesRawTextAndJoinsRow : OpenClaim := { program := "qxb6616123a", sum := "cb6a6e0cbc7f862ecb29e1d70c5cdc0aa6b1e6b57b5958b9a7a8f6c7d9e74773", func := "example.com/ferry/ferry/zzlaws_api_b1.FnNewDocumentSizesRawTextAndJoins", spec := "fnNewDocumentSizesRawTextAndJoins", unfollowed := true, recurses := true, apart := false }
def FnNewDocumentSizesRawTextAndJoinsSaid : Prop := fnNewDocumentSizesRawTextAndJoinsRow.holds Try.pinned (OpenSpec.ofChange fnNewDocumentSizesRawTextAndJoinsSpec)

/-- ITS FALSE NEIGHBOUR: 'it returns false'. Refute it at one input. -/
def fnNewDocumentSizesRawTextAndJoinsWrong : ChangeSpec := { name := "fnNewDocumentSizesRawTextAndJoins", fn := fun _ => fun
  | [d1, d2] => { results := [.lit (.bool false)], args := [d1, d2] }
  | _ => none }
def FnNewDocumentSizesRawTextAndJoinsWrongFalsely : Prop := fnNewDocumentSizesRawTextAndJoinsRow.holds Try.pinned (OpenSpec.ofChange fnNewDocumentSizesRawTextAndJoinsWrong)

end Rows
end Go.Proofs.Qxb6616123a
