/-
  No cell of these rows narrows 'for every input' (looked for: loops, veiled, ifaces, maps, wideKeys, modest, calm, conditions, laid).
  DERIVED. THE GIVEN ROWS OF THIS SEAT. 2 by the template 'for every input the law returns true; each argument reads behind the call as it read before'; 0 by the template 'total and deterministic' (their statements: Qxb6616074aTotals.lean).
  GIVEN WITH THE SEED: the statements are not yours to turn. If you find one false, say at which input.
  Laid BY PROGRAM, IN A SANDBOX (cutbox-rows.mjs): the forced cells as the released guide's own fill.sh prints them over the translation d8bb357aa8abe901… (all of the seat's roots in one cut). By AI agents, Wed Nov 11 2026. No macro, syntax, notation, axiom, sorry.
-/
import Derived.Test.Qxb6616074aChecked
import GoSem.Claim
import GoSem.ClaimJoined
import GoSem.ClaimMapViews
import Derived.JoinedTies
import Derived.KernelRfl
namespace Go.Proofs.Qxb6616074a
/- THE CELL 'sum', in the pinned program and in every row, IS THE sha256 OF THE DUMP (.gsa) THAT Qxb6616074aProg.lean LOADS. Nothing in Lean hashes anything: it is a label: what it is worth is what the hold of that sum in a sandbox is worth. -/
noncomputable def Try.pinned : Pinned := { name := "qxb6616074a", sum := "d8bb357aa8abe9017917c62df81bb81fefddfefc16f3f1afd2a4992a61b5a803", checked := Try.checked }
namespace Rows
def none {H : Type} : Left H := { results := [], args := [] }

/-- 'zzlaws_root_b1.FnLedgerApplyKeepsLeastDoubtOnTop': WHATEVER THE INPUT: true; the input reads as it did. -/
def fnLedgerApplyKeepsLeastDoubtOnTopSpec : ChangeSpec := { name := "fnLedgerApplyKeepsLeastDoubtOnTop", fn := fun _ => fun
  | [d] => { results := [.lit (.bool true)], args := [d] }
  | _ => none }
def fnLedgerApplyKeepsLeastDoubtOnTopRow : OpenClaim := { program := "qxb6616074a", sum := "d8bb357aa8abe9017917c62df81bb81fefddfefc16f3f1afd2a4992a61b5a803", func := "example.com/causeway/causeway/zzlaws_root_b1.FnLedgerApplyKeepsLeastDoubtOnTop", spec := "fnLedgerApplyKeepsLeastDoubtOnTop", unfollowed := true, recurses := true, apart := false }
def FnLedgerApplyKeepsLeastDoubtOnTopSaid : Prop := fnLedgerApplyKeepsLeastDoubtOnTopRow.holds Try.pinned (OpenSpec.ofChange fnLedgerApplyKeepsLeastDoubtOnTopSpec)

/-- ITS FALSE NEIGHBOUR: 'it returns false'. Refute it at one input. -/
def fnLedgerApplyKeepsLeastDoubtOnTopWrong : ChangeSpec := { name := "fnLedgerApplyKeepsLeastDoubtOnTop", fn := fun _ => fun
  | [d] => { results := [.lit (.bool false)], args := [d] }
  | _ => none }
def FnLedgerApplyKeepsLeastDoubtOnTopWrongFalsely : Prop := fnLedgerApplyKeepsLeastDoubtOnTopRow.holds Try.pinned (OpenSpec.ofChange fnLedgerApplyKeepsLeastDoubtOnTopWrong)

/-- 'zzlaws_root_b1.FnLedgerApplyScriptMatchesModel': WHATEVER THE INPUT: true; the input reads as it did. -/
def fnLedgerApplyScriptMatchesModelSpec : ChangeSpec := { name := "fnLedgerApplyScriptMatchesModel", fn := fun _ => fun
  | [d1, d2] => { results := [.lit (.bool true)], args := [d1, d2] }
  | _ => none }
def fnLedgerApplyScriptMatchesModelRow : OpenClaim := { program := "qxb6616074a", sum := "d8bb357aa8abe9017917c62df81bb81fefddfefc16f3f1afd2a4992a61b5a803", func := "example.com/causeway/causeway/zzlaws_root_b1.FnLedgerApplyScriptMatchesModel", spec := "fnLedgerApplyScriptMatchesModel", unfollowed := true, recurses := true, apart := false }
def FnLedgerApplyScriptMatchesModelSaid : Prop := fnLedgerApplyScriptMatchesModelRow.holds Try.pinned (OpenSpec.ofChange fnLedgerApplyScriptMatchesModelSpec)

/-- ITS FALSE NEIGHBOUR: 'it returns false'. Refute it at one input. -/
def fnLedgerApplyScriptMatchesModelWrong : ChangeSpec := { name := "fnLedgerApplyScriptMatchesModel", fn := fun _ => fun
  | [d1, d2] => { results := [.lit (.bool false)], args := [d1, d2] }
  | _ => none }
def FnLedgerApplyScriptMatchesModelWrongFalsely : Prop := fnLedgerApplyScriptMatchesModelRow.holds Try.pinned (OpenSpec.ofChange fnLedgerApplyScriptMatchesModelWrong)

end Rows
end Go.Proofs.Qxb6616074a
