/-
  No cell of these rows narrows 'for every input' (looked for: loops, veiled, ifaces, maps, wideKeys, modest, calm, conditions, laid).
  DERIVED. THE GIVEN ROWS OF THIS SEAT. 3 by the template 'for every input the law returns true; each argument reads behind the call as it read before'; 0 by the template 'total and deterministic' (their statements: Qxb6616141aTotals.lean).
  GIVEN WITH THE SEED: the statements are not yours to turn. If you find one false, say at which input.
  Laid BY PROGRAM, IN A SANDBOX (cutbox-rows.mjs): the forced cells as the released guide's own fill.sh prints them over the translation 6911eb05ebbe799a… (all of the seat's roots in one cut). By AI agents, Wed Nov 11 2026. No macro, syntax, notation, axiom, sorry.
-/
import Derived.Test.Qxb6616141aChecked
import GoSem.Claim
import GoSem.ClaimJoined
import GoSem.ClaimMapViews
import Derived.JoinedTies
import Derived.KernelRfl
namespace Go.Proofs.Qxb6616141a
/- THE CELL 'sum', in the pinned program and in every row, IS THE sha256 OF THE DUMP (.gsa) THAT Qxb6616141aProg.lean LOADS. Nothing in Lean hashes anything: it is a label: what it is worth is what the hold of that sum in a sandbox is worth. -/
noncomputable def Try.pinned : Pinned := { name := "qxb6616141a", sum := "6911eb05ebbe799a5de60504b267105e96438aa04514830ed833c5aee475990c", checked := Try.checked }
namespace Rows
def none {H : Type} : Left H := { results := [], args := [] }

/-- 'zzlaws_engine_b1.FnShowingSplitsAtAnyCut': WHATEVER THE INPUT: true; the input reads as it did. -/
def fnShowingSplitsAtAnyCutSpec : ChangeSpec := { name := "fnShowingSplitsAtAnyCut", fn := fun _ => fun
  | [d1, d2, d3] => { results := [.lit (.bool true)], args := [d1, d2, d3] }
  | _ => none }
def fnShowingSplitsAtAnyCutRow : OpenClaim := { program := "qxb6616141a", sum := "6911eb05ebbe799a5de60504b267105e96438aa04514830ed833c5aee475990c", func := "example.com/isolens/isolens/zzlaws_engine_b1.FnShowingSplitsAtAnyCut", spec := "fnShowingSplitsAtAnyCut", unfollowed := true, recurses := true, apart := false }
def FnShowingSplitsAtAnyCutSaid : Prop := fnShowingSplitsAtAnyCutRow.holds Try.pinned (OpenSpec.ofChange fnShowingSplitsAtAnyCutSpec)

/-- ITS FALSE NEIGHBOUR: 'it returns false'. Refute it at one input. -/
def fnShowingSplitsAtAnyCutWrong : ChangeSpec := { name := "fnShowingSplitsAtAnyCut", fn := fun _ => fun
  | [d1, d2, d3] => { results := [.lit (.bool false)], args := [d1, d2, d3] }
  | _ => none }
def FnShowingSplitsAtAnyCutWrongFalsely : Prop := fnShowingSplitsAtAnyCutRow.holds Try.pinned (OpenSpec.ofChange fnShowingSplitsAtAnyCutWrong)

/-- 'zzlaws_engine_b1.FnShowingCountsAnInsertedOutcomeOnce': WHATEVER THE INPUT: true; the input reads as it did. -/
def fnShowingCountsAnInsertedOutcomeOnceSpec : ChangeSpec := { name := "fnShowingCountsAnInsertedOutcomeOnce", fn := fun _ => fun
  | [d1, d2, d3, d4] => { results := [.lit (.bool true)], args := [d1, d2, d3, d4] }
  | _ => none }
def fnShowingCountsAnInsertedOutcomeOnceRow : OpenClaim := { program := "qxb6616141a", sum := "6911eb05ebbe799a5de60504b267105e96438aa04514830ed833c5aee475990c", func := "example.com/isolens/isolens/zzlaws_engine_b1.FnShowingCountsAnInsertedOutcomeOnce", spec := "fnShowingCountsAnInsertedOutcomeOnce", unfollowed := true, recurses := true, apart := false }
def FnShowingCountsAnInsertedOutcomeOnceSaid : Prop := fnShowingCountsAnInsertedOutcomeOnceRow.holds Try.pinned (OpenSpec.ofChange fnShowingCountsAnInsertedOutcomeOnceSpec)

/-- ITS FALSE NEIGHBOUR: 'it returns false'. Refute it at one input. -/
def fnShowingCountsAnInsertedOutcomeOnceWrong : ChangeSpec := { name := "fnShowingCountsAnInsertedOutcomeOnce", fn := fun _ => fun
  | [d1, d2, d3, d4] => { results := [.lit (.bool false)], args := [d1, d2, d3, d4] }
  | _ => none }
def FnShowingCountsAnInsertedOutcomeOnceWrongFalsely : Prop := fnShowingCountsAnInsertedOutcomeOnceRow.holds Try.pinned (OpenSpec.ofChange fnShowingCountsAnInsertedOutcomeOnceWrong)

/-- 'zzlaws_engine_b1.FnPriorIndexesSplitsAtAnyCutAndKeepsTheFirstOfEachKey': WHATEVER THE INPUT: true; the input reads as it did. -/
def fnPriorIndexesSplitsAtAnyCutAndKeepsTheFirstOfEachKeySpec : ChangeSpec := { name := "fnPriorIndexesSplitsAtAnyCutAndKeepsTheFirstOfEachKey", fn := fun _ => fun
  | [d1, d2, d3, d4] => { results := [.lit (.bool true)], args := [d1, d2, d3, d4] }
  | _ => none }
def fnPriorIndexesSplitsAtAnyCutAndKeepsTheFirstOfEachKeyRow : OpenClaim := { program := "qxb6616141a", sum := "6911eb05ebbe799a5de60504b267105e96438aa04514830ed833c5aee475990c", func := "example.com/isolens/isolens/zzlaws_engine_b1.FnPriorIndexesSplitsAtAnyCutAndKeepsTheFirstOfEachKey", spec := "fnPriorIndexesSplitsAtAnyCutAndKeepsTheFirstOfEachKey", unfollowed := true, recurses := true, apart := false }
def FnPriorIndexesSplitsAtAnyCutAndKeepsTheFirstOfEachKeySaid : Prop := fnPriorIndexesSplitsAtAnyCutAndKeepsTheFirstOfEachKeyRow.holds Try.pinned (OpenSpec.ofChange fnPriorIndexesSplitsAtAnyCutAndKeepsTheFirstOfEachKeySpec)

/-- ITS FALSE NEIGHBOUR: 'it returns false'. Refute it at one input. -/
def fnPriorIndexesSplitsAtAnyCutAndKeepsTheFirstOfEachKeyWrong : ChangeSpec := { name := "fnPriorIndexesSplitsAtAnyCutAndKeepsTheFirstOfEachKey", fn := fun _ => fun
  | [d1, d2, d3, d4] => { results := [.lit (.bool false)], args := [d1, d2, d3, d4] }
  | _ => none }
def FnPriorIndexesSplitsAtAnyCutAndKeepsTheFirstOfEachKeyWrongFalsely : Prop := fnPriorIndexesSplitsAtAnyCutAndKeepsTheFirstOfEachKeyRow.holds Try.pinned (OpenSpec.ofChange fnPriorIndexesSplitsAtAnyCutAndKeepsTheFirstOfEachKeyWrong)

end Rows
end Go.Proofs.Qxb6616141a
