/-
  No cell of these rows narrows 'for every input' (looked for: loops, veiled, ifaces, maps, wideKeys, modest, calm, conditions, laid).
  DERIVED. THE GIVEN ROWS OF THIS SEAT. 4 by the template 'for every input the law returns true; each argument reads behind the call as it read before'; 0 by the template 'total and deterministic' (their statements: Qxb6612755aTotals.lean).
  GIVEN WITH THE SEED: the statements are not yours to turn. If you find one false, say at which input.
  Laid BY PROGRAM, IN A SANDBOX (cutbox-rows.mjs): the forced cells as the released guide's own fill.sh prints them over the translation 6682844b98d01de0… (all of the seat's roots in one cut). By AI agents, Wed Nov 11 2026. No macro, syntax, notation, axiom, sorry.
-/
import Derived.Test.Qxb6612755aChecked
import GoSem.Claim
import GoSem.ClaimJoined
import GoSem.ClaimMapViews
import Derived.JoinedTies
import Derived.KernelRfl
namespace Go.Proofs.Qxb6612755a
/- THE CELL 'sum', in the pinned program and in every row, IS THE sha256 OF THE DUMP (.gsa) THAT Qxb6612755aProg.lean LOADS. Nothing in Lean hashes anything: it is a label: what it is worth is what the hold of that sum in a sandbox is worth. -/
noncomputable def Try.pinned : Pinned := { name := "qxb6612755a", sum := "6682844b98d01de0208c0a6d939f71b4a594e363996208b787c5f3321906d751", checked := Try.checked }
namespace Rows
def none {H : Type} : Left H := { results := [], args := [] }

/-- 'zzlaws_internal_protocol_b1.FnAccountIsGreatestOfWhatIsHeld': WHATEVER THE INPUT: true; the input reads as it did. -/
def fnAccountIsGreatestOfWhatIsHeldSpec : ChangeSpec := { name := "fnAccountIsGreatestOfWhatIsHeld", fn := fun _ => fun
  | [d1, d2, d3, d4, d5, d6, d7] => { results := [.lit (.bool true)], args := [d1, d2, d3, d4, d5, d6, d7] }
  | _ => none }
def fnAccountIsGreatestOfWhatIsHeldRow : OpenClaim := { program := "qxb6612755a", sum := "6682844b98d01de0208c0a6d939f71b4a594e363996208b787c5f3321906d751", func := "example.com/antecede/antecede/zzlaws_internal_protocol_b1.FnAccountIsGreatestOfWhatIsHeld", spec := "fnAccountIsGreatestOfWhatIsHeld", apart := false }
def FnAccountIsGreatestOfWhatIsHeldSaid : Prop := fnAccountIsGreatestOfWhatIsHeldRow.holds Try.pinned (OpenSpec.ofChange fnAccountIsGreatestOfWhatIsHeldSpec)

/-- ITS FALSE NEIGHBOUR: 'it returns false'. Refute it at one input. -/
def fnAccountIsGreatestOfWhatIsHeldWrong : ChangeSpec := { name := "fnAccountIsGreatestOfWhatIsHeld", fn := fun _ => fun
  | [d1, d2, d3, d4, d5, d6, d7] => { results := [.lit (.bool false)], args := [d1, d2, d3, d4, d5, d6, d7] }
  | _ => none }
def FnAccountIsGreatestOfWhatIsHeldWrongFalsely : Prop := fnAccountIsGreatestOfWhatIsHeldRow.holds Try.pinned (OpenSpec.ofChange fnAccountIsGreatestOfWhatIsHeldWrong)

/-- 'zzlaws_internal_protocol_b1.FnAccountJoinsAtAnyCut': WHATEVER THE INPUT: true; the input reads as it did. -/
def fnAccountJoinsAtAnyCutSpec : ChangeSpec := { name := "fnAccountJoinsAtAnyCut", fn := fun _ => fun
  | [d1, d2, d3, d4, d5, d6, d7, d8] => { results := [.lit (.bool true)], args := [d1, d2, d3, d4, d5, d6, d7, d8] }
  | _ => none }
def fnAccountJoinsAtAnyCutRow : OpenClaim := { program := "qxb6612755a", sum := "6682844b98d01de0208c0a6d939f71b4a594e363996208b787c5f3321906d751", func := "example.com/antecede/antecede/zzlaws_internal_protocol_b1.FnAccountJoinsAtAnyCut", spec := "fnAccountJoinsAtAnyCut", apart := false }
def FnAccountJoinsAtAnyCutSaid : Prop := fnAccountJoinsAtAnyCutRow.holds Try.pinned (OpenSpec.ofChange fnAccountJoinsAtAnyCutSpec)

/-- ITS FALSE NEIGHBOUR: 'it returns false'. Refute it at one input. -/
def fnAccountJoinsAtAnyCutWrong : ChangeSpec := { name := "fnAccountJoinsAtAnyCut", fn := fun _ => fun
  | [d1, d2, d3, d4, d5, d6, d7, d8] => { results := [.lit (.bool false)], args := [d1, d2, d3, d4, d5, d6, d7, d8] }
  | _ => none }
def FnAccountJoinsAtAnyCutWrongFalsely : Prop := fnAccountJoinsAtAnyCutRow.holds Try.pinned (OpenSpec.ofChange fnAccountJoinsAtAnyCutWrong)

/-- 'zzlaws_internal_protocol_b1.FnFetchingAfterGiveUps': WHATEVER THE INPUT: true; the input reads as it did. -/
def fnFetchingAfterGiveUpsSpec : ChangeSpec := { name := "fnFetchingAfterGiveUps", fn := fun _ => fun
  | [d1, d2] => { results := [.lit (.bool true)], args := [d1, d2] }
  | _ => none }
def fnFetchingAfterGiveUpsRow : OpenClaim := { program := "qxb6612755a", sum := "6682844b98d01de0208c0a6d939f71b4a594e363996208b787c5f3321906d751", func := "example.com/antecede/antecede/zzlaws_internal_protocol_b1.FnFetchingAfterGiveUps", spec := "fnFetchingAfterGiveUps", apart := false }
def FnFetchingAfterGiveUpsSaid : Prop := fnFetchingAfterGiveUpsRow.holds Try.pinned (OpenSpec.ofChange fnFetchingAfterGiveUpsSpec)

/-- ITS FALSE NEIGHBOUR: 'it returns false'. Refute it at one input. -/
def fnFetchingAfterGiveUpsWrong : ChangeSpec := { name := "fnFetchingAfterGiveUps", fn := fun _ => fun
  | [d1, d2] => { results := [.lit (.bool false)], args := [d1, d2] }
  | _ => none }
def FnFetchingAfterGiveUpsWrongFalsely : Prop := fnFetchingAfterGiveUpsRow.holds Try.pinned (OpenSpec.ofChange fnFetchingAfterGiveUpsWrong)

/-- 'zzlaws_internal_protocol_b1.FnFetchingAgreesWithUnderWay': WHATEVER THE INPUT: true; the input reads as it did. -/
def fnFetchingAgreesWithUnderWaySpec : ChangeSpec := { name := "fnFetchingAgreesWithUnderWay", fn := fun _ => fun
  | [d1, d2] => { results := [.lit (.bool true)], args := [d1, d2] }
  | _ => none }
def fnFetchingAgreesWithUnderWayRow : OpenClaim := { program := "qxb6612755a", sum := "6682844b98d01de0208c0a6d939f71b4a594e363996208b787c5f3321906d751", func := "example.com/antecede/antecede/zzlaws_internal_protocol_b1.FnFetchingAgreesWithUnderWay", spec := "fnFetchingAgreesWithUnderWay", apart := false }
def FnFetchingAgreesWithUnderWaySaid : Prop := fnFetchingAgreesWithUnderWayRow.holds Try.pinned (OpenSpec.ofChange fnFetchingAgreesWithUnderWaySpec)

/-- ITS FALSE NEIGHBOUR: 'it returns false'. Refute it at one input. -/
def fnFetchingAgreesWithUnderWayWrong : ChangeSpec := { name := "fnFetchingAgreesWithUnderWay", fn := fun _ => fun
  | [d1, d2] => { results := [.lit (.bool false)], args := [d1, d2] }
  | _ => none }
def FnFetchingAgreesWithUnderWayWrongFalsely : Prop := fnFetchingAgreesWithUnderWayRow.holds Try.pinned (OpenSpec.ofChange fnFetchingAgreesWithUnderWayWrong)

end Rows
end Go.Proofs.Qxb6612755a
