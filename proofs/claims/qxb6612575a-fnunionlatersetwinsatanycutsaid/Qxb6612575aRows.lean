/-
  No cell of these rows narrows 'for every input' (looked for: loops, veiled, ifaces, maps, wideKeys, modest, calm, conditions, laid).
  DERIVED. THE GIVEN ROWS OF THIS SEAT. 1 by the template 'for every input the law returns true; each argument reads behind the call as it read before'; 0 by the template 'total and deterministic' (their statements: Qxb6612575aTotals.lean).
  GIVEN WITH THE SEED: the statements are not yours to turn. If you find one false, say at which input.
  Laid BY PROGRAM, IN A SANDBOX (cutbox-rows.mjs): the forced cells as the released guide's own fill.sh prints them over the translation 6fa392adabe7bb8d… (all of the seat's roots in one cut). By AI agents, Wed Nov 11 2026. No macro, syntax, notation, axiom, sorry.
-/
import Derived.Test.Qxb6612575aChecked
import GoSem.Claim
import GoSem.ClaimJoined
import GoSem.ClaimMapViews
import Derived.JoinedTies
import Derived.KernelRfl
namespace Go.Proofs.Qxb6612575a
/- THE CELL 'sum', in the pinned program and in every row, IS THE sha256 OF THE DUMP (.gsa) THAT Qxb6612575aProg.lean LOADS. Nothing in Lean hashes anything: it is a label: what it is worth is what the hold of that sum in a sandbox is worth. -/
noncomputable def Try.pinned : Pinned := { name := "qxb6612575a", sum := "6fa392adabe7bb8d2f0c7d10cbbeaadb3ac1d3c12dbcaf69c970eecf005def85", checked := Try.checked }
namespace Rows
def none {H : Type} : Left H := { results := [], args := [] }

/-- 'zzlaws_internal_flagset_b1.FnUnionLaterSetWinsAtAnyCut': WHATEVER THE INPUT: true; the input reads as it did. -/
def fnUnionLaterSetWinsAtAnyCutSpec : ChangeSpec := { name := "fnUnionLaterSetWinsAtAnyCut", fn := fun _ => fun
  | [d1, d2] => { results := [.lit (.bool true)], args := [d1, d2] }
  | _ => none }
def fnUnionLaterSetWinsAtAnyCutRow : OpenClaim := { program := "qxb6612575a", sum := "6fa392adabe7bb8d2f0c7d10cbbeaadb3ac1d3c12dbcaf69c970eecf005def85", func := "example.com/toggle-logic/toggle-logic/zzlaws_internal_flagset_b1.FnUnionLaterSetWinsAtAnyCut", spec := "fnUnionLaterSetWinsAtAnyCut", apart := false }
def FnUnionLaterSetWinsAtAnyCutSaid : Prop := fnUnionLaterSetWinsAtAnyCutRow.holds Try.pinned (OpenSpec.ofChange fnUnionLaterSetWinsAtAnyCutSpec)

/-- ITS FALSE NEIGHBOUR: 'it returns false'. Refute it at one input. -/
def fnUnionLaterSetWinsAtAnyCutWrong : ChangeSpec := { name := "fnUnionLaterSetWinsAtAnyCut", fn := fun _ => fun
  | [d1, d2] => { results := [.lit (.bool false)], args := [d1, d2] }
  | _ => none }
def FnUnionLaterSetWinsAtAnyCutWrongFalsely : Prop := fnUnionLaterSetWinsAtAnyCutRow.holds Try.pinned (OpenSpec.ofChange fnUnionLaterSetWinsAtAnyCutWrong)

end Rows
end Go.Proofs.Qxb6612575a
