/-
  No cell of these rows narrows 'for every input' (looked for: loops, veiled, ifaces, maps, wideKeys, modest, calm, conditions, laid).
  DERIVED. THE GIVEN ROWS OF THIS SEAT. 2 by the template 'for every input the law returns true; each argument reads behind the call as it read before'; 0 by the template 'total and deterministic' (their statements: Qxb6612814aTotals.lean).
  GIVEN WITH THE SEED: the statements are not yours to turn. If you find one false, say at which input.
  Laid BY PROGRAM, IN A SANDBOX (cutbox-rows.mjs): the forced cells as the released guide's own fill.sh prints them over the translation 39504010cf69d503… (all of the seat's roots in one cut). By AI agents, Wed Nov 11 2026. No macro, syntax, notation, axiom, sorry.
-/
import Derived.Test.Qxb6612814aChecked
import GoSem.Claim
import GoSem.ClaimJoined
import GoSem.ClaimMapViews
import Derived.JoinedTies
import Derived.KernelRfl
namespace Go.Proofs.Qxb6612814a
/- THE CELL 'sum', in the pinned program and in every row, IS THE sha256 OF THE DUMP (.gsa) THAT Qxb6612814aProg.lean LOADS. Nothing in Lean hashes anything: it is a label: what it is worth is what the hold of that sum in a sandbox is worth. -/
noncomputable def Try.pinned : Pinned := { name := "qxb6612814a", sum := "39504010cf69d503f5e2128206409373c78a1ff7864cef347cd221258111dd4d", checked := Try.checked }
namespace Rows
def none {H : Type} : Left H := { results := [], args := [] }

/-- 'zzlaws_pkg_descriptor_b1.FnFieldOfLocalBlob': WHATEVER THE INPUT: true; the input reads as it did. -/
def fnFieldOfLocalBlobSpec : ChangeSpec := { name := "fnFieldOfLocalBlob", fn := fun _ => fun
  | [d1, d2, d3] => { results := [.lit (.bool true)], args := [d1, d2, d3] }
  | _ => none }
def fnFieldOfLocalBlobRow : OpenClaim := { program := "qxb6612814a", sum := "39504010cf69d503f5e2128206409373c78a1ff7864cef347cd221258111dd4d", func := "example.com/lading/lading/zzlaws_pkg_descriptor_b1.FnFieldOfLocalBlob", spec := "fnFieldOfLocalBlob", apart := false }
def FnFieldOfLocalBlobSaid : Prop := fnFieldOfLocalBlobRow.holds Try.pinned (OpenSpec.ofChange fnFieldOfLocalBlobSpec)

/-- ITS FALSE NEIGHBOUR: 'it returns false'. Refute it at one input. -/
def fnFieldOfLocalBlobWrong : ChangeSpec := { name := "fnFieldOfLocalBlob", fn := fun _ => fun
  | [d1, d2, d3] => { results := [.lit (.bool false)], args := [d1, d2, d3] }
  | _ => none }
def FnFieldOfLocalBlobWrongFalsely : Prop := fnFieldOfLocalBlobRow.holds Try.pinned (OpenSpec.ofChange fnFieldOfLocalBlobWrong)

/-- 'zzlaws_pkg_descriptor_b1.FnFieldOfOCIArtifactAndOneEntry': WHATEVER THE INPUT: true; the input reads as it did. -/
def fnFieldOfOCIArtifactAndOneEntrySpec : ChangeSpec := { name := "fnFieldOfOCIArtifactAndOneEntry", fn := fun _ => fun
  | [d1, d2, d3, d4, d5] => { results := [.lit (.bool true)], args := [d1, d2, d3, d4, d5] }
  | _ => none }
def fnFieldOfOCIArtifactAndOneEntryRow : OpenClaim := { program := "qxb6612814a", sum := "39504010cf69d503f5e2128206409373c78a1ff7864cef347cd221258111dd4d", func := "example.com/lading/lading/zzlaws_pkg_descriptor_b1.FnFieldOfOCIArtifactAndOneEntry", spec := "fnFieldOfOCIArtifactAndOneEntry", apart := false }
def FnFieldOfOCIArtifactAndOneEntrySaid : Prop := fnFieldOfOCIArtifactAndOneEntryRow.holds Try.pinned (OpenSpec.ofChange fnFieldOfOCIArtifactAndOneEntrySpec)

/-- ITS FALSE NEIGHBOUR: 'it returns false'. Refute it at one input. -/
def fnFieldOfOCIArtifactAndOneEntryWrong : ChangeSpec := { name := "fnFieldOfOCIArtifactAndOneEntry", fn := fun _ => fun
  | [d1, d2, d3, d4, d5] => { results := [.lit (.bool false)], args := [d1, d2, d3, d4, d5] }
  | _ => none }
def FnFieldOfOCIArtifactAndOneEntryWrongFalsely : Prop := fnFieldOfOCIArtifactAndOneEntryRow.holds Try.pinned (OpenSpec.ofChange fnFieldOfOCIArtifactAndOneEntryWrong)

end Rows
end Go.Proofs.Qxb6612814a
