/-
  NARROWER THAN 'FOR EVERY INPUT', by the rows' own cells (each row's printed sentence says how): FnWithinAnyCutAndMaskModel: laid · FnWithinOnePrefixPutInAnywhere: laid.
  DERIVED. THE GIVEN ROWS OF THIS SEAT. 2 by the template 'for every input the law returns true; each argument reads behind the call as it read before'; 0 by the template 'total and deterministic' (their statements: Qxb6612599aDoorTotals.lean).
  GIVEN WITH THE SEED: the statements are not yours to turn. If you find one false, say at which input.
  Laid BY PROGRAM, IN A SANDBOX (cutbox-rows.mjs): the forced cells as the released guide's own fill.sh prints them over the translation d7535e42d0fde725… (all of the seat's roots in one cut). By AI agents, Wed Nov 11 2026. No macro, syntax, notation, axiom, sorry.
-/
import Derived.Test.Qxb6612599aDoorChecked
import GoSem.Claim
import GoSem.ClaimJoined
import GoSem.ClaimMapViews
import Derived.JoinedTies
import Derived.KernelRfl
namespace Go.Proofs.Qxb6612599aDoor
/- THE CELL 'sum', in the pinned program and in every row, IS THE sha256 OF THE DUMP (.gsa) THAT Qxb6612599aDoorProg.lean LOADS. Nothing in Lean hashes anything: it is a label: what it is worth is what the hold of that sum in a sandbox is worth. -/
noncomputable def Tryd.pinned : Pinned := { name := "qxb6612599adoor", sum := "d7535e42d0fde725b0645f3b218753220f0e33536d1fcdcb1651158e0ed04be4", checked := Tryd.checked }
namespace Rows
def none {H : Type} : Left H := { results := [], args := [] }

/- WHAT THE LISTED PACKAGE-LEVEL VARIABLES READ AS WHEN THE CALL BEGINS. Each datum BY PROGRAM (the guide's laid-datum.mjs) off the statement by which the dump's own 'gosem.cut.vars' lays the variable. In a bare row this is a premise. The card (Qxb6612599aDoorCards.lean) ties it to the program's text. -/
def laid_net_netip_z4 {H : Type} : DataW H := .agg [.ptr (.agg [.lit (.bool false), .lit (.string [])])]
def laid_net_netip_z6noz {H : Type} : DataW H := .agg [.ptr (.agg [.lit (.bool true), .lit (.string [])])]
def laid_net_netip_z0 {H : Type} : DataW H := .agg [.nil]

/-- 'zzlaws_pkg_tracker_b1.FnWithinAnyCutAndMaskModel': WHATEVER THE INPUT: true; the input reads as it did. -/
def fnWithinAnyCutAndMaskModelSpec : ChangeSpec := { name := "fnWithinAnyCutAndMaskModel", fn := fun _ => fun
  | [d1, d2, d3, d4] => { results := [.lit (.bool true)], args := [d1, d2, d3, d4] }
  | _ => none }
def fnWithinAnyCutAndMaskModelRow : OpenClaim := { program := "qxb6612599adoor", sum := "d7535e42d0fde725b0645f3b218753220f0e33536d1fcdcb1651158e0ed04be4", func := "example.com/swarmline/swarmline/zzlaws_pkg_tracker_b1.FnWithinAnyCutAndMaskModel", spec := "fnWithinAnyCutAndMaskModel", unfollowed := true, recurses := true, named := ["net/netip.z4", "net/netip.z0", "net/netip.z6noz"], apart := false, laid := [("net/netip.z4", laid_net_netip_z4), ("net/netip.z6noz", laid_net_netip_z6noz), ("net/netip.z0", laid_net_netip_z0)] }
def FnWithinAnyCutAndMaskModelSaid : Prop := fnWithinAnyCutAndMaskModelRow.holds Tryd.pinned (OpenSpec.ofChange fnWithinAnyCutAndMaskModelSpec)

/-- ITS FALSE NEIGHBOUR: 'it returns false'. Refute it at one input. -/
def fnWithinAnyCutAndMaskModelWrong : ChangeSpec := { name := "fnWithinAnyCutAndMaskModel", fn := fun _ => fun
  | [d1, d2, d3, d4] => { results := [.lit (.bool false)], args := [d1, d2, d3, d4] }
  | _ => none }
def FnWithinAnyCutAndMaskModelWrongFalsely : Prop := fnWithinAnyCutAndMaskModelRow.holds Tryd.pinned (OpenSpec.ofChange fnWithinAnyCutAndMaskModelWrong)

/-- 'zzlaws_pkg_tracker_b1.FnWithinOnePrefixPutInAnywhere': WHATEVER THE INPUT: true; the input reads as it did. -/
def fnWithinOnePrefixPutInAnywhereSpec : ChangeSpec := { name := "fnWithinOnePrefixPutInAnywhere", fn := fun _ => fun
  | [d1, d2, d3, d4, d5, d6] => { results := [.lit (.bool true)], args := [d1, d2, d3, d4, d5, d6] }
  | _ => none }
def fnWithinOnePrefixPutInAnywhereRow : OpenClaim := { program := "qxb6612599adoor", sum := "d7535e42d0fde725b0645f3b218753220f0e33536d1fcdcb1651158e0ed04be4", func := "example.com/swarmline/swarmline/zzlaws_pkg_tracker_b1.FnWithinOnePrefixPutInAnywhere", spec := "fnWithinOnePrefixPutInAnywhere", unfollowed := true, recurses := true, named := ["net/netip.z4", "net/netip.z0", "net/netip.z6noz"], apart := false, laid := [("net/netip.z4", laid_net_netip_z4), ("net/netip.z6noz", laid_net_netip_z6noz), ("net/netip.z0", laid_net_netip_z0)] }
def FnWithinOnePrefixPutInAnywhereSaid : Prop := fnWithinOnePrefixPutInAnywhereRow.holds Tryd.pinned (OpenSpec.ofChange fnWithinOnePrefixPutInAnywhereSpec)

/-- ITS FALSE NEIGHBOUR: 'it returns false'. Refute it at one input. -/
def fnWithinOnePrefixPutInAnywhereWrong : ChangeSpec := { name := "fnWithinOnePrefixPutInAnywhere", fn := fun _ => fun
  | [d1, d2, d3, d4, d5, d6] => { results := [.lit (.bool false)], args := [d1, d2, d3, d4, d5, d6] }
  | _ => none }
def FnWithinOnePrefixPutInAnywhereWrongFalsely : Prop := fnWithinOnePrefixPutInAnywhereRow.holds Tryd.pinned (OpenSpec.ofChange fnWithinOnePrefixPutInAnywhereWrong)

end Rows
end Go.Proofs.Qxb6612599aDoor
