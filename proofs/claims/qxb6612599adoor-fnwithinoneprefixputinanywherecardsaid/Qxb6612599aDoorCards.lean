/-
  DERIVED. GIVEN WITH THE SEED: THE CARDS: each row of Qxb6612599aDoorRows.lean that lists a variable, with what it lists TIED to the program's text (the seventh form; the later family's looks); each row that meets fmt, with fmt's text TOLD by the authors' own Lean function (tested against real Go, not proved from fmt's source: count such statements apart). THE CARD IS WHAT COUNTS. Prove the row's statement (the work); the ties are given (Qxb6612599aDoorTie.lean); close each card by the builder's one call (the guide's Derived/Test/ToyasCard.lean, 'card_holds'). Laid BY PROGRAM, IN A SANDBOX (cutbox-door.mjs). By AI agents, Wed Nov 11 2026. No macro, syntax, notation, axiom, sorry.
-/
import Derived.Test.Qxb6612599aDoorRows
import GoSem.ClaimSeven
namespace Go.Proofs.Qxb6612599aDoor
namespace Rows

/-- THE TIED CARD OF 'zzlaws_pkg_tracker_b1.FnWithinAnyCutAndMaskModel'. -/
def fnWithinAnyCutAndMaskModelCard : Claim7 := { stood := { row := fnWithinAnyCutAndMaskModelRow, standIns := [], harness := (true, "9249c6fd74ec4ac57aef7c191b8e8fea0f03533da8482029a002ebfa4accd14b"), looks := false }, kinds := [], alts := [], laidByText := true, laidKinds := [.called, .called, .zero], laidTests := true, laidLooks := .later }
def FnWithinAnyCutAndMaskModelCardSaid : Prop := Claim7.holds Tryd.pinned (.plain (OpenSpec.ofChange fnWithinAnyCutAndMaskModelSpec)) fnWithinAnyCutAndMaskModelCard

/-- THE TIED CARD OF 'zzlaws_pkg_tracker_b1.FnWithinOnePrefixPutInAnywhere'. -/
def fnWithinOnePrefixPutInAnywhereCard : Claim7 := { stood := { row := fnWithinOnePrefixPutInAnywhereRow, standIns := [], harness := (true, "9249c6fd74ec4ac57aef7c191b8e8fea0f03533da8482029a002ebfa4accd14b"), looks := false }, kinds := [], alts := [], laidByText := true, laidKinds := [.called, .called, .zero], laidTests := true, laidLooks := .later }
def FnWithinOnePrefixPutInAnywhereCardSaid : Prop := Claim7.holds Tryd.pinned (.plain (OpenSpec.ofChange fnWithinOnePrefixPutInAnywhereSpec)) fnWithinOnePrefixPutInAnywhereCard
end Rows
end Go.Proofs.Qxb6612599aDoor
