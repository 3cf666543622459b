/-
  No cell of these rows narrows 'for every input' (looked for: loops, veiled, ifaces, maps, wideKeys, modest, calm, conditions, laid).
  DERIVED. THE GIVEN ROWS OF THIS SEAT. 2 by the template 'for every input the law returns true; each argument reads behind the call as it read before'; 0 by the template 'total and deterministic' (their statements: Qxb6613536aTotals.lean).
  GIVEN WITH THE SEED: the statements are not yours to turn. If you find one false, say at which input.
  Laid BY PROGRAM, IN A SANDBOX (cutbox-rows.mjs): the forced cells as the released guide's own fill.sh prints them over the translation 13ff3caa28e9948f… (all of the seat's roots in one cut). By AI agents, Wed Nov 11 2026. No macro, syntax, notation, axiom, sorry.
-/
import Derived.Test.Qxb6613536aChecked
import GoSem.Claim
import GoSem.ClaimJoined
import GoSem.ClaimMapViews
import Derived.JoinedTies
import Derived.KernelRfl
namespace Go.Proofs.Qxb6613536a
/- THE CELL 'sum', in the pinned program and in every row, IS THE sha256 OF THE DUMP (.gsa) THAT Qxb6613536aProg.lean LOADS. Nothing in Lean hashes anything: it is a label: what it is worth is what the hold of that sum in a sandbox is worth. -/
noncomputable def Try.pinned : Pinned := { name := "qxb6613536a", sum := "13ff3caa28e9948f017a35052fd02259cdc8ea67f9e717c30a05075233096128", checked := Try.checked }
namespace Rows
def none {H : Type} : Left H := { results := [], args := [] }

/-- 'zzlaws_pkg_manifest_b1.FnListingPartsAreEveryOverlapInOrder': WHATEVER THE INPUT: true; the input reads as it did. -/
def fnListingPartsAreEveryOverlapInOrderSpec : ChangeSpec := { name := "fnListingPartsAreEveryOverlapInOrder", fn := fun _ => fun
  | [d1, d2, d3, d4, d5, d6, d7, d8, d9, d10, d11] => { results := [.lit (.bool true)], args := [d1, d2, d3, d4, d5, d6, d7, d8, d9, d10, d11] }
  | _ => none }
def fnListingPartsAreEveryOverlapInOrderRow : OpenClaim := { program := "qxb6613536a", sum := "13ff3caa28e9948f017a35052fd02259cdc8ea67f9e717c30a05075233096128", func := "example.com/stitchbook/stitchbook/zzlaws_pkg_manifest_b1.FnListingPartsAreEveryOverlapInOrder", spec := "fnListingPartsAreEveryOverlapInOrder", unfollowed := true, recurses := true, apart := false }
def FnListingPartsAreEveryOverlapInOrderSaid : Prop := fnListingPartsAreEveryOverlapInOrderRow.holds Try.pinned (OpenSpec.ofChange fnListingPartsAreEveryOverlapInOrderSpec)

/-- ITS FALSE NEIGHBOUR: 'it returns false'. Refute it at one input. -/
def fnListingPartsAreEveryOverlapInOrderWrong : ChangeSpec := { name := "fnListingPartsAreEveryOverlapInOrder", fn := fun _ => fun
  | [d1, d2, d3, d4, d5, d6, d7, d8, d9, d10, d11] => { results := [.lit (.bool false)], args := [d1, d2, d3, d4, d5, d6, d7, d8, d9, d10, d11] }
  | _ => none }
def FnListingPartsAreEveryOverlapInOrderWrongFalsely : Prop := fnListingPartsAreEveryOverlapInOrderRow.holds Try.pinned (OpenSpec.ofChange fnListingPartsAreEveryOverlapInOrderWrong)

/-- 'zzlaws_pkg_manifest_b1.FnListingPartsOfARangeHoldItsHalves': WHATEVER THE INPUT: true; the input reads as it did. -/
def fnListingPartsOfARangeHoldItsHalvesSpec : ChangeSpec := { name := "fnListingPartsOfARangeHoldItsHalves", fn := fun _ => fun
  | [d1, d2, d3, d4, d5, d6, d7, d8, d9, d10, d11] => { results := [.lit (.bool true)], args := [d1, d2, d3, d4, d5, d6, d7, d8, d9, d10, d11] }
  | _ => none }
def fnListingPartsOfARangeHoldItsHalvesRow : OpenClaim := { program := "qxb6613536a", sum := "13ff3caa28e9948f017a35052fd02259cdc8ea67f9e717c30a05075233096128", func := "example.com/stitchbook/stitchbook/zzlaws_pkg_manifest_b1.FnListingPartsOfARangeHoldItsHalves", spec := "fnListingPartsOfARangeHoldItsHalves", unfollowed := true, recurses := true, apart := false }
def FnListingPartsOfARangeHoldItsHalvesSaid : Prop := fnListingPartsOfARangeHoldItsHalvesRow.holds Try.pinned (OpenSpec.ofChange fnListingPartsOfARangeHoldItsHalvesSpec)

/-- ITS FALSE NEIGHBOUR: 'it returns false'. Refute it at one input. -/
def fnListingPartsOfARangeHoldItsHalvesWrong : ChangeSpec := { name := "fnListingPartsOfARangeHoldItsHalves", fn := fun _ => fun
  | [d1, d2, d3, d4, d5, d6, d7, d8, d9, d10, d11] => { results := [.lit (.bool false)], args := [d1, d2, d3, d4, d5, d6, d7, d8, d9, d10, d11] }
  | _ => none }
def FnListingPartsOfARangeHoldItsHalvesWrongFalsely : Prop := fnListingPartsOfARangeHoldItsHalvesRow.holds Try.pinned (OpenSpec.ofChange fnListingPartsOfARangeHoldItsHalvesWrong)

end Rows
end Go.Proofs.Qxb6613536a
