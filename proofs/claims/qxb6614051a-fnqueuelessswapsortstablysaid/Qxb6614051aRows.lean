/-
  No cell of these rows narrows 'for every input' (looked for: loops, veiled, ifaces, maps, wideKeys, modest, calm, conditions, laid).
  DERIVED. THE GIVEN ROWS OF THIS SEAT. 1 by the template 'for every input the law returns true; each argument reads behind the call as it read before'; 0 by the template 'total and deterministic' (their statements: Qxb6614051aTotals.lean).
  GIVEN WITH THE SEED: the statements are not yours to turn. If you find one false, say at which input.
  Laid BY PROGRAM, IN A SANDBOX (cutbox-rows.mjs): the forced cells as the released guide's own fill.sh prints them over the translation 034254c3f0c99951… (all of the seat's roots in one cut). By AI agents, Wed Nov 11 2026. No macro, syntax, notation, axiom, sorry.
-/
import Derived.Test.Qxb6614051aChecked
import GoSem.Claim
import GoSem.ClaimJoined
import GoSem.ClaimMapViews
import Derived.JoinedTies
import Derived.KernelRfl
namespace Go.Proofs.Qxb6614051a
/- THE CELL 'sum', in the pinned program and in every row, IS THE sha256 OF THE DUMP (.gsa) THAT Qxb6614051aProg.lean LOADS. Nothing in Lean hashes anything: it is a label: what it is worth is what the hold of that sum in a sandbox is worth. -/
noncomputable def Try.pinned : Pinned := { name := "qxb6614051a", sum := "034254c3f0c99951b623a5bcefed0a67640031a94c78798d67ccaabc3410177d", checked := Try.checked }
namespace Rows
def none {H : Type} : Left H := { results := [], args := [] }

/-- 'zzlaws_saga_b1.FnQueueLessSwapSortStably': WHATEVER THE INPUT: true; the input reads as it did. -/
def fnQueueLessSwapSortStablySpec : ChangeSpec := { name := "fnQueueLessSwapSortStably", fn := fun _ => fun
  | [d] => { results := [.lit (.bool true)], args := [d] }
  | _ => none }
def fnQueueLessSwapSortStablyRow : OpenClaim := { program := "qxb6614051a", sum := "034254c3f0c99951b623a5bcefed0a67640031a94c78798d67ccaabc3410177d", func := "example.com/compensare/compensare/zzlaws_saga_b1.FnQueueLessSwapSortStably", spec := "fnQueueLessSwapSortStably", unfollowed := true, recurses := true, apart := false }
def FnQueueLessSwapSortStablySaid : Prop := fnQueueLessSwapSortStablyRow.holds Try.pinned (OpenSpec.ofChange fnQueueLessSwapSortStablySpec)

/-- ITS FALSE NEIGHBOUR: 'it returns false'. Refute it at one input. -/
def fnQueueLessSwapSortStablyWrong : ChangeSpec := { name := "fnQueueLessSwapSortStably", fn := fun _ => fun
  | [d] => { results := [.lit (.bool false)], args := [d] }
  | _ => none }
def FnQueueLessSwapSortStablyWrongFalsely : Prop := fnQueueLessSwapSortStablyRow.holds Try.pinned (OpenSpec.ofChange fnQueueLessSwapSortStablyWrong)

end Rows
end Go.Proofs.Qxb6614051a
