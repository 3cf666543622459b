/-
  No cell of these rows narrows 'for every input' (looked for: loops, veiled, ifaces, maps, wideKeys, modest, calm, conditions, laid).
  DERIVED. THE GIVEN ROWS OF THIS SEAT. 1 by the template 'for every input the law returns true; each argument reads behind the call as it read before'; 0 by the template 'total and deterministic' (their statements: Qxb6612889aTotals.lean).
  GIVEN WITH THE SEED: the statements are not yours to turn. If you find one false, say at which input.
  Laid BY PROGRAM, IN A SANDBOX (cutbox-rows.mjs): the forced cells as the released guide's own fill.sh prints them over the translation 3564001fb57a0c8a… (all of the seat's roots in one cut). By AI agents, Wed Nov 11 2026. No macro, syntax, notation, axiom, sorry.
-/
import Derived.Test.Qxb6612889aChecked
import GoSem.Claim
import GoSem.ClaimJoined
import GoSem.ClaimMapViews
import Derived.JoinedTies
import Derived.KernelRfl
namespace Go.Proofs.Qxb6612889a
/- THE CELL 'sum', in the pinned program and in every row, IS THE sha256 OF THE DUMP (.gsa) THAT Qxb6612889aProg.lean LOADS. Nothing in Lean hashes anything: it is a label: what it is worth is what the hold of that sum in a sandbox is worth. -/
noncomputable def Try.pinned : Pinned := { name := "qxb6612889a", sum := "3564001fb57a0c8a5435db914a676c90f9f15fa2d6f5dc8abe7e63a090404bef", checked := Try.checked }
namespace Rows
def none {H : Type} : Left H := { results := [], args := [] }

/-- 'zzlaws_config_b1.FnPublicURLDropsOneSlash': WHATEVER THE INPUT: true; the input reads as it did. -/
def fnPublicURLDropsOneSlashSpec : ChangeSpec := { name := "fnPublicURLDropsOneSlash", fn := fun _ => fun
  | [d1, d2] => { results := [.lit (.bool true)], args := [d1, d2] }
  | _ => none }
def fnPublicURLDropsOneSlashRow : OpenClaim := { program := "qxb6612889a", sum := "3564001fb57a0c8a5435db914a676c90f9f15fa2d6f5dc8abe7e63a090404bef", func := "example.com/talthybius/talthybius/zzlaws_config_b1.FnPublicURLDropsOneSlash", spec := "fnPublicURLDropsOneSlash", apart := false }
def FnPublicURLDropsOneSlashSaid : Prop := fnPublicURLDropsOneSlashRow.holds Try.pinned (OpenSpec.ofChange fnPublicURLDropsOneSlashSpec)

/-- ITS FALSE NEIGHBOUR: 'it returns false'. Refute it at one input. -/
def fnPublicURLDropsOneSlashWrong : ChangeSpec := { name := "fnPublicURLDropsOneSlash", fn := fun _ => fun
  | [d1, d2] => { results := [.lit (.bool false)], args := [d1, d2] }
  | _ => none }
def FnPublicURLDropsOneSlashWrongFalsely : Prop := fnPublicURLDropsOneSlashRow.holds Try.pinned (OpenSpec.ofChange fnPublicURLDropsOneSlashWrong)

end Rows
end Go.Proofs.Qxb6612889a
