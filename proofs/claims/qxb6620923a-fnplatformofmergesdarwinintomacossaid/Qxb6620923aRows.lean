/-
  No cell of these rows narrows 'for every input' (looked for: loops, veiled, ifaces, maps, wideKeys, modest, calm, conditions, laid).
  DERIVED. THE GIVEN ROWS OF THIS SEAT. 1 by the template 'for every input the law returns true; each argument reads behind the call as it read before'; 0 by the template 'total and deterministic' (their statements: Qxb6620923aTotals.lean).
  GIVEN WITH THE SEED: the statements are not yours to turn. If you find one false, say at which input.
  Laid BY PROGRAM, IN A SANDBOX (cutbox-rows.mjs): the forced cells as the released guide's own fill.sh prints them over the translation ef2d5b1f9294c3da… (all of the seat's roots in one cut). By AI agents, Wed Nov 11 2026. No macro, syntax, notation, axiom, sorry.
-/
import Derived.Test.Qxb6620923aChecked
import GoSem.Claim
import GoSem.ClaimJoined
import GoSem.ClaimMapViews
import Derived.JoinedTies
import Derived.KernelRfl
namespace Go.Proofs.Qxb6620923a
/- THE CELL 'sum', in the pinned program and in every row, IS THE sha256 OF THE DUMP (.gsa) THAT Qxb6620923aProg.lean LOADS. Nothing in Lean hashes anything: it is a label: what it is worth is what the hold of that sum in a sandbox is worth. -/
noncomputable def Try.pinned : Pinned := { name := "qxb6620923a", sum := "ef2d5b1f9294c3dab7ad2cd02aba9a43a0525d064923a6ad96d3fdd0f80a7b2a", checked := Try.checked }
namespace Rows
def none {H : Type} : Left H := { results := [], args := [] }

/-- 'zzlaws_lifecycle_b1.FnPlatformOfMergesDarwinIntoMacos': WHATEVER THE INPUT: true; the input reads as it did. -/
def fnPlatformOfMergesDarwinIntoMacosSpec : ChangeSpec := { name := "fnPlatformOfMergesDarwinIntoMacos", fn := fun _ => fun
  | [d1, d2] => { results := [.lit (.bool true)], args := [d1, d2] }
  | _ => none }
def fnPlatformOfMergesDarwinIntoMacosRow : OpenClaim := { program := "qxb6620923a", sum := "ef2d5b1f9294c3dab7ad2cd02aba9a43a0525d064923a6ad96d3fdd0f80a7b2a", func := "example.com/skillkeep/skillkeep/zzlaws_lifecycle_b1.FnPlatformOfMergesDarwinIntoMacos", spec := "fnPlatformOfMergesDarwinIntoMacos", apart := false }
def FnPlatformOfMergesDarwinIntoMacosSaid : Prop := fnPlatformOfMergesDarwinIntoMacosRow.holds Try.pinned (OpenSpec.ofChange fnPlatformOfMergesDarwinIntoMacosSpec)

/-- ITS FALSE NEIGHBOUR: 'it returns false'. Refute it at one input. -/
def fnPlatformOfMergesDarwinIntoMacosWrong : ChangeSpec := { name := "fnPlatformOfMergesDarwinIntoMacos", fn := fun _ => fun
  | [d1, d2] => { results := [.lit (.bool false)], args := [d1, d2] }
  | _ => none }
def FnPlatformOfMergesDarwinIntoMacosWrongFalsely : Prop := fnPlatformOfMergesDarwinIntoMacosRow.holds Try.pinned (OpenSpec.ofChange fnPlatformOfMergesDarwinIntoMacosWrong)

end Rows
end Go.Proofs.Qxb6620923a
