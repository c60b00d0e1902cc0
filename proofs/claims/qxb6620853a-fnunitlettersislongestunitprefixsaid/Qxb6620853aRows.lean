/-
  No cell of these rows narrows 'for every input' (looked for: loops, veiled, ifaces, maps, wideKeys, modest, calm, conditions, laid).
  DERIVED. THE GIVEN ROWS OF THIS SEAT. 2 by the template 'for every input the law returns true; each argument reads behind the call as it read before'; 0 by the template 'total and deterministic' (their statements: Qxb6620853aTotals.lean).
  GIVEN WITH THE SEED: the statements are not yours to turn. If you find one false, say at which input.
  Laid BY PROGRAM, IN A SANDBOX (cutbox-rows.mjs): the forced cells as the released guide's own fill.sh prints them over the translation d8684bcb21ce8c87… (all of the seat's roots in one cut). By AI agents, Wed Nov 11 2026. No macro, syntax, notation, axiom, sorry.
-/
import Derived.Test.Qxb6620853aChecked
import GoSem.Claim
import GoSem.ClaimJoined
import GoSem.ClaimMapViews
import Derived.JoinedTies
import Derived.KernelRfl
namespace Go.Proofs.Qxb6620853a
/- THE CELL 'sum', in the pinned program and in every row, IS THE sha256 OF THE DUMP (.gsa) THAT Qxb6620853aProg.lean LOADS. Nothing in Lean hashes anything: it is a label: what it is worth is what the hold of that sum in a sandbox is worth. -/
noncomputable def Try.pinned : Pinned := { name := "qxb6620853a", sum := "d8684bcb21ce8c871a706e2133704b5c2fc9689650382e9f9e94aec39d9e5af0", checked := Try.checked }
namespace Rows
def none {H : Type} : Left H := { results := [], args := [] }

/-- 'zzlaws_internal_form_b1.FnUnitLettersIsLongestUnitPrefix': WHATEVER THE INPUT: true; the input reads as it did. -/
def fnUnitLettersIsLongestUnitPrefixSpec : ChangeSpec := { name := "fnUnitLettersIsLongestUnitPrefix", fn := fun _ => fun
  | [d] => { results := [.lit (.bool true)], args := [d] }
  | _ => none }
def fnUnitLettersIsLongestUnitPrefixRow : OpenClaim := { program := "qxb6620853a", sum := "d8684bcb21ce8c871a706e2133704b5c2fc9689650382e9f9e94aec39d9e5af0", func := "example.com/kindsmith/kindsmith/zzlaws_internal_form_b1.FnUnitLettersIsLongestUnitPrefix", spec := "fnUnitLettersIsLongestUnitPrefix", apart := false }
def FnUnitLettersIsLongestUnitPrefixSaid : Prop := fnUnitLettersIsLongestUnitPrefixRow.holds Try.pinned (OpenSpec.ofChange fnUnitLettersIsLongestUnitPrefixSpec)

/-- ITS FALSE NEIGHBOUR: 'it returns false'. Refute it at one input. -/
def fnUnitLettersIsLongestUnitPrefixWrong : ChangeSpec := { name := "fnUnitLettersIsLongestUnitPrefix", fn := fun _ => fun
  | [d] => { results := [.lit (.bool false)], args := [d] }
  | _ => none }
def FnUnitLettersIsLongestUnitPrefixWrongFalsely : Prop := fnUnitLettersIsLongestUnitPrefixRow.holds Try.pinned (OpenSpec.ofChange fnUnitLettersIsLongestUnitPrefixWrong)

/-- 'zzlaws_internal_form_b1.FnUnitLettersOneMoreInFront': WHATEVER THE INPUT: true; the input reads as it did. -/
def fnUnitLettersOneMoreInFrontSpec : ChangeSpec := { name := "fnUnitLettersOneMoreInFront", fn := fun _ => fun
  | [d1, d2] => { results := [.lit (.bool true)], args := [d1, d2] }
  | _ => none }
def fnUnitLettersOneMoreInFrontRow : OpenClaim := { program := "qxb6620853a", sum := "d8684bcb21ce8c871a706e2133704b5c2fc9689650382e9f9e94aec39d9e5af0", func := "example.com/kindsmith/kindsmith/zzlaws_internal_form_b1.FnUnitLettersOneMoreInFront", spec := "fnUnitLettersOneMoreInFront", apart := false }
def FnUnitLettersOneMoreInFrontSaid : Prop := fnUnitLettersOneMoreInFrontRow.holds Try.pinned (OpenSpec.ofChange fnUnitLettersOneMoreInFrontSpec)

/-- ITS FALSE NEIGHBOUR: 'it returns false'. Refute it at one input. -/
def fnUnitLettersOneMoreInFrontWrong : ChangeSpec := { name := "fnUnitLettersOneMoreInFront", fn := fun _ => fun
  | [d1, d2] => { results := [.lit (.bool false)], args := [d1, d2] }
  | _ => none }
def FnUnitLettersOneMoreInFrontWrongFalsely : Prop := fnUnitLettersOneMoreInFrontRow.holds Try.pinned (OpenSpec.ofChange fnUnitLettersOneMoreInFrontWrong)

end Rows
end Go.Proofs.Qxb6620853a
