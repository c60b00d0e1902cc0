/-
  No cell of these rows narrows 'for every input' (looked for: loops, veiled, ifaces, maps, wideKeys, modest, calm, conditions, laid).
  DERIVED. THE GIVEN ROWS OF THIS SEAT. 6 by the template 'for every input the law returns true; each argument reads behind the call as it read before'; 0 by the template 'total and deterministic' (their statements: Qxb6619327aTotals.lean).
  GIVEN WITH THE SEED: the statements are not yours to turn. If you find one false, say at which input.
  Laid BY PROGRAM, IN A SANDBOX (cutbox-rows.mjs): the forced cells as the released guide's own fill.sh prints them over the translation 3e2b6fb464c5781c… (all of the seat's roots in one cut). By AI agents, Wed Nov 11 2026. No macro, syntax, notation, axiom, sorry.
-/
import Derived.Test.Qxb6619327aChecked
import GoSem.Claim
import GoSem.ClaimJoined
import GoSem.ClaimMapViews
import Derived.JoinedTies
import Derived.KernelRfl
namespace Go.Proofs.Qxb6619327a
/- THE CELL 'sum', in the pinned program and in every row, IS THE sha256 OF THE DUMP (.gsa) THAT Qxb6619327aProg.lean LOADS. Nothing in Lean hashes anything: it is a label: what it is worth is what the hold of that sum in a sandbox is worth. -/
noncomputable def Try.pinned : Pinned := { name := "qxb6619327a", sum := "3e2b6fb464c5781c3653c443dcb34673beaf4880ebb81793b1ed711925a3d35e", checked := Try.checked }
namespace Rows
def none {H : Type} : Left H := { results := [], args := [] }

/-- 'zzlaws_internal_order_b1.FnDecisionIsFirstOutcomeToPassF': WHATEVER THE INPUT: true; the input reads as it did. -/
def fnDecisionIsFirstOutcomeToPassFSpec : ChangeSpec := { name := "fnDecisionIsFirstOutcomeToPassF", fn := fun _ => fun
  | [d1, d2] => { results := [.lit (.bool true)], args := [d1, d2] }
  | _ => none }
def fnDecisionIsFirstOutcomeToPassFRow : OpenClaim := { program := "qxb6619327a", sum := "3e2b6fb464c5781c3653c443dcb34673beaf4880ebb81793b1ed711925a3d35e", func := "example.com/porphyry/porphyry/zzlaws_internal_order_b1.FnDecisionIsFirstOutcomeToPassF", spec := "fnDecisionIsFirstOutcomeToPassF", apart := false }
def FnDecisionIsFirstOutcomeToPassFSaid : Prop := fnDecisionIsFirstOutcomeToPassFRow.holds Try.pinned (OpenSpec.ofChange fnDecisionIsFirstOutcomeToPassFSpec)

/-- ITS FALSE NEIGHBOUR: 'it returns false'. Refute it at one input. -/
def fnDecisionIsFirstOutcomeToPassFWrong : ChangeSpec := { name := "fnDecisionIsFirstOutcomeToPassF", fn := fun _ => fun
  | [d1, d2] => { results := [.lit (.bool false)], args := [d1, d2] }
  | _ => none }
def FnDecisionIsFirstOutcomeToPassFWrongFalsely : Prop := fnDecisionIsFirstOutcomeToPassFRow.holds Try.pinned (OpenSpec.ofChange fnDecisionIsFirstOutcomeToPassFWrong)

/-- 'zzlaws_internal_order_b1.FnDecisionFlippedReportsFlipTheOutcome': WHATEVER THE INPUT: true; the input reads as it did. -/
def fnDecisionFlippedReportsFlipTheOutcomeSpec : ChangeSpec := { name := "fnDecisionFlippedReportsFlipTheOutcome", fn := fun _ => fun
  | [d1, d2] => { results := [.lit (.bool true)], args := [d1, d2] }
  | _ => none }
def fnDecisionFlippedReportsFlipTheOutcomeRow : OpenClaim := { program := "qxb6619327a", sum := "3e2b6fb464c5781c3653c443dcb34673beaf4880ebb81793b1ed711925a3d35e", func := "example.com/porphyry/porphyry/zzlaws_internal_order_b1.FnDecisionFlippedReportsFlipTheOutcome", spec := "fnDecisionFlippedReportsFlipTheOutcome", apart := false }
def FnDecisionFlippedReportsFlipTheOutcomeSaid : Prop := fnDecisionFlippedReportsFlipTheOutcomeRow.holds Try.pinned (OpenSpec.ofChange fnDecisionFlippedReportsFlipTheOutcomeSpec)

/-- ITS FALSE NEIGHBOUR: 'it returns false'. Refute it at one input. -/
def fnDecisionFlippedReportsFlipTheOutcomeWrong : ChangeSpec := { name := "fnDecisionFlippedReportsFlipTheOutcome", fn := fun _ => fun
  | [d1, d2] => { results := [.lit (.bool false)], args := [d1, d2] }
  | _ => none }
def FnDecisionFlippedReportsFlipTheOutcomeWrongFalsely : Prop := fnDecisionFlippedReportsFlipTheOutcomeRow.holds Try.pinned (OpenSpec.ofChange fnDecisionFlippedReportsFlipTheOutcomeWrong)

/-- 'zzlaws_internal_order_b1.FnDecisionOfADecidedPrefixStands': WHATEVER THE INPUT: true; the input reads as it did. -/
def fnDecisionOfADecidedPrefixStandsSpec : ChangeSpec := { name := "fnDecisionOfADecidedPrefixStands", fn := fun _ => fun
  | [d1, d2, d3] => { results := [.lit (.bool true)], args := [d1, d2, d3] }
  | _ => none }
def fnDecisionOfADecidedPrefixStandsRow : OpenClaim := { program := "qxb6619327a", sum := "3e2b6fb464c5781c3653c443dcb34673beaf4880ebb81793b1ed711925a3d35e", func := "example.com/porphyry/porphyry/zzlaws_internal_order_b1.FnDecisionOfADecidedPrefixStands", spec := "fnDecisionOfADecidedPrefixStands", apart := false }
def FnDecisionOfADecidedPrefixStandsSaid : Prop := fnDecisionOfADecidedPrefixStandsRow.holds Try.pinned (OpenSpec.ofChange fnDecisionOfADecidedPrefixStandsSpec)

/-- ITS FALSE NEIGHBOUR: 'it returns false'. Refute it at one input. -/
def fnDecisionOfADecidedPrefixStandsWrong : ChangeSpec := { name := "fnDecisionOfADecidedPrefixStands", fn := fun _ => fun
  | [d1, d2, d3] => { results := [.lit (.bool false)], args := [d1, d2, d3] }
  | _ => none }
def FnDecisionOfADecidedPrefixStandsWrongFalsely : Prop := fnDecisionOfADecidedPrefixStandsRow.holds Try.pinned (OpenSpec.ofChange fnDecisionOfADecidedPrefixStandsWrong)

/-- 'zzlaws_internal_order_b1.FnVouchingCountsOthersFirstMatched': WHATEVER THE INPUT: true; the input reads as it did. -/
def fnVouchingCountsOthersFirstMatchedSpec : ChangeSpec := { name := "fnVouchingCountsOthersFirstMatched", fn := fun _ => fun
  | [d1, d2] => { results := [.lit (.bool true)], args := [d1, d2] }
  | _ => none }
def fnVouchingCountsOthersFirstMatchedRow : OpenClaim := { program := "qxb6619327a", sum := "3e2b6fb464c5781c3653c443dcb34673beaf4880ebb81793b1ed711925a3d35e", func := "example.com/porphyry/porphyry/zzlaws_internal_order_b1.FnVouchingCountsOthersFirstMatched", spec := "fnVouchingCountsOthersFirstMatched", apart := false }
def FnVouchingCountsOthersFirstMatchedSaid : Prop := fnVouchingCountsOthersFirstMatchedRow.holds Try.pinned (OpenSpec.ofChange fnVouchingCountsOthersFirstMatchedSpec)

/-- ITS FALSE NEIGHBOUR: 'it returns false'. Refute it at one input. -/
def fnVouchingCountsOthersFirstMatchedWrong : ChangeSpec := { name := "fnVouchingCountsOthersFirstMatched", fn := fun _ => fun
  | [d1, d2] => { results := [.lit (.bool false)], args := [d1, d2] }
  | _ => none }
def FnVouchingCountsOthersFirstMatchedWrongFalsely : Prop := fnVouchingCountsOthersFirstMatchedRow.holds Try.pinned (OpenSpec.ofChange fnVouchingCountsOthersFirstMatchedWrong)

/-- 'zzlaws_internal_order_b1.FnVouchingAcrossTwoMasters': WHATEVER THE INPUT: true; the input reads as it did. -/
def fnVouchingAcrossTwoMastersSpec : ChangeSpec := { name := "fnVouchingAcrossTwoMasters", fn := fun _ => fun
  | [d1, d2, d3] => { results := [.lit (.bool true)], args := [d1, d2, d3] }
  | _ => none }
def fnVouchingAcrossTwoMastersRow : OpenClaim := { program := "qxb6619327a", sum := "3e2b6fb464c5781c3653c443dcb34673beaf4880ebb81793b1ed711925a3d35e", func := "example.com/porphyry/porphyry/zzlaws_internal_order_b1.FnVouchingAcrossTwoMasters", spec := "fnVouchingAcrossTwoMasters", apart := false }
def FnVouchingAcrossTwoMastersSaid : Prop := fnVouchingAcrossTwoMastersRow.holds Try.pinned (OpenSpec.ofChange fnVouchingAcrossTwoMastersSpec)

/-- ITS FALSE NEIGHBOUR: 'it returns false'. Refute it at one input. -/
def fnVouchingAcrossTwoMastersWrong : ChangeSpec := { name := "fnVouchingAcrossTwoMasters", fn := fun _ => fun
  | [d1, d2, d3] => { results := [.lit (.bool false)], args := [d1, d2, d3] }
  | _ => none }
def FnVouchingAcrossTwoMastersWrongFalsely : Prop := fnVouchingAcrossTwoMastersRow.holds Try.pinned (OpenSpec.ofChange fnVouchingAcrossTwoMastersWrong)

/-- 'zzlaws_internal_order_b1.FnKindStringNamesTellKindsApart': WHATEVER THE INPUT: true; the input reads as it did. -/
def fnKindStringNamesTellKindsApartSpec : ChangeSpec := { name := "fnKindStringNamesTellKindsApart", fn := fun _ => fun
  | [d1, d2] => { results := [.lit (.bool true)], args := [d1, d2] }
  | _ => none }
def fnKindStringNamesTellKindsApartRow : OpenClaim := { program := "qxb6619327a", sum := "3e2b6fb464c5781c3653c443dcb34673beaf4880ebb81793b1ed711925a3d35e", func := "example.com/porphyry/porphyry/zzlaws_internal_order_b1.FnKindStringNamesTellKindsApart", spec := "fnKindStringNamesTellKindsApart", apart := false }
def FnKindStringNamesTellKindsApartSaid : Prop := fnKindStringNamesTellKindsApartRow.holds Try.pinned (OpenSpec.ofChange fnKindStringNamesTellKindsApartSpec)

/-- ITS FALSE NEIGHBOUR: 'it returns false'. Refute it at one input. -/
def fnKindStringNamesTellKindsApartWrong : ChangeSpec := { name := "fnKindStringNamesTellKindsApart", fn := fun _ => fun
  | [d1, d2] => { results := [.lit (.bool false)], args := [d1, d2] }
  | _ => none }
def FnKindStringNamesTellKindsApartWrongFalsely : Prop := fnKindStringNamesTellKindsApartRow.holds Try.pinned (OpenSpec.ofChange fnKindStringNamesTellKindsApartWrong)

end Rows
end Go.Proofs.Qxb6619327a
