/-
  NARROWER THAN 'FOR EVERY INPUT', by the rows' own cells (each row's printed sentence says how): FnMatchesIsConjunctionOfItsRequirements: maps · FnMatchesOperatorsMeanWhatTheySay: maps.
  DERIVED. THE GIVEN ROWS OF THIS SEAT. 2 by the template 'for every input the law returns true; each argument reads behind the call as it read before'; 0 by the template 'total and deterministic' (their statements: Qxb6630576aTotals.lean).
  GIVEN WITH THE SEED: the statements are not yours to turn. If you find one false, say at which input.
  Laid BY PROGRAM, IN A SANDBOX (cutbox-rows.mjs): the forced cells as the released guide's own fill.sh prints them over the translation 31dbb6eef48f8f38… (all of the seat's roots in one cut). By AI agents, Wed Nov 11 2026. No macro, syntax, notation, axiom, sorry.
-/
import Derived.Test.Qxb6630576aChecked
import GoSem.Claim
import GoSem.ClaimJoined
import GoSem.ClaimMapViews
import Derived.JoinedTies
import Derived.KernelRfl
namespace Go.Proofs.Qxb6630576a
/- THE CELL 'sum', in the pinned program and in every row, IS THE sha256 OF THE DUMP (.gsa) THAT Qxb6630576aProg.lean LOADS. Nothing in Lean hashes anything: it is a label: what it is worth is what the hold of that sum in a sandbox is worth. -/
noncomputable def Try.pinned : Pinned := { name := "qxb6630576a", sum := "31dbb6eef48f8f38a3ab41f54c8bf07d732c7cc5d8a9217bfeeeef1bc69396cf", checked := Try.checked }
namespace Rows
def none {H : Type} : Left H := { results := [], args := [] }

/-- 'zzlaws_internal_selector_b1.FnMatchesIsConjunctionOfItsRequirements': WHATEVER THE INPUT: true; the input reads as it did. -/
def fnMatchesIsConjunctionOfItsRequirementsSpec : ChangeSpec := { name := "fnMatchesIsConjunctionOfItsRequirements", fn := fun _ => fun
  | [d1, d2, d3, d4, d5] => { results := [.lit (.bool true)], args := [d1, d2, d3, d4, d5] }
  | _ => none }
def fnMatchesIsConjunctionOfItsRequirementsRow : OpenClaim := { program := "qxb6630576a", sum := "31dbb6eef48f8f38a3ab41f54c8bf07d732c7cc5d8a9217bfeeeef1bc69396cf", func := "example.com/watchd/watchd/zzlaws_internal_selector_b1.FnMatchesIsConjunctionOfItsRequirements", spec := "fnMatchesIsConjunctionOfItsRequirements", maps := true, apart := false }
def FnMatchesIsConjunctionOfItsRequirementsSaid : Prop := fnMatchesIsConjunctionOfItsRequirementsRow.holds Try.pinned (OpenSpec.ofChange fnMatchesIsConjunctionOfItsRequirementsSpec)

/-- ITS FALSE NEIGHBOUR: 'it returns false'. Refute it at one input. -/
def fnMatchesIsConjunctionOfItsRequirementsWrong : ChangeSpec := { name := "fnMatchesIsConjunctionOfItsRequirements", fn := fun _ => fun
  | [d1, d2, d3, d4, d5] => { results := [.lit (.bool false)], args := [d1, d2, d3, d4, d5] }
  | _ => none }
def FnMatchesIsConjunctionOfItsRequirementsWrongFalsely : Prop := fnMatchesIsConjunctionOfItsRequirementsRow.holds Try.pinned (OpenSpec.ofChange fnMatchesIsConjunctionOfItsRequirementsWrong)

/-- 'zzlaws_internal_selector_b1.FnMatchesOperatorsMeanWhatTheySay': WHATEVER THE INPUT: true; the input reads as it did. -/
def fnMatchesOperatorsMeanWhatTheySaySpec : ChangeSpec := { name := "fnMatchesOperatorsMeanWhatTheySay", fn := fun _ => fun
  | [d1, d2, d3] => { results := [.lit (.bool true)], args := [d1, d2, d3] }
  | _ => none }
def fnMatchesOperatorsMeanWhatTheySayRow : OpenClaim := { program := "qxb6630576a", sum := "31dbb6eef48f8f38a3ab41f54c8bf07d732c7cc5d8a9217bfeeeef1bc69396cf", func := "example.com/watchd/watchd/zzlaws_internal_selector_b1.FnMatchesOperatorsMeanWhatTheySay", spec := "fnMatchesOperatorsMeanWhatTheySay", maps := true, apart := false }
def FnMatchesOperatorsMeanWhatTheySaySaid : Prop := fnMatchesOperatorsMeanWhatTheySayRow.holds Try.pinned (OpenSpec.ofChange fnMatchesOperatorsMeanWhatTheySaySpec)

/-- ITS FALSE NEIGHBOUR: 'it returns false'. Refute it at one input. -/
def fnMatchesOperatorsMeanWhatTheySayWrong : ChangeSpec := { name := "fnMatchesOperatorsMeanWhatTheySay", fn := fun _ => fun
  | [d1, d2, d3] => { results := [.lit (.bool false)], args := [d1, d2, d3] }
  | _ => none }
def FnMatchesOperatorsMeanWhatTheySayWrongFalsely : Prop := fnMatchesOperatorsMeanWhatTheySayRow.holds Try.pinned (OpenSpec.ofChange fnMatchesOperatorsMeanWhatTheySayWrong)

end Rows
end Go.Proofs.Qxb6630576a
