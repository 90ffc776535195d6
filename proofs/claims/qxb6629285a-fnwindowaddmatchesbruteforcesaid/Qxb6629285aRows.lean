/-
  No cell of these rows narrows 'for every input' (looked for: loops, veiled, ifaces, maps, wideKeys, modest, calm, conditions, laid).
  DERIVED. THE GIVEN ROWS OF THIS SEAT. 2 by the template 'for every input the law returns true; each argument reads behind the call as it read before'; 0 by the template 'total and deterministic' (their statements: Qxb6629285aTotals.lean).
  GIVEN WITH THE SEED: the statements are not yours to turn. If you find one false, say at which input.
  Laid BY PROGRAM, IN A SANDBOX (cutbox-rows.mjs): the forced cells as the released guide's own fill.sh prints them over the translation 111ed274044c47cc… (all of the seat's roots in one cut). By AI agents, Wed Nov 11 2026. No macro, syntax, notation, axiom, sorry.
-/
import Derived.Test.Qxb6629285aChecked
import GoSem.Claim
import GoSem.ClaimJoined
import GoSem.ClaimMapViews
import Derived.JoinedTies
import Derived.KernelRfl
namespace Go.Proofs.Qxb6629285a
/- THE CELL 'sum', in the pinned program and in every row, IS THE sha256 OF THE DUMP (.gsa) THAT Qxb6629285aProg.lean LOADS. Nothing in Lean hashes anything: it is a label: what it is worth is what the hold of that sum in a sandbox is worth. -/
noncomputable def Try.pinned : Pinned := { name := "qxb6629285a", sum := "111ed274044c47ccc2754b71555653dd9d5e4bc4c797115bce4350098d865066", checked := Try.checked }
namespace Rows
def none {H : Type} : Left H := { results := [], args := [] }

/-- 'zzlaws_internal_counts_b1.FnWindowAddMatchesBruteForce': WHATEVER THE INPUT: true; the input reads as it did. -/
def fnWindowAddMatchesBruteForceSpec : ChangeSpec := { name := "fnWindowAddMatchesBruteForce", fn := fun _ => fun
  | [d1, d2, d3] => { results := [.lit (.bool true)], args := [d1, d2, d3] }
  | _ => none }
def fnWindowAddMatchesBruteForceRow : OpenClaim := { program := "qxb6629285a", sum := "111ed274044c47ccc2754b71555653dd9d5e4bc4c797115bce4350098d865066", func := "example.com/flockd/flockd/zzlaws_internal_counts_b1.FnWindowAddMatchesBruteForce", spec := "fnWindowAddMatchesBruteForce", apart := false }
def FnWindowAddMatchesBruteForceSaid : Prop := fnWindowAddMatchesBruteForceRow.holds Try.pinned (OpenSpec.ofChange fnWindowAddMatchesBruteForceSpec)

/-- ITS FALSE NEIGHBOUR: 'it returns false'. Refute it at one input. -/
def fnWindowAddMatchesBruteForceWrong : ChangeSpec := { name := "fnWindowAddMatchesBruteForce", fn := fun _ => fun
  | [d1, d2, d3] => { results := [.lit (.bool false)], args := [d1, d2, d3] }
  | _ => none }
def FnWindowAddMatchesBruteForceWrongFalsely : Prop := fnWindowAddMatchesBruteForceRow.holds Try.pinned (OpenSpec.ofChange fnWindowAddMatchesBruteForceWrong)

/-- 'zzlaws_internal_counts_b1.FnWindowAddModesMirrorAndShift': WHATEVER THE INPUT: true; the input reads as it did. -/
def fnWindowAddModesMirrorAndShiftSpec : ChangeSpec := { name := "fnWindowAddModesMirrorAndShift", fn := fun _ => fun
  | [d1, d2, d3] => { results := [.lit (.bool true)], args := [d1, d2, d3] }
  | _ => none }
def fnWindowAddModesMirrorAndShiftRow : OpenClaim := { program := "qxb6629285a", sum := "111ed274044c47ccc2754b71555653dd9d5e4bc4c797115bce4350098d865066", func := "example.com/flockd/flockd/zzlaws_internal_counts_b1.FnWindowAddModesMirrorAndShift", spec := "fnWindowAddModesMirrorAndShift", apart := false }
def FnWindowAddModesMirrorAndShiftSaid : Prop := fnWindowAddModesMirrorAndShiftRow.holds Try.pinned (OpenSpec.ofChange fnWindowAddModesMirrorAndShiftSpec)

/-- ITS FALSE NEIGHBOUR: 'it returns false'. Refute it at one input. -/
def fnWindowAddModesMirrorAndShiftWrong : ChangeSpec := { name := "fnWindowAddModesMirrorAndShift", fn := fun _ => fun
  | [d1, d2, d3] => { results := [.lit (.bool false)], args := [d1, d2, d3] }
  | _ => none }
def FnWindowAddModesMirrorAndShiftWrongFalsely : Prop := fnWindowAddModesMirrorAndShiftRow.holds Try.pinned (OpenSpec.ofChange fnWindowAddModesMirrorAndShiftWrong)

end Rows
end Go.Proofs.Qxb6629285a
