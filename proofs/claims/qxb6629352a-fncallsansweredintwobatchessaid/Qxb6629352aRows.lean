/-
  No cell of these rows narrows 'for every input' (looked for: loops, veiled, ifaces, maps, wideKeys, modest, calm, conditions, laid).
  DERIVED. THE GIVEN ROWS OF THIS SEAT. 2 by the template 'for every input the law returns true; each argument reads behind the call as it read before'; 0 by the template 'total and deterministic' (their statements: Qxb6629352aTotals.lean).
  GIVEN WITH THE SEED: the statements are not yours to turn. If you find one false, say at which input.
  Laid BY PROGRAM, IN A SANDBOX (cutbox-rows.mjs): the forced cells as the released guide's own fill.sh prints them over the translation cd5b11cb1d67174a… (all of the seat's roots in one cut). By AI agents, Wed Nov 11 2026. No macro, syntax, notation, axiom, sorry.
-/
import Derived.Test.Qxb6629352aChecked
import GoSem.Claim
import GoSem.ClaimJoined
import GoSem.ClaimMapViews
import Derived.JoinedTies
import Derived.KernelRfl
namespace Go.Proofs.Qxb6629352a
/- THE CELL 'sum', in the pinned program and in every row, IS THE sha256 OF THE DUMP (.gsa) THAT Qxb6629352aProg.lean LOADS. Nothing in Lean hashes anything: it is a label: what it is worth is what the hold of that sum in a sandbox is worth. -/
noncomputable def Try.pinned : Pinned := { name := "qxb6629352a", sum := "cd5b11cb1d67174afafb5a92e3b147bbe4b8bf295537c436b431f4ce5016b28f", checked := Try.checked }
namespace Rows
def none {H : Type} : Left H := { results := [], args := [] }

/-- 'zzlaws_core_b1.FnCallsAnsweredMatchesRankModel': WHATEVER THE INPUT: true; the input reads as it did. -/
def fnCallsAnsweredMatchesRankModelSpec : ChangeSpec := { name := "fnCallsAnsweredMatchesRankModel", fn := fun _ => fun
  | [d1, d2, d3, d4] => { results := [.lit (.bool true)], args := [d1, d2, d3, d4] }
  | _ => none }
def fnCallsAnsweredMatchesRankModelRow : OpenClaim := { program := "qxb6629352a", sum := "cd5b11cb1d67174afafb5a92e3b147bbe4b8bf295537c436b431f4ce5016b28f", func := "example.com/kvasir/kvasir/zzlaws_core_b1.FnCallsAnsweredMatchesRankModel", spec := "fnCallsAnsweredMatchesRankModel", apart := false }
def FnCallsAnsweredMatchesRankModelSaid : Prop := fnCallsAnsweredMatchesRankModelRow.holds Try.pinned (OpenSpec.ofChange fnCallsAnsweredMatchesRankModelSpec)

/-- ITS FALSE NEIGHBOUR: 'it returns false'. Refute it at one input. -/
def fnCallsAnsweredMatchesRankModelWrong : ChangeSpec := { name := "fnCallsAnsweredMatchesRankModel", fn := fun _ => fun
  | [d1, d2, d3, d4] => { results := [.lit (.bool false)], args := [d1, d2, d3, d4] }
  | _ => none }
def FnCallsAnsweredMatchesRankModelWrongFalsely : Prop := fnCallsAnsweredMatchesRankModelRow.holds Try.pinned (OpenSpec.ofChange fnCallsAnsweredMatchesRankModelWrong)

/-- 'zzlaws_core_b1.FnCallsAnsweredInTwoBatches': WHATEVER THE INPUT: true; the input reads as it did. -/
def fnCallsAnsweredInTwoBatchesSpec : ChangeSpec := { name := "fnCallsAnsweredInTwoBatches", fn := fun _ => fun
  | [d1, d2, d3, d4, d5] => { results := [.lit (.bool true)], args := [d1, d2, d3, d4, d5] }
  | _ => none }
def fnCallsAnsweredInTwoBatchesRow : OpenClaim := { program := "qxb6629352a", sum := "cd5b11cb1d67174afafb5a92e3b147bbe4b8bf295537c436b431f4ce5016b28f", func := "example.com/kvasir/kvasir/zzlaws_core_b1.FnCallsAnsweredInTwoBatches", spec := "fnCallsAnsweredInTwoBatches", apart := false }
def FnCallsAnsweredInTwoBatchesSaid : Prop := fnCallsAnsweredInTwoBatchesRow.holds Try.pinned (OpenSpec.ofChange fnCallsAnsweredInTwoBatchesSpec)

/-- ITS FALSE NEIGHBOUR: 'it returns false'. Refute it at one input. -/
def fnCallsAnsweredInTwoBatchesWrong : ChangeSpec := { name := "fnCallsAnsweredInTwoBatches", fn := fun _ => fun
  | [d1, d2, d3, d4, d5] => { results := [.lit (.bool false)], args := [d1, d2, d3, d4, d5] }
  | _ => none }
def FnCallsAnsweredInTwoBatchesWrongFalsely : Prop := fnCallsAnsweredInTwoBatchesRow.holds Try.pinned (OpenSpec.ofChange fnCallsAnsweredInTwoBatchesWrong)

end Rows
end Go.Proofs.Qxb6629352a
