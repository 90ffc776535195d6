/-
  No cell of these rows narrows 'for every input' (looked for: loops, veiled, ifaces, maps, wideKeys, modest, calm, conditions, laid).
  DERIVED. THE GIVEN ROWS OF THIS SEAT. 2 by the template 'for every input the law returns true; each argument reads behind the call as it read before'; 0 by the template 'total and deterministic' (their statements: Qxb6630523aTotals.lean).
  GIVEN WITH THE SEED: the statements are not yours to turn. If you find one false, say at which input.
  Laid BY PROGRAM, IN A SANDBOX (cutbox-rows.mjs): the forced cells as the released guide's own fill.sh prints them over the translation b956088e9aaa1a5c… (all of the seat's roots in one cut). By AI agents, Wed Nov 11 2026. No macro, syntax, notation, axiom, sorry.
-/
import Derived.Test.Qxb6630523aChecked
import GoSem.Claim
import GoSem.ClaimJoined
import GoSem.ClaimMapViews
import Derived.JoinedTies
import Derived.KernelRfl
namespace Go.Proofs.Qxb6630523a
/- THE CELL 'sum', in the pinned program and in every row, IS THE sha256 OF THE DUMP (.gsa) THAT Qxb6630523aProg.lean LOADS. Nothing in Lean hashes anything: it is a label: what it is worth is what the hold of that sum in a sandbox is worth. -/
noncomputable def Try.pinned : Pinned := { name := "qxb6630523a", sum := "b956088e9aaa1a5cebcacfef8a8254e1b97ee78ba82ef5035aad2339756be0ce", checked := Try.checked }
namespace Rows
def none {H : Type} : Left H := { results := [], args := [] }

/-- 'zzlaws_internal_forward_b1.FnTookDrainsEveryOfferToPeer': WHATEVER THE INPUT: true; the input reads as it did. -/
def fnTookDrainsEveryOfferToPeerSpec : ChangeSpec := { name := "fnTookDrainsEveryOfferToPeer", fn := fun _ => fun
  | [d1, d2, d3, d4, d5, d6, d7, d8, d9] => { results := [.lit (.bool true)], args := [d1, d2, d3, d4, d5, d6, d7, d8, d9] }
  | _ => none }
def fnTookDrainsEveryOfferToPeerRow : OpenClaim := { program := "qxb6630523a", sum := "b956088e9aaa1a5cebcacfef8a8254e1b97ee78ba82ef5035aad2339756be0ce", func := "example.com/namewire/namewire/zzlaws_internal_forward_b1.FnTookDrainsEveryOfferToPeer", spec := "fnTookDrainsEveryOfferToPeer", apart := false }
def FnTookDrainsEveryOfferToPeerSaid : Prop := fnTookDrainsEveryOfferToPeerRow.holds Try.pinned (OpenSpec.ofChange fnTookDrainsEveryOfferToPeerSpec)

/-- ITS FALSE NEIGHBOUR: 'it returns false'. Refute it at one input. -/
def fnTookDrainsEveryOfferToPeerWrong : ChangeSpec := { name := "fnTookDrainsEveryOfferToPeer", fn := fun _ => fun
  | [d1, d2, d3, d4, d5, d6, d7, d8, d9] => { results := [.lit (.bool false)], args := [d1, d2, d3, d4, d5, d6, d7, d8, d9] }
  | _ => none }
def FnTookDrainsEveryOfferToPeerWrongFalsely : Prop := fnTookDrainsEveryOfferToPeerRow.holds Try.pinned (OpenSpec.ofChange fnTookDrainsEveryOfferToPeerWrong)

/-- 'zzlaws_internal_forward_b1.FnTookTwoAnswersCommute': WHATEVER THE INPUT: true; the input reads as it did. -/
def fnTookTwoAnswersCommuteSpec : ChangeSpec := { name := "fnTookTwoAnswersCommute", fn := fun _ => fun
  | [d1, d2, d3, d4, d5, d6] => { results := [.lit (.bool true)], args := [d1, d2, d3, d4, d5, d6] }
  | _ => none }
def fnTookTwoAnswersCommuteRow : OpenClaim := { program := "qxb6630523a", sum := "b956088e9aaa1a5cebcacfef8a8254e1b97ee78ba82ef5035aad2339756be0ce", func := "example.com/namewire/namewire/zzlaws_internal_forward_b1.FnTookTwoAnswersCommute", spec := "fnTookTwoAnswersCommute", apart := false }
def FnTookTwoAnswersCommuteSaid : Prop := fnTookTwoAnswersCommuteRow.holds Try.pinned (OpenSpec.ofChange fnTookTwoAnswersCommuteSpec)

/-- ITS FALSE NEIGHBOUR: 'it returns false'. Refute it at one input. -/
def fnTookTwoAnswersCommuteWrong : ChangeSpec := { name := "fnTookTwoAnswersCommute", fn := fun _ => fun
  | [d1, d2, d3, d4, d5, d6] => { results := [.lit (.bool false)], args := [d1, d2, d3, d4, d5, d6] }
  | _ => none }
def FnTookTwoAnswersCommuteWrongFalsely : Prop := fnTookTwoAnswersCommuteRow.holds Try.pinned (OpenSpec.ofChange fnTookTwoAnswersCommuteWrong)

end Rows
end Go.Proofs.Qxb6630523a
