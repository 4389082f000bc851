/-
  No cell of these rows narrows 'for every input' (looked for: loops, veiled, ifaces, maps, wideKeys, modest, calm, conditions, laid).
  DERIVED. THE GIVEN ROWS OF THIS SEAT. 4 by the template 'for every input the law returns true; each argument reads behind the call as it read before'; 0 by the template 'total and deterministic' (their statements: Qxb6613229aTotals.lean).
  GIVEN WITH THE SEED: the statements are not yours to turn. If you find one false, say at which input.
  Laid BY PROGRAM, IN A SANDBOX (cutbox-rows.mjs): the forced cells as the released guide's own fill.sh prints them over the translation b9acfcb5e9a6aca4… (all of the seat's roots in one cut). By AI agents, Wed Nov 11 2026. No macro, syntax, notation, axiom, sorry.
-/
import Derived.Test.Qxb6613229aChecked
import GoSem.Claim
import GoSem.ClaimJoined
import GoSem.ClaimMapViews
import Derived.JoinedTies
import Derived.KernelRfl
namespace Go.Proofs.Qxb6613229a
/- THE CELL 'sum', in the pinned program and in every row, IS THE sha256 OF THE DUMP (.gsa) THAT Qxb6613229aProg.lean LOADS. Nothing in Lean hashes anything: it is a label: what it is worth is what the hold of that sum in a sandbox is worth. -/
noncomputable def Try.pinned : Pinned := { name := "qxb6613229a", sum := "b9acfcb5e9a6aca496f025578660d6f1cced098f0ae763f04d301ba8b8fffd0b", checked := Try.checked }
namespace Rows
def none {H : Type} : Left H := { results := [], args := [] }

/-- 'zzlaws_internal_votes_b1.FnMarksFirstStepsByCandidates': WHATEVER THE INPUT: true; the input reads as it did. -/
def fnMarksFirstStepsByCandidatesSpec : ChangeSpec := { name := "fnMarksFirstStepsByCandidates", fn := fun _ => fun
  | [d1, d2, d3] => { results := [.lit (.bool true)], args := [d1, d2, d3] }
  | _ => none }
def fnMarksFirstStepsByCandidatesRow : OpenClaim := { program := "qxb6613229a", sum := "b9acfcb5e9a6aca496f025578660d6f1cced098f0ae763f04d301ba8b8fffd0b", func := "example.com/cumulant/cumulant/zzlaws_internal_votes_b1.FnMarksFirstStepsByCandidates", spec := "fnMarksFirstStepsByCandidates", apart := false }
def FnMarksFirstStepsByCandidatesSaid : Prop := fnMarksFirstStepsByCandidatesRow.holds Try.pinned (OpenSpec.ofChange fnMarksFirstStepsByCandidatesSpec)

/-- ITS FALSE NEIGHBOUR: 'it returns false'. Refute it at one input. -/
def fnMarksFirstStepsByCandidatesWrong : ChangeSpec := { name := "fnMarksFirstStepsByCandidates", fn := fun _ => fun
  | [d1, d2, d3] => { results := [.lit (.bool false)], args := [d1, d2, d3] }
  | _ => none }
def FnMarksFirstStepsByCandidatesWrongFalsely : Prop := fnMarksFirstStepsByCandidatesRow.holds Try.pinned (OpenSpec.ofChange fnMarksFirstStepsByCandidatesWrong)

/-- 'zzlaws_internal_votes_b1.FnMarksFirstBallotsDoNotOverlap': WHATEVER THE INPUT: true; the input reads as it did. -/
def fnMarksFirstBallotsDoNotOverlapSpec : ChangeSpec := { name := "fnMarksFirstBallotsDoNotOverlap", fn := fun _ => fun
  | [d1, d2, d3, d4] => { results := [.lit (.bool true)], args := [d1, d2, d3, d4] }
  | _ => none }
def fnMarksFirstBallotsDoNotOverlapRow : OpenClaim := { program := "qxb6613229a", sum := "b9acfcb5e9a6aca496f025578660d6f1cced098f0ae763f04d301ba8b8fffd0b", func := "example.com/cumulant/cumulant/zzlaws_internal_votes_b1.FnMarksFirstBallotsDoNotOverlap", spec := "fnMarksFirstBallotsDoNotOverlap", apart := false }
def FnMarksFirstBallotsDoNotOverlapSaid : Prop := fnMarksFirstBallotsDoNotOverlapRow.holds Try.pinned (OpenSpec.ofChange fnMarksFirstBallotsDoNotOverlapSpec)

/-- ITS FALSE NEIGHBOUR: 'it returns false'. Refute it at one input. -/
def fnMarksFirstBallotsDoNotOverlapWrong : ChangeSpec := { name := "fnMarksFirstBallotsDoNotOverlap", fn := fun _ => fun
  | [d1, d2, d3, d4] => { results := [.lit (.bool false)], args := [d1, d2, d3, d4] }
  | _ => none }
def FnMarksFirstBallotsDoNotOverlapWrongFalsely : Prop := fnMarksFirstBallotsDoNotOverlapRow.holds Try.pinned (OpenSpec.ofChange fnMarksFirstBallotsDoNotOverlapWrong)

/-- 'zzlaws_internal_votes_b1.FnBallotStandingAgreesWithCast': WHATEVER THE INPUT: true; the input reads as it did. -/
def fnBallotStandingAgreesWithCastSpec : ChangeSpec := { name := "fnBallotStandingAgreesWithCast", fn := fun _ => fun
  | [d1, d2, d3, d4, d5, d6] => { results := [.lit (.bool true)], args := [d1, d2, d3, d4, d5, d6] }
  | _ => none }
def fnBallotStandingAgreesWithCastRow : OpenClaim := { program := "qxb6613229a", sum := "b9acfcb5e9a6aca496f025578660d6f1cced098f0ae763f04d301ba8b8fffd0b", func := "example.com/cumulant/cumulant/zzlaws_internal_votes_b1.FnBallotStandingAgreesWithCast", spec := "fnBallotStandingAgreesWithCast", apart := false }
def FnBallotStandingAgreesWithCastSaid : Prop := fnBallotStandingAgreesWithCastRow.holds Try.pinned (OpenSpec.ofChange fnBallotStandingAgreesWithCastSpec)

/-- ITS FALSE NEIGHBOUR: 'it returns false'. Refute it at one input. -/
def fnBallotStandingAgreesWithCastWrong : ChangeSpec := { name := "fnBallotStandingAgreesWithCast", fn := fun _ => fun
  | [d1, d2, d3, d4, d5, d6] => { results := [.lit (.bool false)], args := [d1, d2, d3, d4, d5, d6] }
  | _ => none }
def FnBallotStandingAgreesWithCastWrongFalsely : Prop := fnBallotStandingAgreesWithCastRow.holds Try.pinned (OpenSpec.ofChange fnBallotStandingAgreesWithCastWrong)

/-- 'zzlaws_internal_votes_b1.FnNewCountFreshAndEmpty': WHATEVER THE INPUT: true; the input reads as it did. -/
def fnNewCountFreshAndEmptySpec : ChangeSpec := { name := "fnNewCountFreshAndEmpty", fn := fun _ => fun
  | [d1, d2] => { results := [.lit (.bool true)], args := [d1, d2] }
  | _ => none }
def fnNewCountFreshAndEmptyRow : OpenClaim := { program := "qxb6613229a", sum := "b9acfcb5e9a6aca496f025578660d6f1cced098f0ae763f04d301ba8b8fffd0b", func := "example.com/cumulant/cumulant/zzlaws_internal_votes_b1.FnNewCountFreshAndEmpty", spec := "fnNewCountFreshAndEmpty", apart := false }
def FnNewCountFreshAndEmptySaid : Prop := fnNewCountFreshAndEmptyRow.holds Try.pinned (OpenSpec.ofChange fnNewCountFreshAndEmptySpec)

/-- ITS FALSE NEIGHBOUR: 'it returns false'. Refute it at one input. -/
def fnNewCountFreshAndEmptyWrong : ChangeSpec := { name := "fnNewCountFreshAndEmpty", fn := fun _ => fun
  | [d1, d2] => { results := [.lit (.bool false)], args := [d1, d2] }
  | _ => none }
def FnNewCountFreshAndEmptyWrongFalsely : Prop := fnNewCountFreshAndEmptyRow.holds Try.pinned (OpenSpec.ofChange fnNewCountFreshAndEmptyWrong)

end Rows
end Go.Proofs.Qxb6613229a
