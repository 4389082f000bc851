/-
  No cell of these rows narrows 'for every input' (looked for: loops, veiled, ifaces, maps, wideKeys, modest, calm, conditions, laid).
  DERIVED. THE GIVEN ROWS OF THIS SEAT. 2 by the template 'for every input the law returns true; each argument reads behind the call as it read before'; 0 by the template 'total and deterministic' (their statements: Qxb6613108aFmtTotals.lean).
  GIVEN WITH THE SEED: the statements are not yours to turn. If you find one false, say at which input.
  Laid BY PROGRAM, IN A SANDBOX (cutbox-rows.mjs): the forced cells as the released guide's own fill.sh prints them over the translation bfc9432feaeea307… (all of the seat's roots in one cut). By AI agents, Wed Nov 11 2026. No macro, syntax, notation, axiom, sorry.
-/
import Derived.Test.Qxb6613108aFmtChecked
import GoSem.Claim
import GoSem.ClaimJoined
import GoSem.ClaimMapViews
import Derived.JoinedTies
import Derived.KernelRfl
namespace Go.Proofs.Qxb6613108aFmt
/- THE CELL 'sum', in the pinned program and in every row, IS THE sha256 OF THE DUMP (.gsa) THAT Qxb6613108aFmtProg.lean LOADS. Nothing in Lean hashes anything: it is a label: what it is worth is what the hold of that sum in a sandbox is worth. -/
noncomputable def Tryf.pinned : Pinned := { name := "qxb6613108afmt", sum := "bfc9432feaeea3071ce9426f80faf265bf09814739cdbe73162b6277eb6db0d4", checked := Tryf.checked }
namespace Rows
def none {H : Type} : Left H := { results := [], args := [] }

/-- 'zzlaws_root_b1.FnTooLongFreshAndAgreesWithRefuse': WHATEVER THE INPUT: true; the input reads as it did. -/
def fnTooLongFreshAndAgreesWithRefuseSpec : ChangeSpec := { name := "fnTooLongFreshAndAgreesWithRefuse", fn := fun _ => fun
  | [d1, d2, d3] => { results := [.lit (.bool true)], args := [d1, d2, d3] }
  | _ => none }
def fnTooLongFreshAndAgreesWithRefuseRow : OpenClaim := { program := "qxb6613108afmt", sum := "bfc9432feaeea3071ce9426f80faf265bf09814739cdbe73162b6277eb6db0d4", func := "example.com/apportion/apportion/zzlaws_root_b1.FnTooLongFreshAndAgreesWithRefuse", spec := "fnTooLongFreshAndAgreesWithRefuse", stops := ["fmt.Sprintf, its operands' methods called"], inPlace := ["fmt.Sprintf"], unfollowed := true, recurses := true, apart := false }
/-- NO THEOREM (fmt's text is open here; it may be false): for the released tool's asking of the row's closed facts alone. THE STATEMENT IS 'FnTooLongFreshAndAgreesWithRefuseToldSaid' (Qxb6613108aFmtCards.lean). -/
def FnTooLongFreshAndAgreesWithRefuseFormAsk : Prop := fnTooLongFreshAndAgreesWithRefuseRow.holds Tryf.pinned (OpenSpec.ofChange fnTooLongFreshAndAgreesWithRefuseSpec)

/-- ITS FALSE NEIGHBOUR: 'it returns false'. Refute it at one input. -/
def fnTooLongFreshAndAgreesWithRefuseWrong : ChangeSpec := { name := "fnTooLongFreshAndAgreesWithRefuse", fn := fun _ => fun
  | [d1, d2, d3] => { results := [.lit (.bool false)], args := [d1, d2, d3] }
  | _ => none }
def FnTooLongFreshAndAgreesWithRefuseWrongFormAsk : Prop := fnTooLongFreshAndAgreesWithRefuseRow.holds Tryf.pinned (OpenSpec.ofChange fnTooLongFreshAndAgreesWithRefuseWrong)

/-- 'zzlaws_root_b1.FnRefuseFreshEachCall': WHATEVER THE INPUT: true; the input reads as it did. -/
def fnRefuseFreshEachCallSpec : ChangeSpec := { name := "fnRefuseFreshEachCall", fn := fun _ => fun
  | [d1, d2, d3] => { results := [.lit (.bool true)], args := [d1, d2, d3] }
  | _ => none }
def fnRefuseFreshEachCallRow : OpenClaim := { program := "qxb6613108afmt", sum := "bfc9432feaeea3071ce9426f80faf265bf09814739cdbe73162b6277eb6db0d4", func := "example.com/apportion/apportion/zzlaws_root_b1.FnRefuseFreshEachCall", spec := "fnRefuseFreshEachCall", stops := ["fmt.Sprintf, its operands' methods called"], inPlace := ["fmt.Sprintf"], unfollowed := true, recurses := true, apart := false }
/-- NO THEOREM (fmt's text is open here; it may be false): for the released tool's asking of the row's closed facts alone. THE STATEMENT IS 'FnRefuseFreshEachCallToldSaid' (Qxb6613108aFmtCards.lean). -/
def FnRefuseFreshEachCallFormAsk : Prop := fnRefuseFreshEachCallRow.holds Tryf.pinned (OpenSpec.ofChange fnRefuseFreshEachCallSpec)

/-- ITS FALSE NEIGHBOUR: 'it returns false'. Refute it at one input. -/
def fnRefuseFreshEachCallWrong : ChangeSpec := { name := "fnRefuseFreshEachCall", fn := fun _ => fun
  | [d1, d2, d3] => { results := [.lit (.bool false)], args := [d1, d2, d3] }
  | _ => none }
def FnRefuseFreshEachCallWrongFormAsk : Prop := fnRefuseFreshEachCallRow.holds Tryf.pinned (OpenSpec.ofChange fnRefuseFreshEachCallWrong)

end Rows
end Go.Proofs.Qxb6613108aFmt
