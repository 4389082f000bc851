/-
  DERIVED. GIVEN WITH THE SEED: THE CARDS: each row of Qxb6613108aFmtRows.lean that lists a variable, with what it lists TIED to the program's text (the seventh form; the later family's looks); each row that meets fmt, with fmt's text TOLD by the authors' own Lean function (tested against real Go, not proved from fmt's source: count such statements apart). THE CARD IS WHAT COUNTS. Prove the row's statement (the work); the ties are given (Qxb6613108aFmtTie.lean); close each card by the builder's one call (the guide's Derived/Test/ToyasCard.lean, 'card_holds'). Laid BY PROGRAM, IN A SANDBOX (cutbox-door.mjs). By AI agents, Wed Nov 11 2026. No macro, syntax, notation, axiom, sorry.
-/
import Derived.Test.Qxb6613108aFmtRows
import GoSem.ClaimSeven
namespace Go.Proofs.Qxb6613108aFmt
namespace Rows

/-- THE TOLD CARD OF 'zzlaws_root_b1.FnTooLongFreshAndAgreesWithRefuse'. -/
def fnTooLongFreshAndAgreesWithRefuseCard : Claim7 := { stood := { row := fnTooLongFreshAndAgreesWithRefuseRow, standIns := [], harness := (true, "def3cb604b771f851b44b6b7e898ec325a2e84748d6a84dd0f1996d16e6ddf34"), looks := false }, told := true, goes := false }
def FnTooLongFreshAndAgreesWithRefuseToldSaid : Prop := Claim7.holds Tryf.pinned (.plain (OpenSpec.ofChange fnTooLongFreshAndAgreesWithRefuseSpec)) fnTooLongFreshAndAgreesWithRefuseCard
/-- ITS FALSE NEIGHBOUR. Refute it at one input. -/
def FnTooLongFreshAndAgreesWithRefuseToldWrongFalsely : Prop := Claim7.holds Tryf.pinned (.plain (OpenSpec.ofChange fnTooLongFreshAndAgreesWithRefuseWrong)) fnTooLongFreshAndAgreesWithRefuseCard

/-- THE TOLD CARD OF 'zzlaws_root_b1.FnRefuseFreshEachCall'. -/
def fnRefuseFreshEachCallCard : Claim7 := { stood := { row := fnRefuseFreshEachCallRow, standIns := [], harness := (true, "def3cb604b771f851b44b6b7e898ec325a2e84748d6a84dd0f1996d16e6ddf34"), looks := false }, told := true, goes := false }
def FnRefuseFreshEachCallToldSaid : Prop := Claim7.holds Tryf.pinned (.plain (OpenSpec.ofChange fnRefuseFreshEachCallSpec)) fnRefuseFreshEachCallCard
/-- ITS FALSE NEIGHBOUR. Refute it at one input. -/
def FnRefuseFreshEachCallToldWrongFalsely : Prop := Claim7.holds Tryf.pinned (.plain (OpenSpec.ofChange fnRefuseFreshEachCallWrong)) fnRefuseFreshEachCallCard
end Rows
end Go.Proofs.Qxb6613108aFmt
