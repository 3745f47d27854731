/-
  DERIVED. GIVEN WITH THE SEED: THE CARDS: each row of Qxb6618496aFmtRows.lean that lists a variable, with what it lists TIED to the program's text (the seventh form; the later family's looks); each row that meets fmt, with fmt's text TOLD by the authors' own Lean function (tested against real Go, not proved from fmt's source: count such statements apart). THE CARD IS WHAT COUNTS. Prove the row's statement (the work); the ties are given (Qxb6618496aFmtTie.lean); close each card by the builder's one call (the guide's Derived/Test/ToyasCard.lean, 'card_holds'). Laid BY PROGRAM, IN A SANDBOX (cutbox-door.mjs). By AI agents, Wed Nov 11 2026. No macro, syntax, notation, axiom, sorry.
-/
import Derived.Test.Qxb6618496aFmtRows
import GoSem.ClaimSeven
namespace Go.Proofs.Qxb6618496aFmt
namespace Rows

/-- THE TOLD CARD OF 'zzlaws_internal_amqp_b1.FnMethodStringSplicesClassAndId'. -/
def fnMethodStringSplicesClassAndIdCard : Claim7 := { stood := { row := fnMethodStringSplicesClassAndIdRow, standIns := [], harness := (true, "4b0678eb2092f952a26fb3a0aefef8fb633e75e31fc40c6ab85d170e174208dc"), looks := false }, told := true, goes := false }
def FnMethodStringSplicesClassAndIdToldSaid : Prop := Claim7.holds Tryf.pinned (.plain (OpenSpec.ofChange fnMethodStringSplicesClassAndIdSpec)) fnMethodStringSplicesClassAndIdCard
/-- ITS FALSE NEIGHBOUR. Refute it at one input. -/
def FnMethodStringSplicesClassAndIdToldWrongFalsely : Prop := Claim7.holds Tryf.pinned (.plain (OpenSpec.ofChange fnMethodStringSplicesClassAndIdWrong)) fnMethodStringSplicesClassAndIdCard

/-- THE TOLD CARD OF 'zzlaws_internal_amqp_b1.FnMethodStringOrderAndInjective'. -/
def fnMethodStringOrderAndInjectiveCard : Claim7 := { stood := { row := fnMethodStringOrderAndInjectiveRow, standIns := [], harness := (true, "4b0678eb2092f952a26fb3a0aefef8fb633e75e31fc40c6ab85d170e174208dc"), looks := false }, told := true, goes := false }
def FnMethodStringOrderAndInjectiveToldSaid : Prop := Claim7.holds Tryf.pinned (.plain (OpenSpec.ofChange fnMethodStringOrderAndInjectiveSpec)) fnMethodStringOrderAndInjectiveCard
/-- ITS FALSE NEIGHBOUR. Refute it at one input. -/
def FnMethodStringOrderAndInjectiveToldWrongFalsely : Prop := Claim7.holds Tryf.pinned (.plain (OpenSpec.ofChange fnMethodStringOrderAndInjectiveWrong)) fnMethodStringOrderAndInjectiveCard
end Rows
end Go.Proofs.Qxb6618496aFmt
