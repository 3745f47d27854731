/-
  No cell of these rows narrows 'for every input' (looked for: loops, veiled, ifaces, maps, wideKeys, modest, calm, conditions, laid).
  DERIVED. THE GIVEN ROWS OF THIS SEAT. 2 by the template 'for every input the law returns true; each argument reads behind the call as it read before'; 0 by the template 'total and deterministic' (their statements: Qxb6618496aFmtTotals.lean).
  GIVEN WITH THE SEED: the statements are not yours to turn. If you find one false, say at which input.
  Laid BY PROGRAM, IN A SANDBOX (cutbox-rows.mjs): the forced cells as the released guide's own fill.sh prints them over the translation 26b377210fc5a669… (all of the seat's roots in one cut). By AI agents, Wed Nov 11 2026. No macro, syntax, notation, axiom, sorry.
-/
import Derived.Test.Qxb6618496aFmtChecked
import GoSem.Claim
import GoSem.ClaimJoined
import GoSem.ClaimMapViews
import Derived.JoinedTies
import Derived.KernelRfl
namespace Go.Proofs.Qxb6618496aFmt
/- THE CELL 'sum', in the pinned program and in every row, IS THE sha256 OF THE DUMP (.gsa) THAT Qxb6618496aFmtProg.lean LOADS. Nothing in Lean hashes anything: it is a label: what it is worth is what the hold of that sum in a sandbox is worth. -/
noncomputable def Tryf.pinned : Pinned := { name := "qxb6618496afmt", sum := "26b377210fc5a669a6a8d4d839a4e4f44a845c741d371e06bb15713a3892acc4", checked := Tryf.checked }
namespace Rows
def none {H : Type} : Left H := { results := [], args := [] }

/-- 'zzlaws_internal_amqp_b1.FnMethodStringSplicesClassAndId': WHATEVER THE INPUT: true; the input reads as it did. -/
def fnMethodStringSplicesClassAndIdSpec : ChangeSpec := { name := "fnMethodStringSplicesClassAndId", fn := fun _ => fun
  | [d1, d2] => { results := [.lit (.bool true)], args := [d1, d2] }
  | _ => none }
def fnMethodStringSplicesClassAndIdRow : OpenClaim := { program := "qxb6618496afmt", sum := "26b377210fc5a669a6a8d4d839a4e4f44a845c741d371e06bb15713a3892acc4", func := "example.com/outrider/outrider/zzlaws_internal_amqp_b1.FnMethodStringSplicesClassAndId", spec := "fnMethodStringSplicesClassAndId", stops := ["fmt.Sprintf, its operands' methods called"], inPlace := ["fmt.Sprintf"], unfollowed := true, recurses := true, apart := false }
/-- NO THEOREM (fmt's text is open here; it may be false): for the released tool's asking of the row's closed facts alone. THE STATEMENT IS 'FnMethodStringSplicesClassAndIdToldSaid' (Qxb6618496aFmtCards.lean). -/
def FnMethodStringSplicesClassAndIdFormAsk : Prop := fnMethodStringSplicesClassAndIdRow.holds Tryf.pinned (OpenSpec.ofChange fnMethodStringSplicesClassAndIdSpec)

/-- ITS FALSE NEIGHBOUR: 'it returns false'. Refute it at one input. -/
def fnMethodStringSplicesClassAndIdWrong : ChangeSpec := { name := "fnMethodStringSplicesClassAndId", fn := fun _ => fun
  | [d1, d2] => { results := [.lit (.bool false)], args := [d1, d2] }
  | _ => none }
def FnMethodStringSplicesClassAndIdWrongFormAsk : Prop := fnMethodStringSplicesClassAndIdRow.holds Tryf.pinned (OpenSpec.ofChange fnMethodStringSplicesClassAndIdWrong)

/-- 'zzlaws_internal_amqp_b1.FnMethodStringOrderAndInjective': WHATEVER THE INPUT: true; the input reads as it did. -/
def fnMethodStringOrderAndInjectiveSpec : ChangeSpec := { name := "fnMethodStringOrderAndInjective", fn := fun _ => fun
  | [d1, d2] => { results := [.lit (.bool true)], args := [d1, d2] }
  | _ => none }
def fnMethodStringOrderAndInjectiveRow : OpenClaim := { program := "qxb6618496afmt", sum := "26b377210fc5a669a6a8d4d839a4e4f44a845c741d371e06bb15713a3892acc4", func := "example.com/outrider/outrider/zzlaws_internal_amqp_b1.FnMethodStringOrderAndInjective", spec := "fnMethodStringOrderAndInjective", stops := ["fmt.Sprintf, its operands' methods called"], inPlace := ["fmt.Sprintf"], unfollowed := true, recurses := true, apart := false }
/-- NO THEOREM (fmt's text is open here; it may be false): for the released tool's asking of the row's closed facts alone. THE STATEMENT IS 'FnMethodStringOrderAndInjectiveToldSaid' (Qxb6618496aFmtCards.lean). -/
def FnMethodStringOrderAndInjectiveFormAsk : Prop := fnMethodStringOrderAndInjectiveRow.holds Tryf.pinned (OpenSpec.ofChange fnMethodStringOrderAndInjectiveSpec)

/-- ITS FALSE NEIGHBOUR: 'it returns false'. Refute it at one input. -/
def fnMethodStringOrderAndInjectiveWrong : ChangeSpec := { name := "fnMethodStringOrderAndInjective", fn := fun _ => fun
  | [d1, d2] => { results := [.lit (.bool false)], args := [d1, d2] }
  | _ => none }
def FnMethodStringOrderAndInjectiveWrongFormAsk : Prop := fnMethodStringOrderAndInjectiveRow.holds Tryf.pinned (OpenSpec.ofChange fnMethodStringOrderAndInjectiveWrong)

end Rows
end Go.Proofs.Qxb6618496aFmt
