/-
  No cell of these rows narrows 'for every input' (looked for: loops, veiled, ifaces, maps, wideKeys, modest, calm, conditions, laid).
  DERIVED. THE GIVEN ROWS OF THIS SEAT. 1 by the template 'for every input the law returns true; each argument reads behind the call as it read before'; 0 by the template 'total and deterministic' (their statements: Qxb6618526aTotals.lean).
  GIVEN WITH THE SEED: the statements are not yours to turn. If you find one false, say at which input.
  Laid BY PROGRAM, IN A SANDBOX (cutbox-rows.mjs): the forced cells as the released guide's own fill.sh prints them over the translation 75f497d6459a9c30… (all of the seat's roots in one cut). By AI agents, Wed Nov 11 2026. No macro, syntax, notation, axiom, sorry.
-/
import Derived.Test.Qxb6618526aChecked
import GoSem.Claim
import GoSem.ClaimJoined
import GoSem.ClaimMapViews
import Derived.JoinedTies
import Derived.KernelRfl
namespace Go.Proofs.Qxb6618526a
/- THE CELL 'sum', in the pinned program and in every row, IS THE sha256 OF THE DUMP (.gsa) THAT Qxb6618526aProg.lean LOADS. Nothing in Lean hashes anything: it is a label: what it is worth is what the hold of that sum in a sandbox is worth. -/
noncomputable def Try.pinned : Pinned := { name := "qxb6618526a", sum := "75f497d6459a9c30357266a2edea6d67368e60002789f79a89a20ccd135ff551", checked := Try.checked }
namespace Rows
def none {H : Type} : Left H := { results := [], args := [] }

/-- 'zzlaws_mail_b1.FnRefusedErrorPermanentOneClassUp': WHATEVER THE INPUT: true; the input reads as it did. -/
def fnRefusedErrorPermanentOneClassUpSpec : ChangeSpec := { name := "fnRefusedErrorPermanentOneClassUp", fn := fun _ => fun
  | [d1, d2] => { results := [.lit (.bool true)], args := [d1, d2] }
  | _ => none }
def fnRefusedErrorPermanentOneClassUpRow : OpenClaim := { program := "qxb6618526a", sum := "75f497d6459a9c30357266a2edea6d67368e60002789f79a89a20ccd135ff551", func := "example.com/taperwick/taperwick/zzlaws_mail_b1.FnRefusedErrorPermanentOneClassUp", spec := "fnRefusedErrorPermanentOneClassUp", apart := false }
def FnRefusedErrorPermanentOneClassUpSaid : Prop := fnRefusedErrorPermanentOneClassUpRow.holds Try.pinned (OpenSpec.ofChange fnRefusedErrorPermanentOneClassUpSpec)

/-- ITS FALSE NEIGHBOUR: 'it returns false'. Refute it at one input. -/
def fnRefusedErrorPermanentOneClassUpWrong : ChangeSpec := { name := "fnRefusedErrorPermanentOneClassUp", fn := fun _ => fun
  | [d1, d2] => { results := [.lit (.bool false)], args := [d1, d2] }
  | _ => none }
def FnRefusedErrorPermanentOneClassUpWrongFalsely : Prop := fnRefusedErrorPermanentOneClassUpRow.holds Try.pinned (OpenSpec.ofChange fnRefusedErrorPermanentOneClassUpWrong)

end Rows
end Go.Proofs.Qxb6618526a
