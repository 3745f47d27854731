/-
  NARROWER THAN 'FOR EVERY INPUT', by the rows' own cells (each row's printed sentence says how): FnStringReadsBackThroughNumbers: ifaces, laid.
  DERIVED. THE GIVEN ROWS OF THIS SEAT. 1 by the template 'for every input the law returns true; each argument reads behind the call as it read before'; 0 by the template 'total and deterministic' (their statements: Qxb6618523aDoorRRTotals.lean).
  GIVEN WITH THE SEED: the statements are not yours to turn. If you find one false, say at which input.
  Laid BY PROGRAM, IN A SANDBOX (cutbox-rows.mjs): the forced cells as the released guide's own fill.sh prints them over the translation 8d6a17fb259a0bae… (all of the seat's roots in one cut). By AI agents, Wed Nov 11 2026. No macro, syntax, notation, axiom, sorry.
-/
import Derived.Test.Qxb6618523aDoorRRChecked
import GoSem.Claim
import GoSem.ClaimJoined
import GoSem.ClaimMapViews
import Derived.JoinedTies
import Derived.KernelRfl
namespace Go.Proofs.Qxb6618523aDoorRR
/- THE CELL 'sum', in the pinned program and in every row, IS THE sha256 OF THE DUMP (.gsa) THAT Qxb6618523aDoorRRProg.lean LOADS. Nothing in Lean hashes anything: it is a label: what it is worth is what the hold of that sum in a sandbox is worth. -/
noncomputable def Tryd.pinned : Pinned := { name := "qxb6618523adoorrr", sum := "8d6a17fb259a0baef0ba08d9d66556927f8a10a5cfd85b77a581823755851b90", checked := Tryd.checked }
namespace Rows
def none {H : Type} : Left H := { results := [], args := [] }

/- WHAT THE LISTED PACKAGE-LEVEL VARIABLES READ AS WHEN THE CALL BEGINS. Each datum BY PROGRAM (the guide's laid-datum.mjs) off the statement by which the dump's own 'gosem.cut.vars' lays the variable. In a bare row this is a premise. The card (Qxb6618523aDoorRRCards.lean) ties it to the program's text. -/
def laid_io_ErrShortBuffer {H : Type} : DataW H := .iface "*errors.errorString" (.ptr (.agg [.lit (.string [115, 104, 111, 114, 116, 32, 98, 117, 102, 102, 101, 114])]))
def laid_io_EOF {H : Type} : DataW H := .iface "*errors.errorString" (.ptr (.agg [.lit (.string [69, 79, 70])]))
def laid_io_ErrUnexpectedEOF {H : Type} : DataW H := .iface "*errors.errorString" (.ptr (.agg [.lit (.string [117, 110, 101, 120, 112, 101, 99, 116, 101, 100, 32, 69, 79, 70])]))
def laid_coppice_example_coppice_internal_tree_errBadState {H : Type} : DataW H := .iface "*errors.errorString" (.ptr (.agg [.lit (.string [110, 111, 116, 32, 97, 32, 115, 116, 97, 116, 101, 32, 116, 104, 97, 116, 32, 119, 97, 115, 32, 119, 114, 105, 116, 116, 101, 110])]))
def laid_coppice_example_coppice_internal_tree_topBits {H : Type} : DataW H := .agg [.lit (.int .u64 0), .lit (.int .u64 128), .lit (.int .u64 32896), .lit (.int .u64 8421504), .lit (.int .u64 2155905152), .lit (.int .u64 551911719040), .lit (.int .u64 141289400074368), .lit (.int .u64 36170086419038336), .lit (.int .u64 9259542123273814144)]

/-- 'zzlaws_internal_tree_b1.FnStringReadsBackThroughNumbers': WHATEVER THE INPUT: true; the input reads as it did. -/
def fnStringReadsBackThroughNumbersSpec : ChangeSpec := { name := "fnStringReadsBackThroughNumbers", vars := ["coppice.example/coppice/internal/tree.topBits", "coppice.example/coppice/internal/tree.errBadState"], fn := fun _ => fun
  | [d, g1, g2] => { results := [.lit (.bool true)], args := [d], vars := [g1, g2] }
  | _ => none }
def fnStringReadsBackThroughNumbersRow : OpenClaim := { program := "qxb6618523adoorrr", sum := "8d6a17fb259a0baef0ba08d9d66556927f8a10a5cfd85b77a581823755851b90", func := "coppice.example/coppice/zzlaws_internal_tree_b1.FnStringReadsBackThroughNumbers", spec := "fnStringReadsBackThroughNumbers", unfollowed := true, recurses := true, named := ["encoding/binary.LittleEndian", "coppice.example/coppice/internal/tree.topBits", "coppice.example/coppice/internal/tree.errBadState", "io.EOF", "io.ErrUnexpectedEOF", "io.ErrShortBuffer"], ifaces := true, apart := false, laid := [("io.ErrShortBuffer", laid_io_ErrShortBuffer), ("io.EOF", laid_io_EOF), ("io.ErrUnexpectedEOF", laid_io_ErrUnexpectedEOF), ("coppice.example/coppice/internal/tree.errBadState", laid_coppice_example_coppice_internal_tree_errBadState), ("coppice.example/coppice/internal/tree.topBits", laid_coppice_example_coppice_internal_tree_topBits)] }
def FnStringReadsBackThroughNumbersSaid : Prop := fnStringReadsBackThroughNumbersRow.holds Tryd.pinned (OpenSpec.ofChange fnStringReadsBackThroughNumbersSpec)

/-- ITS FALSE NEIGHBOUR: 'it returns false'. Refute it at one input. -/
def fnStringReadsBackThroughNumbersWrong : ChangeSpec := { name := "fnStringReadsBackThroughNumbers", vars := ["coppice.example/coppice/internal/tree.topBits", "coppice.example/coppice/internal/tree.errBadState"], fn := fun _ => fun
  | [d, g1, g2] => { results := [.lit (.bool false)], args := [d], vars := [g1, g2] }
  | _ => none }
def FnStringReadsBackThroughNumbersWrongFalsely : Prop := fnStringReadsBackThroughNumbersRow.holds Tryd.pinned (OpenSpec.ofChange fnStringReadsBackThroughNumbersWrong)

end Rows
end Go.Proofs.Qxb6618523aDoorRR
