/-
  fmt's TEXT TOLD: what the Sprintf of this program gives.
-/
import Derived.Test.Qxb6618496aFmtWe
import Derived.Stop.JoinedAt
import Derived.Stop.Texts
import Derived.Stop.JoinedTold
import Derived.Stop.FmtTextKit
namespace Go.Proofs.Qxb6618496aFmt
open Go.RowKit Go.Lib Go.Kit
open Go.Extern.Stop Go.Stop Go.Extern

theorem t_parse : (FmtText.parse [37, 100, 46, 37, 100]).map FmtText.glue = some [.verb {} 100, .lit [46], .verb {} 100] := by rfl

theorem wf32 (c : Nat) (h : c ≤ 4294967295) : (Lit.int .u32 (c : Int)).wf = true := by
  have h0 : IntKind.u32.min = 0 := by decide
  have h1 : IntKind.u32.max = 4294967295 := by decide
  simp only [Lit.wf, h0, h1, Bool.and_eq_true, decide_eq_true_eq]
  omega

theorem t_text (c i : Nat) (hc : c ≤ 65535) (hi : i ≤ 65535) : FmtText.text "fmt.Sprintf" (reading c i) = some (decDigits c ++ 46 :: decDigits i) := by
  have w1 := wf32 c (by omega)
  have w2 := wf32 i (by omega)
  have o1 := FmtText.operand_int_at (sh := shape30) (k := .u32) rfl rfl (c : Int) w1
  have o2 := FmtText.operand_int_at (sh := shape30) (k := .u32) rfl rfl (i : Int) w2
  rw [reading, FmtText.text_sprintf_glued t_parse (FmtText.operands_cons o1 (FmtText.operands_cons o2 FmtText.operands_nil))]
  simp [FmtText.render, FmtText.printArg_d _ _ w1, FmtText.printArg_d _ _ w2, itoa_nonneg]

theorem told_txt (F : Interp) (c i : Nat) (hc : c ≤ 65535) (hi : i ≤ 65535) : FmtStop.textOf (F.told "fmt.Sprintf" (reading c i) 0) = txt c i := by
  apply ext_eq
  have h1 := len5 c hc
  have h2 := len5 i hi
  rw [textOf_list, told_string F (t_text c i hc hi) (by simp; omega), txt_list]

theorem string_told (F : Interp) (c i : Nat) (w : World) (hc : c ≤ 65535) (hi : i ≤ 65535) (hF : F.told.answers w.tape) :
    Calls Tryf.prog 5 #[.int .u32 (c * 65536 + i)] w fun e w' => e = .returned (.string (txt c i)) ∧ Below w.heap.size w w' := by
  have h := string5 F.told (c * 65536 + i) w (by omega) (by omega) hF
  rw [show ((c : Int) * 65536 + i) / 65536 = (c : Int) by omega, show ((c : Int) * 65536 + i) % 65536 = (i : Int) by omega, told_txt F c i hc hi] at h
  exact h
end Go.Proofs.Qxb6618496aFmt
