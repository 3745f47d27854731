/-
  THE WALKS of (method).String and ZZmethodString, for every F.
-/
import Derived.Test.Qxb6618496aFmtFacts
import Derived.Test.Qxb6618496aFmtPlain
import Derived.WalkKit
import Derived.WalkSpells
import Derived.WalkLawsBesides
namespace Go.Proofs.Qxb6618496aFmt
open Go.RowKit Go.Extern.Stop Go.Stop Go.Extern
attribute [local go_sem] t_call11 t_guard t_fmt t_fmtr t_act30 t_op30 t_str30

def reading (c i : Int) : List (List UInt8) :=
  [[37, 100, 46, 37, 100], shape30, digits 8 (c % 18446744073709551616).toNat, shape30, digits 8 (i % 18446744073709551616).toNat]

set_option maxHeartbeats 400000 in
theorem string9 (F : Interp) (m : Int) (w : World) (h0 : 0 ≤ m) (h1 : m ≤ 4294967295) (hF : F.answers w.tape) :
    Calls Tryf.prog 9 #[.int .u32 m] w fun e w' => e = .returned (.string (FmtStop.textOf (F "fmt.Sprintf" (reading (m / 65536) (m % 65536)) 0))) ∧ Below w.heap.size w w' := by
  have hF' := answers_open hF
  have hb := and16 m h0 h1
  go_enter Tryf.func9, Tryf.ntmps9
  go_wp2
  apply rows_value t_nextTurns
  case hr =>
    go_simp
    exact ⟨rfl, rfl⟩
  case h =>
    go_wp2
    go_ret
    exact ⟨rfl, ((Below.refl _ _).alloc (Nat.le_refl _) _).drew⟩

set_option maxHeartbeats 400000 in
theorem string5 (F : Interp) (m : Int) (w : World) (h0 : 0 ≤ m) (h1 : m ≤ 4294967295) (hF : F.answers w.tape) :
    Calls Tryf.prog 5 #[.int .u32 m] w fun e w' => e = .returned (.string (FmtStop.textOf (F "fmt.Sprintf" (reading (m / 65536) (m % 65536)) 0))) ∧ Below w.heap.size w w' := by
  go_enter Tryf.func5, Tryf.ntmps5
  go_wp2_with fail
  refine (string9 F m _ h0 h1 (by exact hF)).mono ?_
  rintro e w' ⟨rfl, hb⟩
  go_wp2
  go_ret
  exact ⟨rfl, hb⟩
end Go.Proofs.Qxb6618496aFmt
