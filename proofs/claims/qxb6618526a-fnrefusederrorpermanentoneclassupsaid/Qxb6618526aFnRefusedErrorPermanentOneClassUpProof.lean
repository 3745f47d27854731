/-
  THE ROW OF 'FnRefusedErrorPermanentOneClassUp', PROVED. The frame is the seat's own shell (proof-skeleton.mjs); the walk is filled in.
-/
import Derived.Test.Qxb6618526aRows
import Derived.WalkKit
import Derived.ProofKit
import Derived.OpenShut
import Derived.ShutString
namespace Go.Proofs.Qxb6618526a.fnRefusedErrorPermanentOneClassUp
open Go.ChangeShapes Go.WideShapes Go.ChangeAt Go.RowKit
open Go.ChangeMaps (open_string shut_string)
set_option linter.unusedVariables false      -- a walk need not use every 'w<i>' (that an integer argument fits its kind)

theorem own : ownKnob Try.prog.godebug = none := by kernel_rfl

/-! ### THE WALK: the Go text returns true. The cases are parted ahead of the walk. -/
theorem ret_bool {a b : Bool} (h : a = b) : Ending.returned (.bool a) = .returned (.bool b) := by rw [h]
theorem walk_long (a0 : Int) (a1 : ByteArray) (w : World) (w1 : (a1.size : Int) ≤ 9223372036854775807) (c2 : (1048576 : Int) < (a1.size : Int)) :
    Calls Try.prog 3 #[.int .i64 a0, .string a1] w fun e w' => e = .returned (.bool true) ∧ Grown w w' := by
  go_enter Try.func3, Try.ntmps3
  go_wp2
  go_ret
  exact ⟨ret_bool (rfl), by repeat (first | exact Grown.refl _ | apply Grown.drew | apply Grown.alloc)⟩
theorem walk_mid (a0 : Int) (a1 : ByteArray) (w : World) (c2 : (a1.size : Int) ≤ 1048576) (c1 : (65536 : Int) < (a1.size : Int)) :
    Calls Try.prog 3 #[.int .i64 a0, .string a1] w fun e w' => e = .returned (.bool true) ∧ Grown w w' := by
  go_enter Try.func3, Try.ntmps3
  go_wp2
  go_ret
  exact ⟨ret_bool (rfl), by repeat (first | exact Grown.refl _ | apply Grown.drew | apply Grown.alloc)⟩
theorem walk_top (a0 : Int) (a1 : ByteArray) (w : World) (c1 : (a1.size : Int) ≤ 65536) (c3 : (9223372036854775707 : Int) < a0) :
    Calls Try.prog 3 #[.int .i64 a0, .string a1] w fun e w' => e = .returned (.bool true) ∧ Grown w w' := by
  go_enter Try.func3, Try.ntmps3
  go_wp2
  go_ret
  exact ⟨ret_bool (rfl), by repeat (first | exact Grown.refl _ | apply Grown.drew | apply Grown.alloc)⟩
theorem walk_4 (a0 : Int) (a1 : ByteArray) (w : World) (l0 : -9223372036854775808 ≤ a0) (c1 : (a1.size : Int) ≤ 65536) (c3 : a0 ≤ 9223372036854775707) (d1 : a0 < 400) :
    Calls Try.prog 3 #[.int .i64 a0, .string a1] w fun e w' => e = .returned (.bool true) ∧ Grown w w' := by
  go_enter Try.func3, Try.ntmps3
  go_wp2
  go_ret
  exact ⟨ret_bool (by first | rfl | (simp; omega)), by repeat (first | exact Grown.refl _ | apply Grown.drew | apply Grown.alloc)⟩
theorem walk_5 (a0 : Int) (a1 : ByteArray) (w : World) (l0 : -9223372036854775808 ≤ a0) (c1 : (a1.size : Int) ≤ 65536) (c3 : a0 ≤ 9223372036854775707) (d1 : 400 ≤ a0) (d2 : a0 < 500) :
    Calls Try.prog 3 #[.int .i64 a0, .string a1] w fun e w' => e = .returned (.bool true) ∧ Grown w w' := by
  go_enter Try.func3, Try.ntmps3
  go_wp2
  go_ret
  exact ⟨ret_bool (by first | rfl | (simp; omega)), by repeat (first | exact Grown.refl _ | apply Grown.drew | apply Grown.alloc)⟩
theorem walk_6 (a0 : Int) (a1 : ByteArray) (w : World) (l0 : -9223372036854775808 ≤ a0) (c1 : (a1.size : Int) ≤ 65536) (c3 : a0 ≤ 9223372036854775707) (d1 : 500 ≤ a0) (d2 : a0 < 600) :
    Calls Try.prog 3 #[.int .i64 a0, .string a1] w fun e w' => e = .returned (.bool true) ∧ Grown w w' := by
  go_enter Try.func3, Try.ntmps3
  go_wp2
  go_ret
  exact ⟨ret_bool (by first | rfl | (simp; omega)), by repeat (first | exact Grown.refl _ | apply Grown.drew | apply Grown.alloc)⟩
theorem walk_7 (a0 : Int) (a1 : ByteArray) (w : World) (l0 : -9223372036854775808 ≤ a0) (c1 : (a1.size : Int) ≤ 65536) (c3 : a0 ≤ 9223372036854775707) (d1 : 600 ≤ a0) :
    Calls Try.prog 3 #[.int .i64 a0, .string a1] w fun e w' => e = .returned (.bool true) ∧ Grown w w' := by
  go_enter Try.func3, Try.ntmps3
  go_wp2
  go_ret
  exact ⟨ret_bool (by first | rfl | (simp; omega)), by repeat (first | exact Grown.refl _ | apply Grown.drew | apply Grown.alloc)⟩

theorem walk (a0 : Int) (a1 : ByteArray) (w0 : (Lit.int .i64 a0).wf = true) (w1 : a1.size ≤ maxLen) (w : World) :
    Calls Try.prog 3 #[.int .i64 a0, .string a1] w fun e w' => e = .returned (.bool true) ∧ Grown w w' := by
  unfold maxLen at w1
  have hmin : IntKind.i64.min = -9223372036854775808 := by decide
  have hmax : IntKind.i64.max = 9223372036854775807 := by decide
  simp only [Lit.wf, hmin, hmax, Bool.and_eq_true, decide_eq_true_eq] at w0
  by_cases c2 : (1048576 : Int) < (a1.size : Int)
  · exact walk_long a0 a1 w (by omega) c2
  by_cases c1 : (65536 : Int) < (a1.size : Int)
  · exact walk_mid a0 a1 w (by omega) c1
  by_cases c3 : (9223372036854775707 : Int) < a0
  · exact walk_top a0 a1 w (by omega) c3
  by_cases d1 : a0 < 400
  · exact walk_4 a0 a1 w w0.1 (by omega) (by omega) d1
  by_cases d2 : a0 < 500
  · exact walk_5 a0 a1 w w0.1 (by omega) (by omega) (by omega) d2
  by_cases d3 : a0 < 600
  · exact walk_6 a0 a1 w w0.1 (by omega) (by omega) (by omega) d3
  · exact walk_7 a0 a1 w w0.1 (by omega) (by omega) (by omega)

/-! ### THE ROW's STEP: WRITTEN OUT: LEAVE IT -/
set_option maxRecDepth 100000 in
theorem lifted (os : Os) (started : os.Started) (H : Type) (enc : TypeId × Value → H) :
    ReturnsInHanded {} Try.checked os 3 .any (Rows.fnRefusedErrorPermanentOneClassUpSpec.pre6 enc Try.prog Try.f3 Rows.fnRefusedErrorPermanentOneClassUpRow.domain false) (Rows.fnRefusedErrorPermanentOneClassUpSpec.post enc Try.prog Try.f3 false true false false) := by
  refine returnsInHanded_of_change (C := Try.checked) own started (by kernel_rfl) Try.func3
    (ChangeSpec.witness6 (enc := enc) (C := Try.checked) false ⟨#[], #[.int .i64 0, .string ByteArray.empty], []⟩ 8 (by kernel_rfl) (by kernel_rfl) (by kernel_rfl) (by kernel_rfl)) ?_
  intro W base args ds gs before hval0 hW hcnd _
  have hval : ∀ (j : Nat) t v, Try.f3.params[j]? = some t → args[j]? = some v → Value.okWide Try.prog W .any base t v := hval0
  have hW' := hW
  obtain ⟨p, q, hA0, hV, rfl, hfz, hnd⟩ := hW
  have hA : DataW.TrodAll enc Try.prog W 0 (fun _ => true) true Try.f3.params.toList args.toList ds p := hA0
  rw [Try.params3] at hA hval
  obtain ⟨v0, vs0, d0, ds0, p0, q0, hargs, rfl, rfl, h0, r0⟩ := trodAll_cons hA
  obtain ⟨v1, vs1, d1, ds1, p1, q1, rfl, rfl, rfl, h1, r1⟩ := trodAll_cons r0
  obtain ⟨rfl, rfl, rfl⟩ := trodAll_nil r1
  obtain rfl : args = #[v0, v1] := by cases args; simp_all
  obtain ⟨rfl, rfl⟩ := trodVars_none hV
  obtain ⟨a0, rfl, rfl, rfl, w0⟩ := open_int Try.underlying3 (hval 0 3 v0 rfl rfl) h0
  obtain ⟨a1, rfl, rfl, rfl, w1⟩ := open_string Try.underlying9 (hval 1 9 v1 rfl rfl) h1
  clear hA0 hval0
  simp only [List.append_nil] at hW'
  refine (walk a0 a1 w0 w1 W).mono fun e W' ⟨he, hg⟩ => ?_
  subst he
  exact ⟨_, rfl, post_of_same (pa := []) (pv := []) hW' (fun _ _ _ => (trodAll_cons_mk (shut_bool Try.underlying4 _) trodAll_mk0)) (fun sp _ => (trodAll_cons_mk (shut_int Try.underlying3 w0) (trodAll_cons_mk (shut_string Try.underlying9 w1) trodAll_mk0))) (fun _ _ => rfl) rfl
    (hg.frame _) hg.2.1 (ok_one (by kernel_rfl) rfl (okWide_bool_mk Try.underlying4 _))⟩

theorem over : Rows.fnRefusedErrorPermanentOneClassUpRow.holds Try.pinned (OpenSpec.ofChange Rows.fnRefusedErrorPermanentOneClassUpSpec) :=
  OpenClaim.holds_of_wide 3 Try.f3 rfl rfl rfl rfl rfl rfl rfl ⟨rfl, rfl, rfl, rfl, rfl⟩ rfl rfl rfl rfl rfl (by kernel_rfl) Try.func3 (by kernel_rfl)
    (of_decide_eq_true (by kernel_rfl)) (by unfold Func.isWrapper; first | (rw [if_pos (by decide +kernel)]; kernel_rfl) | (rw [if_neg (by decide +kernel)]; exact ⟨rfl, rfl⟩))
    (fun os started H enc _ => lifted os started H enc)

/-- ████ THE STATEMENT ████ -/
theorem proved : Rows.FnRefusedErrorPermanentOneClassUpSaid :=
  over
end Go.Proofs.Qxb6618526a.fnRefusedErrorPermanentOneClassUp

namespace Go.Proofs.Qxb6618526a
/-- THE STATEMENT, PROVED. -/
theorem refused_holds : Rows.FnRefusedErrorPermanentOneClassUpSaid := fnRefusedErrorPermanentOneClassUp.proved
end Go.Proofs.Qxb6618526a
