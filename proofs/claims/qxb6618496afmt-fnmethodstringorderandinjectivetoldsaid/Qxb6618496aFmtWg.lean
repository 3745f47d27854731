/-
  THE WALK of FnMethodStringSplicesClassAndId.
-/
import Derived.Test.Qxb6618496aFmtWf
namespace Go.Proofs.Qxb6618496aFmt
open Go.RowKit Go.Lib Go.Kit
open Go.Extern.Stop Go.Stop Go.Extern

theorem ret_bool {a b : Bool} (h : a = b) : Ending.returned (.bool a) = .returned (.bool b) := by rw [h]
theorem joined (c i : Nat) : dg1 c ++ { data := #[46] } ++ dg1 i = txt c i := by
  apply ext_eq
  rw [txt_list, ByteArray.data_append, ByteArray.data_append]
  simp [dg1]
theorem dg5 (c : Nat) (h : c ≤ 65535) : (dg1 c).size ≤ 5 := by rw [dg1_size]; exact len5 c h

set_option maxHeartbeats 400000 in
theorem walk3 (F : Interp) (c1 i1 c2 i2 : Nat) (w : World) (hc1 : c1 ≤ 65535) (hi1 : i1 ≤ 65535) (hc2 : c2 ≤ 65535) (hi2 : i2 ≤ 65535) (hF : F.told.answers w.tape) :
    Calls Tryf.prog 3 #[.int .u32 (c1 * 65536 + i1), .int .u32 (c2 * 65536 + i2)] w fun e w' => e = .returned (.bool true) ∧ Below w.heap.size w w' := by
  have hA : bits .andNot .u32 (c1 * 65536 + i1) 65535 = (c1 : Int) * 65536 := by rw [andNot16 _ (by omega) (by omega)]; omega
  have hB : bits .and .u32 (c2 * 65536 + i2) 65535 = (i2 : Int) := by rw [and16 _ (by omega) (by omega)]; omega
  have hO := or16 c1 i2 (by omega) (by omega) (by omega) (by omega)
  have z1 := dg5 c1 hc1
  have z2 := dg5 i2 hi2
  go_enter Tryf.func3, Tryf.ntmps3
  go_wp2_with fail
  refine (string_told F c1 i1 _ hc1 hi1 (by exact hF)).mono ?_
  rintro e w1 ⟨rfl, hb1⟩
  go_wp2_with fail
  refine (string_told F c2 i2 _ hc2 hi2 (by rw [hb1.tape]; exact hF)).mono ?_
  rintro e w2 ⟨rfl, hb2⟩
  go_wp2_with fail
  refine (string_told F c1 i2 _ hc1 hi2 (by rw [hb2.tape, hb1.tape]; exact hF)).mono ?_
  rintro e w3 ⟨rfl, hb3⟩
  have hb : Below w.heap.size w w3 := (hb1.trans (hb2.mono hb1.size)).trans (hb3.mono (Nat.le_trans hb1.size hb2.size))
  clear hb1 hb2 hb3
  go_wp2_with fail
  refine (decode6 c1 i1 _ hc1 hi1).mono ?_
  rintro e w' ⟨rfl, n1, rfl⟩
  go_wp2_with fail
  refine (decode6 c2 i2 _ hc2 hi2).mono ?_
  rintro e w' ⟨rfl, n2, rfl⟩
  go_wp2_with fail
  refine (split_txt c1 i1 _ hc1 hi1).mono ?_
  rintro e w' ⟨rfl, n3, rfl⟩
  go_wp2_with fail
  refine (split_txt c2 i2 _ hc2 hi2).mono ?_
  rintro e w' ⟨rfl, n4, rfl⟩
  go_wp2
  go_ret
  exact ⟨ret_bool (by rw [joined]; simp), below_drewN hb _⟩
end Go.Proofs.Qxb6618496aFmt
