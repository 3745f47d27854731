/-
  THE WALK of FnMethodStringOrderAndInjective.
-/
import Derived.Test.Qxb6618496aFmtWg
namespace Go.Proofs.Qxb6618496aFmt
open Go.RowKit Go.Lib Go.Kit
open Go.Extern.Stop Go.Stop Go.Extern

theorem cmp_dg (a b : Nat) (w : World) (ha : a ≤ 65535) :
    Calls Tryf.prog 8 #[.string (dg1 a), .string (dg1 b)] w fun e w' => e = .returned (.int .i64 (cmpN a b)) ∧ ∃ n, w' = w.drewN n :=
  cmp8 (dg1 a) (dg1 b) a b w (by rw [dg1_list]; exact (dec_canon a).1) (by rw [dg1_list]; exact (dec_canon b).1) (dg5 a ha)

theorem dot_inj : ∀ (A C B D : List UInt8), (∀ c ∈ A, c.toNat ≠ 46) → (∀ c ∈ C, c.toNat ≠ 46) → A ++ 46 :: B = C ++ 46 :: D → A = C ∧ B = D
  | [], [], B, D, _, _, h => by simpa using h
  | [], y :: C, B, D, _, hc, h => by
    simp only [List.nil_append, List.cons_append, List.cons.injEq] at h
    exact absurd (congrArg UInt8.toNat h.1.symm) (by have := hc y (by simp); simpa using this)
  | x :: A, [], B, D, ha, _, h => by
    simp only [List.nil_append, List.cons_append, List.cons.injEq] at h
    exact absurd (congrArg UInt8.toNat h.1) (by have := ha x (by simp); simpa using this)
  | x :: A, y :: C, B, D, ha, hc, h => by
    simp only [List.cons_append, List.cons.injEq] at h
    obtain ⟨e1, e2⟩ := dot_inj A C B D (fun c hx => ha c (by simp [hx])) (fun c hx => hc c (by simp [hx])) h.2
    exact ⟨by rw [h.1, e1], e2⟩
theorem no46 (c : Nat) : ∀ x ∈ decDigits c, x.toNat ≠ 46 := fun x hx => by have := (dec_canon c).1.digs x hx; omega
theorem txt_ne (c1 i1 c2 i2 : Nat) (h : ¬ (c1 = c2 ∧ i1 = i2)) : ((txt c1 i1).toList == (txt c2 i2).toList) = false := by
  rw [beq_eq_false_iff_ne]
  intro e
  rw [ByteArray.toList_eq, ByteArray.toList_eq, txt_list, txt_list] at e
  obtain ⟨e1, e2⟩ := dot_inj _ _ _ _ (no46 c1) (no46 c2) e
  exact h ⟨canon_inj (dec_canon c1).1 (dec_canon c2).1 e1, canon_inj (dec_canon i1).1 (dec_canon i2).1 e2⟩

set_option maxHeartbeats 400000 in
theorem walk4_lt (F : Interp) (c1 i1 c2 i2 : Nat) (w : World) (hc1 : c1 ≤ 65535) (hi1 : i1 ≤ 65535) (hc2 : c2 ≤ 65535) (hi2 : i2 ≤ 65535) (h : c1 < c2) (hF : F.told.answers w.tape) :
    Calls Tryf.prog 4 #[.int .u32 (c1 * 65536 + i1), .int .u32 (c2 * 65536 + i2)] w fun e w' => e = .returned (.bool true) ∧ Below w.heap.size w w' := by
  have hs := txt_ne c1 i1 c2 i2 (fun e => by omega)
  have hm : ((c1 : Int) * 65536 + i1 == (c2 : Int) * 65536 + i2) = false := by rw [beq_eq_false_iff_ne]; omega
  have hk := cmp_lt h
  go_enter Tryf.func4, Tryf.ntmps4
  go_wp2_with fail
  refine (string_told F c1 i1 _ hc1 hi1 (by exact hF)).mono ?_
  rintro e w1 ⟨rfl, hb1⟩
  go_wp2_with fail
  refine (string_told F c2 i2 _ hc2 hi2 (by rw [hb1.tape]; exact hF)).mono ?_
  rintro e w2 ⟨rfl, hb2⟩
  have hb : Below w.heap.size w w2 := hb1.trans (hb2.mono hb1.size)
  clear hb1 hb2
  go_wp2_with fail
  refine (decode6 c1 i1 _ hc1 hi1).mono ?_
  rintro e w' ⟨rfl, n1, rfl⟩
  go_wp2_with fail
  refine (decode6 c2 i2 _ hc2 hi2).mono ?_
  rintro e w' ⟨rfl, n2, rfl⟩
  go_wp2_with fail
  refine (split_txt c1 i1 _ hc1 hi1).mono ?_
  rintro e w' ⟨rfl, n3, rfl⟩
  go_wp2_with fail
  refine (split_txt c2 i2 _ hc2 hi2).mono ?_
  rintro e w' ⟨rfl, n4, rfl⟩
  go_wp2_with fail
  refine (cmp_dg c1 c2 _ hc1).mono ?_
  rw [hk]
  rintro e w' ⟨rfl, n5, rfl⟩
  go_wp2
  go_ret
  exact ⟨ret_bool (by simp), below_drewN hb _⟩
set_option maxHeartbeats 400000 in
theorem walk4_gt (F : Interp) (c1 i1 c2 i2 : Nat) (w : World) (hc1 : c1 ≤ 65535) (hi1 : i1 ≤ 65535) (hc2 : c2 ≤ 65535) (hi2 : i2 ≤ 65535) (h : c2 < c1) (hF : F.told.answers w.tape) :
    Calls Tryf.prog 4 #[.int .u32 (c1 * 65536 + i1), .int .u32 (c2 * 65536 + i2)] w fun e w' => e = .returned (.bool true) ∧ Below w.heap.size w w' := by
  have hs := txt_ne c1 i1 c2 i2 (fun e => by omega)
  have hm : ((c1 : Int) * 65536 + i1 == (c2 : Int) * 65536 + i2) = false := by rw [beq_eq_false_iff_ne]; omega
  have hk := cmp_gt h
  go_enter Tryf.func4, Tryf.ntmps4
  go_wp2_with fail
  refine (string_told F c1 i1 _ hc1 hi1 (by exact hF)).mono ?_
  rintro e w1 ⟨rfl, hb1⟩
  go_wp2_with fail
  refine (string_told F c2 i2 _ hc2 hi2 (by rw [hb1.tape]; exact hF)).mono ?_
  rintro e w2 ⟨rfl, hb2⟩
  have hb : Below w.heap.size w w2 := hb1.trans (hb2.mono hb1.size)
  clear hb1 hb2
  go_wp2_with fail
  refine (decode6 c1 i1 _ hc1 hi1).mono ?_
  rintro e w' ⟨rfl, n1, rfl⟩
  go_wp2_with fail
  refine (decode6 c2 i2 _ hc2 hi2).mono ?_
  rintro e w' ⟨rfl, n2, rfl⟩
  go_wp2_with fail
  refine (split_txt c1 i1 _ hc1 hi1).mono ?_
  rintro e w' ⟨rfl, n3, rfl⟩
  go_wp2_with fail
  refine (split_txt c2 i2 _ hc2 hi2).mono ?_
  rintro e w' ⟨rfl, n4, rfl⟩
  go_wp2_with fail
  refine (cmp_dg c1 c2 _ hc1).mono ?_
  rw [hk]
  rintro e w' ⟨rfl, n5, rfl⟩
  go_wp2
  go_ret
  exact ⟨ret_bool (by simp), below_drewN hb _⟩
set_option maxHeartbeats 400000 in
theorem walk4_elt (F : Interp) (c1 i1 i2 : Nat) (w : World) (hc1 : c1 ≤ 65535) (hi1 : i1 ≤ 65535) (hi2 : i2 ≤ 65535) (h : i1 < i2) (hF : F.told.answers w.tape) :
    Calls Tryf.prog 4 #[.int .u32 (c1 * 65536 + i1), .int .u32 (c1 * 65536 + i2)] w fun e w' => e = .returned (.bool true) ∧ Below w.heap.size w w' := by
  have hs := txt_ne c1 i1 c1 i2 (fun e => by omega)
  have hm : ((c1 : Int) * 65536 + i1 == (c1 : Int) * 65536 + i2) = false := by rw [beq_eq_false_iff_ne]; omega
  have hk := cmp_eq (Eq.refl c1)
  have hk2 := cmp_lt h
  go_enter Tryf.func4, Tryf.ntmps4
  go_wp2_with fail
  refine (string_told F c1 i1 _ hc1 hi1 (by exact hF)).mono ?_
  rintro e w1 ⟨rfl, hb1⟩
  go_wp2_with fail
  refine (string_told F c1 i2 _ hc1 hi2 (by rw [hb1.tape]; exact hF)).mono ?_
  rintro e w2 ⟨rfl, hb2⟩
  have hb : Below w.heap.size w w2 := hb1.trans (hb2.mono hb1.size)
  clear hb1 hb2
  go_wp2_with fail
  refine (decode6 c1 i1 _ hc1 hi1).mono ?_
  rintro e w' ⟨rfl, n1, rfl⟩
  go_wp2_with fail
  refine (decode6 c1 i2 _ hc1 hi2).mono ?_
  rintro e w' ⟨rfl, n2, rfl⟩
  go_wp2_with fail
  refine (split_txt c1 i1 _ hc1 hi1).mono ?_
  rintro e w' ⟨rfl, n3, rfl⟩
  go_wp2_with fail
  refine (split_txt c1 i2 _ hc1 hi2).mono ?_
  rintro e w' ⟨rfl, n4, rfl⟩
  go_wp2_with fail
  refine (cmp_dg c1 c1 _ hc1).mono ?_
  rw [hk]
  rintro e w' ⟨rfl, n5, rfl⟩
  go_wp2_with fail
  refine (cmp_dg i1 i2 _ hi1).mono ?_
  rw [hk2]
  rintro e w' ⟨rfl, n6, rfl⟩
  go_wp2
  go_ret
  exact ⟨ret_bool (by simp), below_drewN hb _⟩
set_option maxHeartbeats 400000 in
theorem walk4_egt (F : Interp) (c1 i1 i2 : Nat) (w : World) (hc1 : c1 ≤ 65535) (hi1 : i1 ≤ 65535) (hi2 : i2 ≤ 65535) (h : i2 < i1) (hF : F.told.answers w.tape) :
    Calls Tryf.prog 4 #[.int .u32 (c1 * 65536 + i1), .int .u32 (c1 * 65536 + i2)] w fun e w' => e = .returned (.bool true) ∧ Below w.heap.size w w' := by
  have hs := txt_ne c1 i1 c1 i2 (fun e => by omega)
  have hm : ((c1 : Int) * 65536 + i1 == (c1 : Int) * 65536 + i2) = false := by rw [beq_eq_false_iff_ne]; omega
  have hk := cmp_eq (Eq.refl c1)
  have hk2 := cmp_gt h
  go_enter Tryf.func4, Tryf.ntmps4
  go_wp2_with fail
  refine (string_told F c1 i1 _ hc1 hi1 (by exact hF)).mono ?_
  rintro e w1 ⟨rfl, hb1⟩
  go_wp2_with fail
  refine (string_told F c1 i2 _ hc1 hi2 (by rw [hb1.tape]; exact hF)).mono ?_
  rintro e w2 ⟨rfl, hb2⟩
  have hb : Below w.heap.size w w2 := hb1.trans (hb2.mono hb1.size)
  clear hb1 hb2
  go_wp2_with fail
  refine (decode6 c1 i1 _ hc1 hi1).mono ?_
  rintro e w' ⟨rfl, n1, rfl⟩
  go_wp2_with fail
  refine (decode6 c1 i2 _ hc1 hi2).mono ?_
  rintro e w' ⟨rfl, n2, rfl⟩
  go_wp2_with fail
  refine (split_txt c1 i1 _ hc1 hi1).mono ?_
  rintro e w' ⟨rfl, n3, rfl⟩
  go_wp2_with fail
  refine (split_txt c1 i2 _ hc1 hi2).mono ?_
  rintro e w' ⟨rfl, n4, rfl⟩
  go_wp2_with fail
  refine (cmp_dg c1 c1 _ hc1).mono ?_
  rw [hk]
  rintro e w' ⟨rfl, n5, rfl⟩
  go_wp2_with fail
  refine (cmp_dg i1 i2 _ hi1).mono ?_
  rw [hk2]
  rintro e w' ⟨rfl, n6, rfl⟩
  go_wp2
  go_ret
  exact ⟨ret_bool (by simp), below_drewN hb _⟩
set_option maxHeartbeats 400000 in
theorem walk4_eq (F : Interp) (c1 i1 : Nat) (w : World) (hc1 : c1 ≤ 65535) (hi1 : i1 ≤ 65535) (hF : F.told.answers w.tape) :
    Calls Tryf.prog 4 #[.int .u32 (c1 * 65536 + i1), .int .u32 (c1 * 65536 + i1)] w fun e w' => e = .returned (.bool true) ∧ Below w.heap.size w w' := by
  have hk := cmp_eq (Eq.refl c1)
  have hk2 := cmp_eq (Eq.refl i1)
  go_enter Tryf.func4, Tryf.ntmps4
  go_wp2_with fail
  refine (string_told F c1 i1 _ hc1 hi1 (by exact hF)).mono ?_
  rintro e w1 ⟨rfl, hb1⟩
  go_wp2_with fail
  refine (string_told F c1 i1 _ hc1 hi1 (by rw [hb1.tape]; exact hF)).mono ?_
  rintro e w2 ⟨rfl, hb2⟩
  have hb : Below w.heap.size w w2 := hb1.trans (hb2.mono hb1.size)
  clear hb1 hb2
  go_wp2_with fail
  refine (decode6 c1 i1 _ hc1 hi1).mono ?_
  rintro e w' ⟨rfl, n1, rfl⟩
  go_wp2_with fail
  refine (decode6 c1 i1 _ hc1 hi1).mono ?_
  rintro e w' ⟨rfl, n2, rfl⟩
  go_wp2_with fail
  refine (split_txt c1 i1 _ hc1 hi1).mono ?_
  rintro e w' ⟨rfl, n3, rfl⟩
  go_wp2_with fail
  refine (split_txt c1 i1 _ hc1 hi1).mono ?_
  rintro e w' ⟨rfl, n4, rfl⟩
  go_wp2_with fail
  refine (cmp_dg c1 c1 _ hc1).mono ?_
  rw [hk]
  rintro e w' ⟨rfl, n5, rfl⟩
  go_wp2_with fail
  refine (cmp_dg i1 i1 _ hi1).mono ?_
  rw [hk2]
  rintro e w' ⟨rfl, n6, rfl⟩
  go_wp2
  go_ret
  exact ⟨ret_bool (by simp), below_drewN hb _⟩

theorem walk4 (F : Interp) (c1 i1 c2 i2 : Nat) (w : World) (hc1 : c1 ≤ 65535) (hi1 : i1 ≤ 65535) (hc2 : c2 ≤ 65535) (hi2 : i2 ≤ 65535) (hF : F.told.answers w.tape) :
    Calls Tryf.prog 4 #[.int .u32 (c1 * 65536 + i1), .int .u32 (c2 * 65536 + i2)] w fun e w' => e = .returned (.bool true) ∧ Below w.heap.size w w' := by
  by_cases h1 : c1 < c2
  · exact walk4_lt F c1 i1 c2 i2 w hc1 hi1 hc2 hi2 h1 hF
  by_cases h2 : c2 < c1
  · exact walk4_gt F c1 i1 c2 i2 w hc1 hi1 hc2 hi2 h2 hF
  obtain rfl : c1 = c2 := by omega
  by_cases h3 : i1 < i2
  · exact walk4_elt F c1 i1 i2 w hc1 hi1 hi2 h3 hF
  by_cases h4 : i2 < i1
  · exact walk4_egt F c1 i1 i2 w hc1 hi1 hi2 h4 hF
  obtain rfl : i1 = i2 := by omega
  exact walk4_eq F c1 i1 w hc1 hi1 hF
end Go.Proofs.Qxb6618496aFmt
