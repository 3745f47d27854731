/-
  THE WALK of (*StateWriter).Numbers at one number from 128 on; of Uint.
-/
import Derived.Test.Qxb6618523aDoorRRWc
namespace Go.Proofs.Qxb6618523aDoorRR
open Go.RowKit

theorem Bf.put {w : World} {B N : Nat} {f : Nat → UInt8} (h : Bf w B N f) (i : Nat) (z : Int) (x : UInt8) (hi : i < N) (hz : z = (x.toNat : Int)) : Bf (w.setCell ⟨B, i, none⟩ (.int .u8 z)) B N (fun j => if j = i then x else f j) := by
  subst hz; exact h.set i x hi

theorem hb0 (v : Nat) (h : 128 ≤ v) (hv : v ≤ 60000) : bits .or .u8 ((v : Int) % 256) 128 = ((hbyte v 0).toNat : Int) := by
  have h1 := or128 (v % 256) (by omega)
  have h2 : (hbyte v 0).toNat = v % 256 % 128 + 128 := by
    rw [hbyte_toNat hv]
    unfold hnat
    rw [if_neg (by omega)]
    by_cases h3 : v < 16384
    · rw [if_pos h3, if_pos rfl]; omega
    · rw [if_neg h3, if_pos rfl]; omega
  rw [h2, ← h1, Int.natCast_emod]
  rfl
theorem hb1_mid (v : Nat) (h : 128 ≤ v) (h2 : v < 16384) : (v : Int) / 128 = ((hbyte v 1).toNat : Int) := by
  rw [hbyte_toNat (by omega)]
  unfold hnat
  rw [if_neg (by omega), if_pos h2, if_neg (by omega), if_pos rfl]
  omega
theorem hb1_big (v : Nat) (h2 : 16384 ≤ v) (hv : v ≤ 60000) : bits .or .u8 ((v : Int) / 128 % 256) 128 = ((hbyte v 1).toNat : Int) := by
  have h1 := or128 (v / 128 % 256) (by omega)
  have h2 : (hbyte v 1).toNat = v / 128 % 256 % 128 + 128 := by
    rw [hbyte_toNat hv]
    unfold hnat
    rw [if_neg (by omega), if_neg (by omega), if_neg (by omega), if_pos rfl]
    omega
  rw [h2, ← h1, Int.natCast_emod, Int.natCast_ediv]
  rfl
theorem hb2_big (v : Nat) (h2 : 16384 ≤ v) (hv : v ≤ 60000) : (v : Int) / 128 / 128 = ((hbyte v 2).toNat : Int) := by
  rw [hbyte_toNat hv]
  unfold hnat
  rw [if_neg (by omega), if_neg (by omega), if_neg (by omega), if_neg (by omega), if_pos rfl]
  omega

set_option maxRecDepth 100000 in
set_option maxHeartbeats 1000000 in
theorem num_mid (P B V v : Nat) (w : World) (hv : 128 ≤ v) (hv2 : v < 16384) (h : SW w P B 0) (hf : Bf w B 65792 (fun _ => 0)) (hc : w.cell? ⟨V, 0, none⟩ = some (.int .u64 (v : Int))) (hPB : P ≠ B) :
    Calls Tryd.prog 23 #[.pointer (some ⟨P, 0, none⟩), .slice (some ⟨V, 0, none⟩) 1 1] w fun e w' => NumEnd P B v w e w' := by
  have HS : Hid (SW w P B 0) := h
  obtain ⟨c0, c1, c2, c3, f2⟩ := h
  have HF : Hid (Bf w B 65792 (fun _ => 0)) := hf
  have k0 := hf.cell 0 (by omega)
  have k1 := hf.cell 1 (by omega)
  have k2 := hf.cell 2 (by omega)
  have l0 := hf.free 0 (by omega)
  have l1 := hf.free 1 (by omega)
  have l2 := hf.free 2 (by omega)
  have ho := or0 v (by omega)
  have hx := hb0 v (by omega) (by omega)
  clear hf
  go_enter Tryd.func23, Tryd.ntmps23
  go_wp2
  go_quiet (fail)
  go_wp2
  refine wp_loop_rounds 2 ?_
  rw [rounds_succ]
  go_wp2
  go_quiet (fail)
  go_wp2
  rw [rounds_succ]
  go_wp2
  refine wp_loop_rounds 2 ?_
  rw [rounds_succ]
  go_wp2
  refine wp_loop_rounds 2 ?_
  rw [rounds_succ]
  go_wp2
  rw [rounds_succ]
  go_wp2
  rw [rounds_succ]
  go_wp2
  go_end0
  refine ⟨rfl, ?_, ?_, ?_⟩
  · rw [hlen_2 (by omega) hv2]
    exact (HS.out.kept (S := [B]) ((((Kept.refl _ _).drewN _).setCell _ _ (by simp)).setCell _ _ (by simp)) (by simpa using hPB)).set _ 2 (by simp)
  · refine (((HF.out.drewN _).put 0 _ (hbyte v 0) (by omega) rfl).put 1 _ (hbyte v 1) (by omega) (hb1_mid v hv hv2)).far _ _ _ hPB |>.congr (fun j hj => ?_)
    by_cases e1 : j = 1
    · rw [if_pos e1, e1]
    · rw [if_neg e1]
      by_cases e0 : j = 0
      · rw [if_pos e0, e0]
      · rw [if_neg e0, hbyte_far (by rw [hlen_2 (by omega) hv2]; omega)]
  · exact ((((Kept.refl _ _).drewN _).setCell _ _ (by simp)).setCell _ _ (by simp)).setCell _ _ (by simp)

set_option maxRecDepth 100000 in
set_option maxHeartbeats 1000000 in
theorem num_big (P B V v : Nat) (w : World) (hv : 16384 ≤ v) (hv2 : v ≤ 60000) (h : SW w P B 0) (hf : Bf w B 65792 (fun _ => 0)) (hc : w.cell? ⟨V, 0, none⟩ = some (.int .u64 (v : Int))) (hPB : P ≠ B) :
    Calls Tryd.prog 23 #[.pointer (some ⟨P, 0, none⟩), .slice (some ⟨V, 0, none⟩) 1 1] w fun e w' => NumEnd P B v w e w' := by
  have HS : Hid (SW w P B 0) := h
  obtain ⟨c0, c1, c2, c3, f2⟩ := h
  have HF : Hid (Bf w B 65792 (fun _ => 0)) := hf
  have k0 := hf.cell 0 (by omega)
  have k1 := hf.cell 1 (by omega)
  have k2 := hf.cell 2 (by omega)
  have l0 := hf.free 0 (by omega)
  have l1 := hf.free 1 (by omega)
  have l2 := hf.free 2 (by omega)
  have ho := or0 v (by omega)
  have hx := hb0 v (by omega) (by omega)
  have hy := hb1_big v hv hv2
  clear hf
  go_enter Tryd.func23, Tryd.ntmps23
  go_wp2
  go_quiet (fail)
  go_wp2
  refine wp_loop_rounds 2 ?_
  rw [rounds_succ]
  go_wp2
  go_quiet (fail)
  go_wp2
  rw [rounds_succ]
  go_wp2
  refine wp_loop_rounds 2 ?_
  rw [rounds_succ]
  go_wp2
  refine wp_loop_rounds 3 ?_
  rw [rounds_succ]
  go_wp2
  rw [rounds_succ]
  go_wp2
  rw [rounds_succ]
  go_wp2
  rw [rounds_succ]
  go_wp2
  go_end0
  refine ⟨rfl, ?_, ?_, ?_⟩
  · rw [hlen_3 (by omega)]
    exact (HS.out.kept (S := [B]) (((((Kept.refl _ _).drewN _).setCell _ _ (by simp)).setCell _ _ (by simp)).setCell _ _ (by simp)) (by simpa using hPB)).set _ 3 (by simp)
  · refine ((((HF.out.drewN _).put 0 _ (hbyte v 0) (by omega) rfl).put 1 _ (hbyte v 1) (by omega) rfl).put 2 _ (hbyte v 2) (by omega) (hb2_big v hv hv2)).far _ _ _ hPB |>.congr (fun j hj => ?_)
    by_cases e2 : j = 2
    · rw [if_pos e2, e2]
    · rw [if_neg e2]
      by_cases e1 : j = 1
      · rw [if_pos e1, e1]
      · rw [if_neg e1]
        by_cases e0 : j = 0
        · rw [if_pos e0, e0]
        · rw [if_neg e0, hbyte_far (by rw [hlen_3 (by omega)]; omega)]
  · exact (((((Kept.refl _ _).drewN _).setCell _ _ (by simp)).setCell _ _ (by simp)).setCell _ _ (by simp)).setCell _ _ (by simp)

theorem num23 (P B V v : Nat) (w : World) (hv : v ≤ 60000) (h : SW w P B 0) (hf : Bf w B 65792 (fun _ => 0)) (hc : w.cell? ⟨V, 0, none⟩ = some (.int .u64 (v : Int))) (hPB : P ≠ B) :
    Calls Tryd.prog 23 #[.pointer (some ⟨P, 0, none⟩), .slice (some ⟨V, 0, none⟩) 1 1] w fun e w' => NumEnd P B v w e w' := by
  by_cases h1 : v < 128
  · exact num_small P B V v w h1 h hf hc hPB
  by_cases h2 : v < 16384
  · exact num_mid P B V v w (by omega) h2 h hf hc hPB
  · exact num_big P B V v w (by omega) hv h hf hc hPB

set_option maxHeartbeats 400000 in
theorem uint17 (P B v : Nat) (w : World) (hv : v ≤ 60000) (h : SW w P B 0) (hf : Bf w B 65792 (fun _ => 0)) (hPB : P ≠ B) :
    Calls Tryd.prog 17 #[.pointer (some ⟨P, 0, none⟩), .int .u64 (v : Int)] w fun e w' => NumEnd P B v w e w' := by
  have hP := lt_of_cell h.c0
  have hB := hf.lt (j := 0) (by omega)
  have hk : Kept [] w (w.alloc (.cells #[.int .u64 (v : Int)] 33)) := (Kept.refl _ _).alloc _
  have HS : Hid (SW w P B 0 ∧ Bf w B 65792 (fun _ => 0) ∧ Kept [] w (w.alloc (.cells #[.int .u64 (v : Int)] 33))) := ⟨h, hf, hk⟩
  clear h hf hk
  go_enter Tryd.func17, Tryd.ntmps17
  go_wp2_with fail
  obtain ⟨h, hf, hk⟩ := HS.out
  refine (num23 P B w.heap.size v _ hv (h.kept hk (by simp)) (hf.kept hk (by simp)) (by rw [World.cell?_alloc_at _ _ _ _ rfl]; rfl) hPB).mono ?_
  rintro e w1 ⟨rfl, hs, hb, hk2⟩
  clear h hf
  go_wp2
  go_end0
  exact ⟨rfl, hs, hb, (hk.mono (by simp)).trans hk2⟩
end Go.Proofs.Qxb6618523aDoorRR
