/-
  THE WALKS of zzHeaderLen and the reader's doors; Numbers at any header.
-/
import Derived.Test.Qxb6618523aDoorRRWj
namespace Go.Proofs.Qxb6618523aDoorRR
open Go.RowKit

set_option maxHeartbeats 400000 in
theorem hl_small (v : Nat) (w : World) (hv : v < 128) : Calls Tryd.prog 15 #[.int .i64 (v : Int)] w fun e w' => e = .returned (.int .i64 1) ∧ w' = w := by
  have e0 : decide ((128 : Int) ≤ (v : Int)) = false := by rw [decide_eq_false_iff_not]; omega
  go_enter Tryd.func15, Tryd.ntmps15
  go_wp2
  refine wp_loop_rounds 1 ?_
  rw [rounds_succ]
  go_wp2
  go_ret
  exact ⟨rfl, rfl⟩
set_option maxHeartbeats 400000 in
theorem hl_mid (v : Nat) (w : World) (hv : 128 ≤ v) (hv2 : v < 16384) : Calls Tryd.prog 15 #[.int .i64 (v : Int)] w fun e w' => e = .returned (.int .i64 2) ∧ w' = w := by
  have e0 : decide ((128 : Int) ≤ (v : Int)) = true := by rw [decide_eq_true_eq]; omega
  have e1 : decide ((128 : Int) ≤ (v : Int) / 128) = false := by rw [decide_eq_false_iff_not]; omega
  go_enter Tryd.func15, Tryd.ntmps15
  go_wp2
  refine wp_loop_rounds 2 ?_
  rw [rounds_succ]
  go_wp2
  rw [rounds_succ]
  go_wp2
  go_ret
  exact ⟨rfl, rfl⟩
set_option maxHeartbeats 400000 in
theorem hl_big (v : Nat) (w : World) (hv : 16384 ≤ v) (hv2 : v ≤ 60000) : Calls Tryd.prog 15 #[.int .i64 (v : Int)] w fun e w' => e = .returned (.int .i64 3) ∧ w' = w := by
  have e0 : decide ((128 : Int) ≤ (v : Int)) = true := by rw [decide_eq_true_eq]; omega
  have e1 : decide ((128 : Int) ≤ (v : Int) / 128) = true := by rw [decide_eq_true_eq]; omega
  have e2 : decide ((128 : Int) ≤ (v : Int) / 128 / 128) = false := by rw [decide_eq_false_iff_not]; omega
  go_enter Tryd.func15, Tryd.ntmps15
  go_wp2
  refine wp_loop_rounds 3 ?_
  rw [rounds_succ]
  go_wp2
  rw [rounds_succ]
  go_wp2
  rw [rounds_succ]
  go_wp2
  go_ret
  exact ⟨rfl, rfl⟩
theorem hl15 (v : Nat) (w : World) (hv : v ≤ 60000) : Calls Tryd.prog 15 #[.int .i64 (v : Int)] w fun e w' => e = .returned (.int .i64 (hlen v : Int)) ∧ w' = w := by
  by_cases h1 : v < 128
  · rw [hlen_1 h1]; exact hl_small v w h1
  by_cases h2 : v < 16384
  · rw [hlen_2 h1 h2]; exact hl_mid v w (by omega) h2
  · rw [hlen_3 h2]; exact hl_big v w (by omega) hv

theorem err11 (R Q B a e : Nat) (d : Bool) (l : Int) (w : World) (h : SR w R Q B a e d l) : Calls Tryd.prog 11 #[.pointer (some ⟨R, 0, none⟩)] w fun e w' => e = .returned .nilIface ∧ w' = w := by
  have c := h.c6
  clear h
  go_enter Tryd.func11, Tryd.ntmps11
  go_wp2
  go_ret
  exact ⟨rfl, rfl⟩
theorem at12 (R Q B a e : Nat) (d : Bool) (l : Int) (w : World) (h : SR w R Q B a e d l) : Calls Tryd.prog 12 #[.pointer (some ⟨R, 0, none⟩)] w fun e w' => e = .returned (.int .i64 (a : Int)) ∧ w' = w := by
  have c := h.c2
  clear h
  go_enter Tryd.func12, Tryd.ntmps12
  go_wp2
  go_ret
  exact ⟨rfl, rfl⟩
theorem end13 (R Q B a e : Nat) (d : Bool) (l : Int) (w : World) (h : SR w R Q B a e d l) : Calls Tryd.prog 13 #[.pointer (some ⟨R, 0, none⟩)] w fun e' w' => e' = .returned (.int .i64 (e : Int)) ∧ w' = w := by
  have c := h.c3
  clear h
  go_enter Tryd.func13, Tryd.ntmps13
  go_wp2
  go_ret
  exact ⟨rfl, rfl⟩
theorem buf14 (R Q B a e : Nat) (d : Bool) (l : Int) (w : World) (h : SR w R Q B a e d l) : Calls Tryd.prog 14 #[.pointer (some ⟨R, 0, none⟩)] w fun e w' => e = .returned (.slice (some ⟨B, 0, none⟩) 65792 65792) ∧ w' = w := by
  have c := h.c1
  clear h
  go_enter Tryd.func14, Tryd.ntmps14
  go_wp2
  go_ret
  exact ⟨rfl, rfl⟩

/-- The first bytes of what is gathered. -/
theorem dat_head (s : ByteArray) (j : Nat) (hs : s.size ≤ 60000) (hj : j < hlen s.size) : (dat s j).toNat = hnat s.size j := by
  unfold dat; rw [if_pos hj, hbyte_toNat hs]
theorem dat_tail (s : ByteArray) (j : Nat) (hj : j < s.size) : dat s (hlen s.size + j) = s[j] := by
  unfold dat
  rw [if_neg (by omega), dif_pos (by omega)]
  congr 1
  omega
theorem dat_past (s : ByteArray) (j : Nat) (hj : hlen s.size + s.size ≤ j) : dat s j = 0 := by
  unfold dat; rw [if_neg (by omega), dif_neg (by omega)]

theorem nums10 (R Q D B base : Nat) (s : ByteArray) (aE aU : Addr) (w : World) (hs : s.size ≤ 60000) (hr : SR w R Q B 0 0 false ((hlen s.size + s.size : Nat) : Int)) (hq : BR w Q D (hlen s.size + s.size) 0) (hf : Bf w D (hlen s.size + s.size) (dat s)) (hg : Bf w B 65792 (fun _ => 0))
    (hQB : Q ≠ B) (hQD : Q ≠ D) (hRQ : R ≠ Q) (hRB : R ≠ B) (hgl : Gl w base aE aU) (hR : base ≤ R) (hQ : base ≤ Q) (hB : base ≤ B) :
    Calls Tryd.prog 10 #[.pointer (some ⟨R, 0, none⟩), .int .i64 1] w fun e w' => NumsEnd R Q B (hlen s.size + s.size) s.size (dat s) w e w' := by
  obtain ⟨q1, q2⟩ := hlen_le s.size
  have hz : ∀ j, hlen s.size + s.size ≤ j → dat s j = 0 := fun j hj => dat_past s j hj
  by_cases h1 : s.size < 128
  · refine nums_small R Q D B _ base s.size aE aU (dat s) w h1 ?_ (by omega) (by omega) hr hq hf hg hz hQB hQD hRQ hRB hgl hR hQ hB
    rw [dat_head s 0 hs (by omega)]; unfold hnat; rw [if_pos h1, if_pos rfl]
  by_cases h2 : s.size < 16384
  · have hl := hlen_2 h1 h2
    refine nums_mid R Q D B _ base s.size aE aU (dat s) w (by omega) h2 ?_ ?_ (by omega) (by omega) hr hq hf hg hz hQB hQD hRQ hRB hgl hR hQ hB
    · rw [dat_head s 0 hs (by omega)]; unfold hnat; rw [if_neg h1, if_pos h2, if_pos rfl]
    · rw [dat_head s 1 hs (by omega)]; unfold hnat; rw [if_neg h1, if_pos h2, if_neg (by omega), if_pos rfl]
  · have hl := hlen_3 h2
    refine nums_big R Q D B _ base s.size aE aU (dat s) w (by omega) hs ?_ ?_ ?_ (by omega) (by omega) hr hq hf hg hz hQB hQD hRQ hRB hgl hR hQ hB
    · rw [dat_head s 0 hs (by omega)]; unfold hnat; rw [if_neg h1, if_neg h2, if_pos rfl]
    · rw [dat_head s 1 hs (by omega)]; unfold hnat; rw [if_neg h1, if_neg h2, if_neg (by omega), if_pos rfl]
    · rw [dat_head s 2 hs (by omega)]; unfold hnat; rw [if_neg h1, if_neg h2, if_neg (by omega), if_neg (by omega), if_pos rfl]
end Go.Proofs.Qxb6618523aDoorRR
