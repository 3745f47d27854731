/-
  THE WALK of FnStringReadsBackThroughNumbers.
-/
import Derived.Test.Qxb6618523aDoorRRWk
namespace Go.Proofs.Qxb6618523aDoorRR
open Go.RowKit

set_option maxHeartbeats 400000 in
theorem bytes4_no (s : ByteArray) (w : World) (h : 1048576 < s.size) (hm : s.size ≤ maxLen) : Calls Tryd.prog 4 #[.string s] w fun e w' => e = .returned (.bool false) ∧ w' = w := by
  unfold maxLen at hm
  have e0 : decide ((1048576 : Int) < (s.size : Int)) = true := by rw [decide_eq_true_eq]; omega
  go_enter Tryd.func4, Tryd.ntmps4
  go_wp2
  go_ret
  exact ⟨rfl, rfl⟩
set_option maxHeartbeats 400000 in
theorem bytes4_yes (s : ByteArray) (w : World) (h : s.size ≤ 1048576) : Calls Tryd.prog 4 #[.string s] w fun e w' => e = .returned (.bool true) ∧ w' = w := by
  have e0 : decide ((1048576 : Int) < (s.size : Int)) = false := by rw [decide_eq_false_iff_not]; omega
  go_enter Tryd.func4, Tryd.ntmps4
  go_wp2
  go_ret
  exact ⟨rfl, rfl⟩

set_option maxHeartbeats 400000 in
theorem law_long (s : ByteArray) (w : World) (h : 1048576 < s.size) (hm : s.size ≤ maxLen) : Calls Tryd.prog 3 #[.string s] w fun e w' => e = .returned (.bool true) ∧ Below w.heap.size w w' := by
  go_enter Tryd.func3, Tryd.ntmps3
  go_wp2_with fail
  refine (bytes4_no s _ h hm).mono ?_
  rintro e w' ⟨rfl, rfl⟩
  go_wp2
  go_ret
  exact ⟨rfl, Below.refl _ _⟩
set_option maxHeartbeats 400000 in
theorem law_mid (s : ByteArray) (w : World) (h0 : 60000 < s.size) (h : s.size ≤ 1048576) : Calls Tryd.prog 3 #[.string s] w fun e w' => e = .returned (.bool true) ∧ Below w.heap.size w w' := by
  have e0 : decide ((60000 : Int) < (s.size : Int)) = true := by rw [decide_eq_true_eq]; omega
  go_enter Tryd.func3, Tryd.ntmps3
  go_wp2_with fail
  refine (bytes4_yes s _ h).mono ?_
  rintro e w' ⟨rfl, rfl⟩
  go_wp2
  go_ret
  exact ⟨rfl, Below.refl _ _⟩

theorem ix_gen (B L C j : Nat) (h : j < L) (wx : World) : (Instr.indexAt 26 (.slice (some ⟨B, 0, none⟩) L C) (.int .i64 (j : Int))).run Tryd.prog wx = .ok (.pointer (some ⟨B, j, none⟩)) wx := by
  go_simp
theorem ix_buf (B q k : Nat) (h : q + k < 65792) (wx : World) : (Instr.indexAt 26 (.slice (some ⟨B, 0, none⟩) 65792 65792) (.int .i64 ((q : Int) + (k : Int)))).run Tryd.prog wx = .ok (.pointer (some ⟨B, q + k, none⟩)) wx := by
  have e : ((q : Int) + (k : Int)) = ((q + k : Nat) : Int) := by omega
  rw [e]
  exact ix_gen B 65792 65792 (q + k) h wx

set_option maxRecDepth 100000 in
set_option maxHeartbeats 1000000 in
theorem law_main (s : ByteArray) (aE aU : Addr) (w : World) (hs : s.size ≤ 60000) (hgl : Gl w w.heap.size aE aU) : Calls Tryd.prog 3 #[.string s] w fun e w' => e = .returned (.bool true) ∧ Below w.heap.size w w' := by
  have e0 : decide ((60000 : Int) < (s.size : Int)) = false := by rw [decide_eq_false_iff_not]; omega
  obtain ⟨q1, q2⟩ := hlen_le s.size
  have HG : Hid (Gl w w.heap.size aE aU) := hgl
  clear hgl
  go_enter Tryd.func3, Tryd.ntmps3
  go_wp2_with fail
  refine (bytes4_yes s _ (by omega)).mono ?_
  rintro e w' ⟨rfl, rfl⟩
  go_wp2_with fail
  refine (new5 _).mono ?_
  rintro e w1 ⟨rfl, hw1⟩
  have hs1 : SW w1 (w'.heap.size + 1) w'.heap.size 0 := by rw [hw1]; exact sw_new w'
  have hb1 : Bf w1 w'.heap.size 65792 (fun _ => 0) := by rw [hw1]; exact (bf_made w' 65792).kept (S := []) ((Kept.refl _ _).alloc _) (by simp)
  have hk1 : Kept [] w' w1 := by rw [hw1]; exact ((Kept.refl _ _).alloc _).alloc _
  have HA : Hid (SW w1 (w'.heap.size + 1) w'.heap.size 0 ∧ Bf w1 w'.heap.size 65792 (fun _ => 0) ∧ Kept [] w' w1) := ⟨hs1, hb1, hk1⟩
  clear hw1 hs1 hb1 hk1
  go_wp2_with fail
  obtain ⟨hs1, hb1, hk1⟩ := HA.out
  refine (str6 (w'.heap.size + 1) w'.heap.size s _ hs hs1 hb1 (by omega)).mono ?_
  rintro e w2 ⟨rfl, hs2, hb2, hk2⟩
  have HB : Hid (SW w2 (w'.heap.size + 1) w'.heap.size (hlen s.size + s.size) ∧ Bf w2 w'.heap.size 65792 (dat s) ∧ Below w'.heap.size w' w2) :=
    ⟨hs2, hb2, hk2.below (hk1.below (Below.refl _ _) (by simp)) (by intro x hx; simp at hx; omega)⟩
  clear HA hs1 hb1 hk1 hs2 hb2 hk2
  go_wp2_with fail
  obtain ⟨hs2, hb2, hl2⟩ := HB.out
  refine (bytes8 (w'.heap.size + 1) w'.heap.size (hlen s.size + s.size) _ (by omega) hs2).mono ?_
  rintro e w3 ⟨rfl, n3, rfl⟩
  clear hs2 hb2 hl2
  go_wp2_with fail
  obtain ⟨hs2, hb2, hl2⟩ := HB.out
  refine (copy7 w'.heap.size (hlen s.size + s.size) (dat s) _ (by omega) (hb2.drewN n3)).mono ?_
  rintro e w4 ⟨rfl, hb4, hl4⟩
  have hsz : (w2.drewN n3).heap.size = w2.heap.size := rfl
  rw [hsz] at hb4 hl4
  rw [hsz]
  have HC : Hid (Bf w4 w2.heap.size (hlen s.size + s.size) (dat s) ∧ Below w'.heap.size w' w4 ∧ w'.heap.size ≤ w2.heap.size) :=
    ⟨hb4, (Kept.of_below [] hl4).below (below_drewN hl2 n3) (by simp), hl2.size⟩
  clear hs2 hb2 hl2 hb4 hl4 hsz HB
  go_wp2_with fail
  refine (newr9 w2.heap.size (hlen s.size + s.size) _).mono ?_
  rintro e w5 ⟨rfl, hw5⟩
  obtain ⟨hb4, hl4, hz4⟩ := HC.out
  have hk5 : Kept [] w4 w5 := by rw [hw5]; exact (((Kept.refl _ _).alloc _).alloc _).alloc _
  have hl24 := hb4.lt (j := 0) (by omega)
  have hz5 : w'.heap.size ≤ w4.heap.size := hl4.size
  have hr5 : SR w5 (w4.heap.size + 1 + 1) w4.heap.size (w4.heap.size + 1) 0 0 false ((hlen s.size + s.size : Nat) : Int) := by rw [hw5]; exact sr_new _ _ _
  have hq5 : BR w5 w4.heap.size w2.heap.size (hlen s.size + s.size) 0 := by rw [hw5]; exact br_new _ _ _
  have hB5 : Bf w5 (w4.heap.size + 1) 65792 (fun _ => 0) := by rw [hw5]; exact bf_new _ _ _
  have hb5 := hb4.kept hk5 (by simp)
  have hg5 : Gl w5 w'.heap.size aE aU := (HG.out.kept (Kept.of_below [] hl4) (by simp)).kept hk5 (by simp)
  have hl5 : Below w'.heap.size w' w5 := hk5.below hl4 (by simp)
  have HN := nums10 (w4.heap.size + 1 + 1) w4.heap.size w2.heap.size (w4.heap.size + 1) w'.heap.size s aE aU w5 hs hr5 hq5 hb5 hB5 (by omega) (by omega) (by omega) (by omega) hg5 (by omega) (by omega) (by omega)
  have HD : Hid ((Calls Tryd.prog 10 #[.pointer (some ⟨w4.heap.size + 1 + 1, 0, none⟩), .int .i64 1] w5 fun e w' => NumsEnd (w4.heap.size + 1 + 1) w4.heap.size (w4.heap.size + 1) (hlen s.size + s.size) s.size (dat s) w5 e w') ∧ Below w'.heap.size w' w5) := ⟨HN, hl5⟩
  clear HN hr5 hq5 hB5 hb5 hg5 hl5 hk5 hb4 hl4 hw5 HC HG
  generalize w4.heap.size = G at HD hl24 hz5
  go_wp2_with fail
  refine HD.out.1.mono ?_
  rintro e w6 ⟨rfl, hc7, hr6, hb6, hk6⟩
  have HE : Hid (SR w6 (G + 1 + 1) G (G + 1) (hlen s.size) (hlen s.size + s.size) true 0 ∧ Bf w6 (G + 1) 65792 (dat s) ∧ Below w'.heap.size w' w6) :=
    ⟨hr6, hb6, hk6.below HD.out.2 (by intro x hx; simp at hx; omega)⟩
  clear HD hr6 hb6 hk6
  go_wp2_with fail
  refine (err11 _ _ _ _ _ _ _ _ HE.out.1).mono ?_
  rintro e w7 ⟨rfl, hw⟩
  subst hw
  go_wp2_with fail
  refine (at12 _ _ _ _ _ _ _ _ HE.out.1).mono ?_
  rintro e w8 ⟨rfl, hw⟩
  subst hw
  go_wp2_with fail
  refine (end13 _ _ _ _ _ _ _ _ HE.out.1).mono ?_
  rintro e w9 ⟨rfl, hw⟩
  subst hw
  go_wp2_with fail
  refine (buf14 _ _ _ _ _ _ _ _ HE.out.1).mono ?_
  rintro e w10 ⟨rfl, hw⟩
  subst hw
  have t1 : decide ((hlen s.size : Int) < 0) = false := by rw [decide_eq_false_iff_not]; omega
  have t2 : decide ((hlen s.size : Int) + (s.size : Int) < (hlen s.size : Int)) = false := by rw [decide_eq_false_iff_not]; omega
  have t3 : decide ((65792 : Int) < (hlen s.size : Int) + (s.size : Int)) = false := by rw [decide_eq_false_iff_not]; omega
  go_wp2_with fail
  refine (hl15 s.size _ hs).mono ?_
  rintro e w11 ⟨rfl, hw⟩
  subst hw
  clear t1 t2 t3 hc7 e0
  go_wp2
  go_loopw [10] (fun i wr => ∃ k j : Nat, k ≤ s.size ∧ i = .int .i64 k ∧ wr = w11.drewN j) (fun i _ => s.size - (intOf i).toNat)
  case atStart => exact ⟨0, 0, by omega, rfl, rfl⟩
  case round =>
    obtain ⟨k, j, hk, rfl, hwr⟩ := hrel
    subst hwr
    by_cases hlt : k < s.size
    · have hix := ix_buf (G + 1) (hlen s.size) k (by omega)
      have hc : w11.cell? ⟨G + 1, hlen s.size + k, none⟩ = some (.int .u8 (s[k].toNat : Int)) := by rw [HE.out.2.1.cell _ (by omega), dat_tail s k hlt]
      go_wp2
      go_quiet (fail)
      go_wp2
      go_roundw
      case rel => exact ⟨k + 1, _, by omega, by go_num, rfl⟩
      case measure => simp [intOf]; omega
    · go_wp2
      go_ret
      exact ⟨rfl, below_drewN HE.out.2.2 _⟩

theorem law3 (s : ByteArray) (aE aU : Addr) (w : World) (hm : s.size ≤ maxLen) (hgl : Gl w w.heap.size aE aU) : Calls Tryd.prog 3 #[.string s] w fun e w' => e = .returned (.bool true) ∧ Below w.heap.size w w' := by
  by_cases h1 : 1048576 < s.size
  · exact law_long s w h1 hm
  by_cases h2 : 60000 < s.size
  · exact law_mid s w h2 (by omega)
  · exact law_main s aE aU w (by omega) hgl
end Go.Proofs.Qxb6618523aDoorRR
