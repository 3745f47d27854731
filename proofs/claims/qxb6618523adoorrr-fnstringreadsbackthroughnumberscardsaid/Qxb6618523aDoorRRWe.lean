/-
  THE WALK of (*StateWriter).String.
-/
import Derived.Test.Qxb6618523aDoorRRWd
import Derived.Lib.LazyBuf
namespace Go.Proofs.Qxb6618523aDoorRR
open Go.RowKit

theorem sz5 (w : World) : (Go.sizeOf 5).run Tryd.prog w = .ok 1 w := by kernel_rfl

/-- BEHIND THE CALL: the header and the string are gathered. -/
def StrEnd (P B : Nat) (s : ByteArray) (w : World) (e : Ending) (w' : World) : Prop :=
  e = .returned (.tuple #[]) ∧ SW w' P B (hlen s.size + s.size) ∧ Bf w' B 65792 (dat s) ∧ Kept [B, P] w w'

theorem dat_empty (s : ByteArray) (h : s.size = 0) : ∀ j, hbyte s.size j = dat s j := by
  intro j
  unfold dat
  by_cases h1 : j < hlen s.size
  · rw [if_pos h1]
  · rw [if_neg h1, dif_neg (by omega), hbyte_far (by omega)]

set_option maxHeartbeats 400000 in
theorem str6_0 (P B : Nat) (s : ByteArray) (w : World) (hs : s.size = 0) (h : SW w P B 0) (hf : Bf w B 65792 (fun _ => 0)) (hPB : P ≠ B) :
    Calls Tryd.prog 6 #[.pointer (some ⟨P, 0, none⟩), .string s] w fun e w' => StrEnd P B s w e w' := by
  have hc := uint17 P B 0 w (by omega) h hf hPB
  have HC : Hid (Calls Tryd.prog 17 #[.pointer (some ⟨P, 0, none⟩), .int .u64 ((0 : Nat) : Int)] w fun e w' => NumEnd P B 0 w e w') := hc
  clear hc h hf
  go_enter Tryd.func6, Tryd.ntmps6
  go_wp2_with fail
  refine HC.out.mono ?_
  rintro e w1 ⟨rfl, hs1, hb1, hk1⟩
  go_wp2
  refine wp_loop_rounds 1 ?_
  rw [rounds_succ]
  go_wp2
  go_end0
  exact ⟨rfl, by rw [hs]; exact hs1, by rw [← hs] at hb1; exact hb1.congr (fun j _ => dat_empty s hs j), hk1⟩

/-- The string's byte, 0 past its end. -/
def sb (s : ByteArray) (j : Nat) : UInt8 := if h : j < s.size then s[j] else 0
theorem sb_list (s : ByteArray) : (s.data.toList.map fun x => Value.int .u8 (x.toNat : Int)) = (List.range s.size).map fun j => Value.int .u8 ((sb s j).toNat : Int) := by
  apply List.ext_getElem
  · simp
  · intro j h1 h2
    have hj : j < s.size := by simpa using h2
    simp only [List.getElem_map, List.getElem_range, sb, dif_pos hj]
    rfl
theorem dat_join (s : ByteArray) (j : Nat) : (if hlen s.size ≤ j ∧ j < hlen s.size + s.size then sb s (j - hlen s.size) else hbyte s.size j) = dat s j := by
  unfold dat sb
  by_cases h1 : j < hlen s.size
  · rw [if_neg (by omega), if_pos h1]
  · by_cases h2 : j - hlen s.size < s.size
    · rw [if_pos ⟨by omega, by omega⟩, dif_pos h2, if_neg h1]
    · rw [if_neg (by omega), if_neg h1, dif_neg h2, hbyte_far (by omega)]

theorem copied (P B : Nat) (s : ByteArray) (w1 : World) (hs2 : s.size ≤ 60000) (hs1 : SW w1 P B (hlen s.size)) (hb1 : Bf w1 B 65792 (hbyte s.size)) (hPB : P ≠ B) :
    ∃ w2, (∀ ty, (Builtin.copy_ #[26, 9] ty #[.slice (some ⟨B, hlen s.size, none⟩) (65536 - hlen s.size) (65792 - hlen s.size), .string s]).run Tryd.prog w1.drew = .ok (goInt s.size) w2) ∧
      SW w2 P B (hlen s.size) ∧ Bf w2 B 65792 (dat s) ∧ Kept [B] w1 w2 := by
  obtain ⟨q1, q2⟩ := hlen_le s.size
  have hcp := fun ty => run_copy_string (P := Tryd.prog) w1.drew 26 9 ty 5 B (hlen s.size) (65536 - hlen s.size) (65792 - hlen s.size) s Tryd.underlying26 sz5 (by omega) (fun j hj => by show (w1.cell? _).isSome = true; rw [hb1.cell (hlen s.size + j) (by omega)]; rfl) (fun j hj => hb1.free (hlen s.size + j) (by omega))
  have hk : Kept [B] w1 (w1.drew.setCells B (hlen s.size) (s.data.toList.map fun x => Value.int .u8 (x.toNat : Int))) := Kept.setCells B (by simp) _ _ _ (Kept.refl _ _).drew
  refine ⟨_, hcp, hs1.kept hk (by simpa using hPB), ?_, hk⟩
  rw [sb_list]
  exact (hb1.drew.setCells (hlen s.size) s.size (sb s) (by omega)).congr (fun j _ => dat_join s j)

set_option maxRecDepth 100000 in
set_option maxHeartbeats 400000 in
theorem str6_1 (P B : Nat) (s : ByteArray) (w : World) (hs : 0 < s.size) (hs2 : s.size ≤ 60000) (h : SW w P B 0) (hf : Bf w B 65792 (fun _ => 0)) (hPB : P ≠ B) :
    Calls Tryd.prog 6 #[.pointer (some ⟨P, 0, none⟩), .string s] w fun e w' => StrEnd P B s w e w' := by
  have hc := uint17 P B s.size w hs2 h hf hPB
  obtain ⟨q1, q2⟩ := hlen_le s.size
  have HC : Hid (Calls Tryd.prog 17 #[.pointer (some ⟨P, 0, none⟩), .int .u64 ((s.size : Nat) : Int)] w fun e w' => NumEnd P B s.size w e w') := hc
  clear hc h hf
  go_enter Tryd.func6, Tryd.ntmps6
  go_wp2_with fail
  refine HC.out.mono ?_
  rintro e w1 ⟨rfl, hs1, hb1, hk1⟩
  obtain ⟨w2, hcp, hs3, hb3, hk3⟩ := copied P B s w1 hs2 hs1 hb1 hPB
  have HE : Hid (SW w2 P B (hlen s.size) ∧ Bf w2 B 65792 (dat s) ∧ Kept [B, P] w w2) := ⟨hs3, hb3, hk1.trans (hk3.mono (by simp))⟩
  obtain ⟨c0, c1, c2, c3, f2⟩ := hs1
  obtain ⟨d0, d1, d2, d3, g2⟩ := hs3
  clear hb1 hk1 HC hb3 hk3
  have hd : decide ((65536 : Int) ≤ (hlen s.size : Int) + (s.size : Int)) = false := by rw [decide_eq_false_iff_not]; omega
  go_wp2
  refine wp_loop_rounds 2 ?_
  rw [rounds_succ]
  go_wp2
  go_region
  go_wp2
  rw [rounds_succ]
  go_wp2
  go_end0
  obtain ⟨hs3, hb3, hk3⟩ := HE.out
  exact ⟨rfl, hs3.set _ _ (by simp), hb3.far _ _ _ hPB, hk3.setCell _ _ (by simp)⟩

theorem str6 (P B : Nat) (s : ByteArray) (w : World) (hs2 : s.size ≤ 60000) (h : SW w P B 0) (hf : Bf w B 65792 (fun _ => 0)) (hPB : P ≠ B) :
    Calls Tryd.prog 6 #[.pointer (some ⟨P, 0, none⟩), .string s] w fun e w' => StrEnd P B s w e w' := by
  by_cases h0 : s.size = 0
  · exact str6_0 P B s w h0 h hf hPB
  · exact str6_1 P B s w (by omega) hs2 h hf hPB
end Go.Proofs.Qxb6618523aDoorRR
