/-
  THE PROGRAM's VARIABLES THAT THE READER READS; THE WALKS of io.ReadAtLeast and io.ReadFull over the bytes.Reader.
-/
import Derived.Test.Qxb6618523aDoorRRWf
import Derived.Deep.RegionWith
import Derived.LaidEql
namespace Go.Proofs.Qxb6618523aDoorRR
open Go.RowKit

/-- io.EOF and io.ErrUnexpectedEOF (two pointers of errors.New's make), topBits[1]: all below 'base'. -/
structure Gl (w : World) (base : Nat) (aE aU : Addr) : Prop where
  e : w.cell? ⟨3, 0, none⟩ = some (.iface 69 (.pointer (some aE)))
  u : w.cell? ⟨4, 0, none⟩ = some (.iface 69 (.pointer (some aU)))
  t : w.cell? ⟨1, 1, none⟩ = some (.int .u64 128)
  ce : ∃ ca ta, w.heap[aE.block]? = some (.cells ca ta (0, 0))
  cu : ∃ ca ta, w.heap[aU.block]? = some (.cells ca ta (0, 0))
  lt : 4 < base ∧ aE.block < base ∧ aU.block < base ∧ base ≤ w.heap.size

theorem Gl.kept {S : List Nat} {w w' : World} {base : Nat} {aE aU : Addr} (h : Gl w base aE aU) (hk : Kept S w w') (hS : ∀ x, x ∈ S → base ≤ x) : Gl w' base aE aU := by
  obtain ⟨l1, l2, l3, l4⟩ := h.lt
  have ns : ∀ b, b < base → b ∉ S := fun b hb hm => by have := hS b hm; omega
  refine ⟨by rw [hk.cell 0 (by omega) (ns 3 (by omega))]; exact h.e, by rw [hk.cell 0 (by omega) (ns 4 (by omega))]; exact h.u, by rw [hk.cell 1 (by omega) (ns 1 (by omega))]; exact h.t, ?_, ?_, ⟨l1, l2, l3, Nat.le_trans l4 hk.size⟩⟩
  · rw [hk.block _ (by omega) (ns _ l2)]; exact h.ce
  · rw [hk.block _ (by omega) (ns _ l3)]; exact h.cu
theorem Gl.drew {w : World} {base : Nat} {aE aU : Addr} (h : Gl w base aE aU) : Gl w.drew base aE aU := h.kept (S := []) (Kept.refl _ _).drew (by simp)
theorem Gl.drewN {w : World} {base : Nat} {aE aU : Addr} (h : Gl w base aE aU) (n : Nat) : Gl (w.drewN n) base aE aU := h.kept (S := []) ((Kept.refl _ _).drewN n) (by simp)

theorem comp69 : (Tryd.prog.info? 69).map (·.comparable) = some true := by kernel_rfl
theorem size89 : (Tryd.prog.info? 89).map (·.size) = some 1 := by kernel_rfl
theorem eql_same (a : Addr) (w : World) : (binOp .eql 35 (.iface 69 (.pointer (some a))) (.iface 69 (.pointer (some a)))).run Tryd.prog w = .ok (.bool true) w := by
  obtain ⟨i, hi, hcmp⟩ := Option.map_eq_some_iff.1 comp69
  obtain ⟨j, hj, hjs⟩ := Option.map_eq_some_iff.1 size89
  exact run_eql_iface_ptr_same (P := Tryd.prog) w a Tryd.underlying35 Tryd.underlying69 hi hcmp hj
/-- Two pointers of that make: equal just where the addresses are. -/
theorem eql_any (a b : Addr) (w : World) (ha : ∃ ca ta, w.heap[a.block]? = some (.cells ca ta (0, 0))) (hb : ∃ ca ta, w.heap[b.block]? = some (.cells ca ta (0, 0))) :
    ∃ r : Bool, (binOp .eql 35 (.iface 69 (.pointer (some a))) (.iface 69 (.pointer (some b)))).run Tryd.prog w = .ok (.bool r) w := by
  by_cases h : a = b
  · subst h; exact ⟨true, eql_same a w⟩
  · obtain ⟨i, hi, hcmp⟩ := Option.map_eq_some_iff.1 comp69
    obtain ⟨j, hj, hjs⟩ := Option.map_eq_some_iff.1 size89
    obtain ⟨ca, ta, ha⟩ := ha
    obtain ⟨cb, tb, hb⟩ := hb
    exact ⟨false, run_eql_iface_ptr_other (P := Tryd.prog) w Tryd.underlying35 Tryd.underlying69 hi hcmp hj (by rw [hjs]; decide) h ha hb⟩

/-- BEHIND ReadFull: the data lie in the buffer; io.ErrUnexpectedEOF comes back. -/
def FullEnd (Q D B m : Nat) (f g : Nat → UInt8) (aU : Addr) (w : World) (e : Ending) (w' : World) : Prop :=
  e = .returned (.tuple #[.int .i64 (m : Int), .iface 69 (.pointer (some aU))]) ∧ BR w' Q D m m ∧ Bf w' B 65792 (fun j => if j < m then f j else g j) ∧ Kept [Q, B] w w'

/-- 'b[m:]'. -/
theorem slice_from (B L C m : Nat) (h : m ≤ L) (hC : m < C) (wx : World) : (Instr.slice 26 (.slice (some ⟨B, 0, none⟩) L C) (some (.int .i64 (m : Int))) none none).run Tryd.prog wx = .ok (.slice (some ⟨B, m, none⟩) (L - m) (C - m)) wx := by
  have h1 : ¬ C = m := by omega
  go_simp

theorem nil_ahead (a : Addr) (w : World) : (nilAhead 197 47 (.pointer (some a)) "Read").run Tryd.prog w = .ok (some false) w := by kernel_rfl
theorem meth_read (a : Addr) (w : World) : (method 197 47 (.pointer (some a)) "Read").run Tryd.prog w = .ok (46, .pointer (some a)) w := by kernel_rfl

set_option maxRecDepth 100000 in
set_option maxHeartbeats 1000000 in
theorem atleast28 (Q D B m base : Nat) (aE aU : Addr) (f g : Nat → UInt8) (w : World) (h0 : 0 < m) (hm : m ≤ 65535) (hq : BR w Q D m 0) (hf : Bf w D m f) (hg : Bf w B 65792 g) (hQB : Q ≠ B) (hQD : Q ≠ D)
    (hgl : Gl w base aE aU) (hQ : base ≤ Q) (hB : base ≤ B) :
    Calls Tryd.prog 28 #[.iface 47 (.pointer (some ⟨Q, 0, none⟩)), .slice (some ⟨B, 0, none⟩) 65536 65792, .int .i64 65536] w fun e w' => FullEnd Q D B m f g aU w e w' := by
  have HC : Hid (Calls Tryd.prog 46 #[.pointer (some ⟨Q, 0, none⟩), .slice (some ⟨B, 0, none⟩) 65536 65792] w.drew fun e w' => ReadEnd Q D B m f g w.drew e w') := read46 Q D B m f g w.drew h0 hm hq.drew hf.drew hg.drew hQB hQD
  have HG : Hid (Gl w.drew base aE aU) := hgl.drew
  clear hq hf hg hgl
  have na := nil_ahead
  have me := meth_read
  go_enter Tryd.func28, Tryd.ntmps28
  go_wp2
  refine wp_loop_rounds 3 ?_
  rw [rounds_succ]
  go_wp2
  go_region_with (go_at_call 46; refine HC.out.mono ?_; rintro e w1 ⟨rfl, hq1, hb1, hk1⟩)
  have hg1 : Gl w1 base aE aU := HG.out.kept hk1 (by intro x hx; simp at hx; omega)
  have HC2 : Hid (Calls Tryd.prog 46 #[.pointer (some ⟨Q, 0, none⟩), .slice (some ⟨B, m, none⟩) (65536 - m) (65792 - m)] w1.drew fun e w' => e = .returned (.tuple #[.int .i64 0, .iface 69 (.pointer (some aE))]) ∧ ∃ k, w' = w1.drew.drewN k) := eof46 Q D B m _ _ _ w1.drew hq1.drew hg1.e
  have HF : Hid (BR w1 Q D m m ∧ Bf w1 B 65792 (fun j => if j < m then f j else g j) ∧ Kept [Q, B] w w1) := ⟨hq1, hb1, (Kept.refl _ _).drew.trans hk1⟩
  have ge := hg1.e
  have gu := hg1.u
  have heq := eql_same aE
  clear hq1 hb1 hk1 HC HG hg1
  have hsl := slice_from B 65536 65792 m (by omega) (by omega)
  have d1 : decide ((m : Int) < 65536) = true := by rw [decide_eq_true_eq]; omega
  have d2 : decide ((65536 : Int) ≤ (m : Int)) = false := by rw [decide_eq_false_iff_not]; omega
  go_wp2
  rw [rounds_succ]
  go_wp2
  go_region_with (go_at_call 46; refine HC2.out.mono ?_; rintro e w2 ⟨rfl, k, rfl⟩)
  go_wp2
  rw [rounds_succ]
  go_wp2
  go_ret2
  obtain ⟨hq1, hb1, hk1⟩ := HF.out
  exact ⟨rfl, hq1.drewN _, hb1.drewN _, hk1.drewN _⟩

set_option maxRecDepth 100000 in
set_option maxHeartbeats 400000 in
theorem full27 (Q D B m base : Nat) (aE aU : Addr) (f g : Nat → UInt8) (w : World) (h0 : 0 < m) (hm : m ≤ 65535) (hq : BR w Q D m 0) (hf : Bf w D m f) (hg : Bf w B 65792 g) (hQB : Q ≠ B) (hQD : Q ≠ D)
    (hgl : Gl w base aE aU) (hQ : base ≤ Q) (hB : base ≤ B) :
    Calls Tryd.prog 27 #[.iface 47 (.pointer (some ⟨Q, 0, none⟩)), .slice (some ⟨B, 0, none⟩) 65536 65792] w fun e w' => FullEnd Q D B m f g aU w e w' := by
  have HC : Hid (Calls Tryd.prog 28 #[.iface 47 (.pointer (some ⟨Q, 0, none⟩)), .slice (some ⟨B, 0, none⟩) 65536 65792, .int .i64 65536] w fun e w' => FullEnd Q D B m f g aU w e w') := atleast28 Q D B m base aE aU f g w h0 hm hq hf hg hQB hQD hgl hQ hB
  clear hq hf hg hgl
  go_enter Tryd.func27, Tryd.ntmps27
  go_wp2_with fail
  refine HC.out.mono ?_
  rintro e w1 ⟨rfl, hq1, hb1, hk1⟩
  go_wp2
  go_ret2
  exact ⟨rfl, hq1, hb1, hk1⟩
end Go.Proofs.Qxb6618523aDoorRR
