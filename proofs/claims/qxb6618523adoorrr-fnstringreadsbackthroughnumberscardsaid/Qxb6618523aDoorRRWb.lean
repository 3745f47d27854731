/-
  THE WRITER's STRUCT; THE WALKS of ZZnewStateWriter, ZZwriterBytes, zzCopyBytes.
-/
import Derived.Test.Qxb6618523aDoorRRWa
namespace Go.Proofs.Qxb6618523aDoorRR
open Go.RowKit

theorem mkBig (w : World) : (Instr.makeSlice 26 (.int .i64 65792) (.int .i64 65792)).run Tryd.prog w = .ok (.slice (some ⟨w.heap.size, 0, none⟩) 65792 65792) (w.alloc (zeroRow 65792)) := mk 65792 (by omega) w

/-- THE WRITER: block P; its buffer: block B; k bytes gathered; no writer under it, no error. -/
structure SW (w : World) (P B k : Nat) : Prop where
  c0 : w.cell? ⟨P, 0, none⟩ = some .nilIface
  c1 : w.cell? ⟨P, 1, none⟩ = some (.slice (some ⟨B, 0, none⟩) 65792 65792)
  c2 : w.cell? ⟨P, 2, none⟩ = some (.int .i64 (k : Int))
  c3 : w.cell? ⟨P, 3, none⟩ = some .nilIface
  f2 : w.frozen? ⟨P, 2, none⟩ = false

set_option maxHeartbeats 400000 in
theorem new5 (w : World) : Calls Tryd.prog 5 #[] w fun e w' => e = .returned (.pointer (some ⟨w.heap.size + 1, 0, none⟩)) ∧ w' = (w.alloc (zeroRow 65792)).alloc (.cells #[.nilIface, .slice (some ⟨w.heap.size, 0, none⟩) 65792 65792, .int .i64 0, .nilIface] 45) := by
  have hm := mkBig
  go_enter Tryd.func5, Tryd.ntmps5
  go_wp2
  go_ret
  exact ⟨rfl, rfl⟩

theorem sw_new (w : World) : SW ((w.alloc (zeroRow 65792)).alloc (.cells #[.nilIface, .slice (some ⟨w.heap.size, 0, none⟩) 65792 65792, .int .i64 0, .nilIface] 45)) (w.heap.size + 1) w.heap.size 0 := by
  have e : (w.alloc (zeroRow 65792)).heap.size = w.heap.size + 1 := World.size_alloc _ _
  refine ⟨?_, ?_, ?_, ?_, ?_⟩
  · rw [World.cell?_alloc_at _ _ _ _ e.symm]; rfl
  · rw [World.cell?_alloc_at _ _ _ _ e.symm]; rfl
  · rw [World.cell?_alloc_at _ _ _ _ e.symm]; rfl
  · rw [World.cell?_alloc_at _ _ _ _ e.symm]; rfl
  · rw [World.frozen?_alloc_at _ _ _ _ e.symm]

set_option maxHeartbeats 400000 in
theorem bytes8 (P B k : Nat) (w : World) (hk : k ≤ 65536) (h : SW w P B k) :
    Calls Tryd.prog 8 #[.pointer (some ⟨P, 0, none⟩)] w fun e w' => e = .returned (.slice (some ⟨B, 0, none⟩) k 65792) ∧ ∃ n, w' = w.drewN n := by
  obtain ⟨c0, c1, c2, c3, f2⟩ := h
  go_enter Tryd.func8, Tryd.ntmps8
  go_wp2
  go_quiet (fail)
  go_wp2
  go_ret
  exact ⟨rfl, _, rfl⟩

set_option maxHeartbeats 400000 in
theorem copy7 (B m : Nat) (f : Nat → UInt8) (w : World) (hm : m ≤ 65536) (hf : Bf w B 65792 f) :
    Calls Tryd.prog 7 #[.slice (some ⟨B, 0, none⟩) m 65792] w fun e w' => e = .returned (.slice (some ⟨w.heap.size, 0, none⟩) m m) ∧ Bf w' w.heap.size m f ∧ Below w.heap.size w w' := by
  have hmk := mk m (by omega)
  have hB := hf.lt (j := 0) (by omega)
  have HF : Hid (Bf w B 65792 f) := hf
  clear hf
  go_enter Tryd.func7, Tryd.ntmps7
  go_wp2
  go_loopw [10] (fun i wr => ∃ (k : Nat) (g : Nat → UInt8), k ≤ m ∧ i = .int .i64 k ∧ Bf wr w.heap.size m g ∧ (∀ j, j < k → g j = f j) ∧ Below w.heap.size w wr) (fun i _ => m - (intOf i).toNat)
  case atStart => exact ⟨0, _, by omega, rfl, bf_made w m, fun j hj => by omega, (Below.refl _ _).alloc (Nat.le_refl _) _⟩
  case round =>
    obtain ⟨k, g, hk, rfl, hg, he, hnx⟩ := hrel
    by_cases hlt : k < m
    · have hc : wr.cell? ⟨B, k, none⟩ = some (.int .u8 ((f k).toNat : Int)) := (hnx.cell (p := ⟨B, k, none⟩) hB).trans (HF.out.cell k (by omega))
      have hc2 := hg.cell k hlt
      have hf2 := hg.free k hlt
      have HG : Hid (Bf wr w.heap.size m g ∧ (∀ j, j < k → g j = f j) ∧ Below w.heap.size w wr) := ⟨hg, he, hnx⟩
      clear hg he hnx
      go_wp2
      go_roundw
      case rel =>
        obtain ⟨hg, he, hnx⟩ := HG.out
        refine ⟨k + 1, _, by omega, by go_num, hg.set k (f k) hlt, fun j hj => ?_, hnx.setCell (Nat.le_refl _) _⟩
        by_cases e : j = k
        · rw [if_pos e, e]
        · rw [if_neg e]; exact he j (by omega)
      case measure => simp [intOf]; omega
    · have hbf : Bf wr w.heap.size m f := hg.congr (fun j hj => he j (by omega))
      clear hg he
      go_wp2
      go_ret
      exact ⟨rfl, hbf, hnx⟩
end Go.Proofs.Qxb6618523aDoorRR
