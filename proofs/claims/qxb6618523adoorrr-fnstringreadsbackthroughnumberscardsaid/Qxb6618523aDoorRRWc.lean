/-
  THE WALK of (*StateWriter).Numbers at one number below 60001.
-/
import Derived.Test.Qxb6618523aDoorRRWb
import Derived.Test.Qxb6618523aDoorRRShelf
import Derived.Test.Qxb6618523aDoorRRPlain
namespace Go.Proofs.Qxb6618523aDoorRR
open Go.RowKit

theorem SW.kept {S : List Nat} {w w' : World} {P B k : Nat} (h : SW w P B k) (hk : Kept S w w') (hn : P ∉ S) : SW w' P B k := by
  have hl := lt_of_cell h.c0
  exact ⟨by rw [hk.cell 0 hl hn]; exact h.c0, by rw [hk.cell 1 hl hn]; exact h.c1, by rw [hk.cell 2 hl hn]; exact h.c2, by rw [hk.cell 3 hl hn]; exact h.c3, by rw [hk.frozen 2 hl hn]; exact h.f2⟩
theorem SW.set {w : World} {P B k : Nat} (h : SW w P B k) (k' : Int) (n : Nat) (e : k' = (n : Int)) : SW (w.setCell ⟨P, 2, none⟩ (.int .i64 k')) P B n := by
  subst e
  exact ⟨by rw [World.cell?_setCell_other _ _ _ _ (by simp)]; exact h.c0, by rw [World.cell?_setCell_other _ _ _ _ (by simp)]; exact h.c1, World.cell?_setCell_same _ _ _ h.c2, by rw [World.cell?_setCell_other _ _ _ _ (by simp)]; exact h.c3, by rw [World.frozen?_setCell]; exact h.f2⟩

/-- BEHIND THE CALL: the header is gathered. -/
def NumEnd (P B v : Nat) (w : World) (e : Ending) (w' : World) : Prop :=
  e = .returned (.tuple #[]) ∧ SW w' P B (hlen v) ∧ Bf w' B 65792 (hbyte v) ∧ Kept [B, P] w w'

theorem le_small (v : Nat) (hv : v < 128) : Lib.byteCells (Lib.leBytes 8 v) = (List.range 8).map fun j => Value.int .u8 ((hbyte v j).toNat : Int) := by
  have h0 : v / 256 = 0 := by omega
  have h1 : v % 256 = v := by omega
  have e0 : (hbyte v 0).toNat = v := by rw [hbyte_toNat (by omega)]; unfold hnat; rw [if_pos hv, if_pos rfl]
  have ej : ∀ j, 1 ≤ j → (hbyte v j).toNat = 0 := fun j hj => by rw [hbyte_toNat (by omega), hnat_far (by rw [hlen_1 hv]; exact hj)]
  have ev : (v.toUInt8).toNat = v := toNat_ofNat (by omega)
  simp only [Lib.leBytes, Lib.byteCells, h0, h1, List.map_cons, List.map_nil, List.range, List.range.loop]
  simp only [e0, ev, ej 1 (by omega), ej 2 (by omega), ej 3 (by omega), ej 4 (by omega), ej 5 (by omega), ej 6 (by omega), ej 7 (by omega)]
  rfl

set_option maxRecDepth 100000 in
set_option maxHeartbeats 400000 in
theorem num_small (P B V v : Nat) (w : World) (hv : v < 128) (h : SW w P B 0) (hf : Bf w B 65792 (fun _ => 0)) (hc : w.cell? ⟨V, 0, none⟩ = some (.int .u64 (v : Int))) (hPB : P ≠ B) :
    Calls Tryd.prog 23 #[.pointer (some ⟨P, 0, none⟩), .slice (some ⟨V, 0, none⟩) 1 1] w fun e w' => NumEnd P B v w e w' := by
  have HS : Hid (SW w P B 0) := h
  obtain ⟨c0, c1, c2, c3, f2⟩ := h
  have HF : Hid (Bf w B 65792 (fun _ => 0)) := hf
  have ho := or0 v (by omega)
  clear hf
  go_enter Tryd.func23, Tryd.ntmps23
  go_wp2
  go_quiet (fail)
  go_wp2
  refine wp_loop_rounds 2 ?_
  rw [rounds_succ]
  go_wp2
  go_quiet (fail)
  go_wp2
  rw [rounds_succ]
  go_wp2_with fail
  refine (Tryd.binary_LE_PutUint64 B 0 256 65792 v (by omega) _ _ _ _ _ _ _ _ _ (by omega) (by exact HF.out.cell 0 (by omega)) (by exact HF.out.cell 1 (by omega)) (by exact HF.out.cell 2 (by omega)) (by exact HF.out.cell 3 (by omega)) (by exact HF.out.cell 4 (by omega)) (by exact HF.out.cell 5 (by omega)) (by exact HF.out.cell 6 (by omega)) (by exact HF.out.cell 7 (by omega)) (by exact HF.out.free 0 (by omega)) (by exact HF.out.free 1 (by omega)) (by exact HF.out.free 2 (by omega)) (by exact HF.out.free 3 (by omega)) (by exact HF.out.free 4 (by omega)) (by exact HF.out.free 5 (by omega)) (by exact HF.out.free 6 (by omega)) (by exact HF.out.free 7 (by omega))).mono ?_
  rintro e w1 ⟨rfl, hw1⟩
  have hk1 : Kept [B] w w1 := by
    rw [hw1]
    exact Kept.setCells B (by simp) _ _ _ (((Kept.refl _ _).drewN _).alloc _)
  have hb1 : Bf w1 B 65792 (hbyte v) := by
    rw [hw1, le_small v hv]
    refine (((HF.out.drewN _).kept ((Kept.refl [] _).alloc _) (by simp)).setCells 0 8 (hbyte v) (by omega)).congr (fun j hj => ?_)
    by_cases hj8 : j < 8
    · rw [if_pos ⟨by omega, by omega⟩]; rfl
    · rw [if_neg (by omega), hbyte_far (by rw [hlen_1 hv]; omega)]
  have hs1 := HS.out.kept hk1 (by simpa using hPB)
  have HE : Hid (Bf w1 B 65792 (hbyte v) ∧ SW w1 P B 0 ∧ Kept [B] w w1) := ⟨hb1, hs1, hk1⟩
  clear hw1 hb1 hk1 c0 c1 c2 c3 f2 hc
  obtain ⟨d0, d1, d2, d3, g2⟩ := hs1
  go_wp2
  go_end0
  obtain ⟨hb1, hs1, hk1⟩ := HE.out
  refine ⟨rfl, ?_, hb1.far _ _ _ hPB, (hk1.mono (by simp)).setCell _ _ (by simp)⟩
  rw [hlen_1 hv]
  exact hs1.set _ 1 (by simp)
end Go.Proofs.Qxb6618523aDoorRR
