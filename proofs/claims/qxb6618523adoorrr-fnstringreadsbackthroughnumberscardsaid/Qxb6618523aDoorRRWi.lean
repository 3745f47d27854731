/-
  THE WALK of (*StateReader).Numbers at k = 1: a header of one byte.
-/
import Derived.Test.Qxb6618523aDoorRRWh
namespace Go.Proofs.Qxb6618523aDoorRR
open Go.RowKit

/-- The number that eight bytes spell: the first and the rest. -/
theorem le_cons (b0 b1 b2 b3 b4 b5 b6 b7 : UInt8) : ∃ Y : Nat, Lib.leNat [b0, b1, b2, b3, b4, b5, b6, b7] = b0.toNat + 256 * Y ∧ Y < 72057594037927936 := by
  refine ⟨Lib.leNat [b1, b2, b3, b4, b5, b6, b7], rfl, ?_⟩
  have h1 := b1.toNat_lt
  have h2 := b2.toNat_lt
  have h3 := b3.toNat_lt
  have h4 := b4.toNat_lt
  have h5 := b5.toNat_lt
  have h6 := b6.toNat_lt
  have h7 := b7.toNat_lt
  simp only [Lib.leNat]
  omega
theorem and128_lo (x Y : Nat) (hx : x < 128) (hY : Y < 72057594037927936) : bits .and .u64 ((x + 256 * Y : Nat) : Int) 128 = 0 := by
  have h := u64_and_nat (x + 256 * Y) 128 (by omega) (by omega)
  have h2 : (x + 256 * Y) &&& 128 = 0 := by
    apply Nat.eq_of_testBit_eq
    intro j
    rw [Nat.testBit_and, Nat.zero_testBit, show (128 : Nat) = 2 ^ 7 from rfl, Nat.testBit_two_pow]
    by_cases hj : 7 = j
    · subst hj
      have : (x + 256 * Y).testBit 7 = false := by
        rw [Nat.testBit_eq_decide_div_mod_eq]
        simp; omega
      rw [this]; rfl
    · simp [hj]
  rw [h2] at h
  exact h
theorem and128_hi (x Y : Nat) (h0 : 128 ≤ x) (hx : x < 256) (hY : Y < 72057594037927936) : bits .and .u64 ((x + 256 * Y : Nat) : Int) 128 = 128 := by
  have h := u64_and_nat (x + 256 * Y) 128 (by omega) (by omega)
  have h2 : (x + 256 * Y) &&& 128 = 128 := by
    apply Nat.eq_of_testBit_eq
    intro j
    rw [Nat.testBit_and, show (128 : Nat) = 2 ^ 7 from rfl, Nat.testBit_two_pow]
    by_cases hj : 7 = j
    · subst hj
      have : (x + 256 * Y).testBit 7 = true := by
        rw [Nat.testBit_eq_decide_div_mod_eq]
        simp; omega
      rw [this]; rfl
    · simp [hj]
  rw [h2] at h
  exact h
theorem and255 (x Y : Nat) (hx : x < 256) (hY : Y < 72057594037927936) : bits .and .u64 ((x + 256 * Y : Nat) : Int) 255 = (x : Int) := by
  have h := u64_and_nat (x + 256 * Y) 255 (by omega) (by omega)
  have h2 : (x + 256 * Y) &&& 255 = x := by
    rw [show (255 : Nat) = 2 ^ 8 - 1 from rfl, Nat.and_two_pow_sub_one_eq_mod]
    omega
  rw [h2] at h
  exact h

theorem SR.setRec {w : World} {R Q B a e : Nat} {d : Bool} {l : Int} (h : SR w R Q B a e d l) (i : Nat) (z : Int) (hi : i < 16) : SR (w.setCell ⟨R, 7 + i, none⟩ (.int .u64 z)) R Q B a e d l := by
  have o : ∀ j, j ≠ 7 + i → (w.setCell ⟨R, 7 + i, none⟩ (.int .u64 z)).cell? ⟨R, j, none⟩ = w.cell? ⟨R, j, none⟩ := fun j hj => World.cell?_setCell_other _ _ _ _ (by simp only [ne_eq, Addr.mk.injEq, true_and, and_true]; exact fun x => hj x.symm)
  refine ⟨by rw [o 0 (by omega)]; exact h.c0, by rw [o 1 (by omega)]; exact h.c1, by rw [o 2 (by omega)]; exact h.c2, by rw [o 3 (by omega)]; exact h.c3, by rw [o 4 (by omega)]; exact h.c4, by rw [o 5 (by omega)]; exact h.c5, by rw [o 6 (by omega)]; exact h.c6,
    fun j hj => ?_, fun j hj => by rw [World.frozen?_setCell]; exact h.fr j hj⟩
  by_cases e : j = i
  · subst e
    obtain ⟨u, hu⟩ := h.rc j hj
    exact ⟨z, World.cell?_setCell_same _ _ _ hu⟩
  · rw [o (7 + j) (by omega)]; exact h.rc j hj
theorem far7 (w : World) (R j : Nat) (v : Value) (hj : j ≠ 7) : (w.setCell ⟨R, j, none⟩ v).cell? ⟨R, 7, none⟩ = w.cell? ⟨R, 7, none⟩ :=
  World.cell?_setCell_other _ _ _ _ (by simp only [ne_eq, Addr.mk.injEq, true_and, and_true]; exact hj)

/-- BEHIND Numbers(1): the number lies in the record; the header is taken. -/
def NumsEnd (R Q B m v : Nat) (f : Nat → UInt8) (w : World) (e : Ending) (w' : World) : Prop :=
  e = .returned (.slice (some ⟨R, 7, none⟩) 1 16) ∧ w'.cell? ⟨R, 7, none⟩ = some (.int .u64 (v : Int)) ∧ SR w' R Q B (hlen v) m true 0 ∧ Bf w' B 65792 f ∧ Kept [R, Q, B] w w'

theorem SR.recs {w : World} {R Q B a e : Nat} {d : Bool} {l : Int} (h : SR w R Q B a e d l) (z0 z1 z2 z3 z4 z5 z6 z7 : Int) :
    SR ((((((((w.setCell ⟨R, 7, none⟩ (.int .u64 z0)).setCell ⟨R, 8, none⟩ (.int .u64 z1)).setCell ⟨R, 9, none⟩ (.int .u64 z2)).setCell ⟨R, 10, none⟩ (.int .u64 z3)).setCell ⟨R, 11, none⟩ (.int .u64 z4)).setCell ⟨R, 12, none⟩ (.int .u64 z5)).setCell ⟨R, 13, none⟩ (.int .u64 z6)).setCell ⟨R, 14, none⟩ (.int .u64 z7)) R Q B a e d l := by
  have h0 := h.setRec 0 z0 (by omega)
  have h1 := h0.setRec 1 z1 (by omega)
  have h2 := h1.setRec 2 z2 (by omega)
  have h3 := h2.setRec 3 z3 (by omega)
  have h4 := h3.setRec 4 z4 (by omega)
  have h5 := h4.setRec 5 z5 (by omega)
  have h6 := h5.setRec 6 z6 (by omega)
  have h7 := h6.setRec 7 z7 (by omega)
  exact h7
theorem cell_dd (w : World) (a : Addr) : w.drew.drew.cell? a = w.cell? a := rfl
/-- The end of the short way. -/
theorem short_end {w w2 : World} {R Q B m v : Nat} {f : Nat → UInt8} (hv : v < 128) (hRB : R ≠ B) (hr : SR w2 R Q B 0 m true 0) (hb : Bf w2 B 65792 f) (hk : Kept [R, Q, B] w w2) (z1 z2 z3 z4 z5 z6 z7 : Int) :
    NumsEnd R Q B m v f w (.returned (.slice (some ⟨R, 7, none⟩) 1 16)) (((((((((w2.setCell ⟨R, 7, none⟩ (.int .u64 (v : Int))).setCell ⟨R, 8, none⟩ (.int .u64 z1)).setCell ⟨R, 9, none⟩ (.int .u64 z2)).setCell ⟨R, 10, none⟩ (.int .u64 z3)).setCell ⟨R, 11, none⟩ (.int .u64 z4)).setCell ⟨R, 12, none⟩ (.int .u64 z5)).setCell ⟨R, 13, none⟩ (.int .u64 z6)).setCell ⟨R, 14, none⟩ (.int .u64 z7)).setCell ⟨R, 2, none⟩ (.int .i64 1)).drew.drew := by
  refine ⟨rfl, ?_, ?_, ?_, ?_⟩
  · obtain ⟨u, hu⟩ := hr.rc 0 (by omega)
    have e0 : (w2.setCell ⟨R, 7, none⟩ (.int .u64 (v : Int))).cell? ⟨R, 7, none⟩ = some (.int .u64 (v : Int)) := World.cell?_setCell_same _ _ _ hu
    have e1 := (far7 _ R 8 (.int .u64 z1) (by omega)).trans e0
    have e2 := (far7 _ R 9 (.int .u64 z2) (by omega)).trans e1
    have e3 := (far7 _ R 10 (.int .u64 z3) (by omega)).trans e2
    have e4 := (far7 _ R 11 (.int .u64 z4) (by omega)).trans e3
    have e5 := (far7 _ R 12 (.int .u64 z5) (by omega)).trans e4
    have e6 := (far7 _ R 13 (.int .u64 z6) (by omega)).trans e5
    have e7 := (far7 _ R 14 (.int .u64 z7) (by omega)).trans e6
    have e8 := (far7 _ R 2 (.int .i64 1) (by omega)).trans e7
    rw [cell_dd]
    exact e8
  · rw [hlen_1 hv]
    exact (((hr.recs (v : Int) z1 z2 z3 z4 z5 z6 z7).setAt 1 1 (by simp)).drew).drew
  · exact ((((((((((hb.far R 7 _ hRB).far R 8 _ hRB).far R 9 _ hRB).far R 10 _ hRB).far R 11 _ hRB).far R 12 _ hRB).far R 13 _ hRB).far R 14 _ hRB).far R 2 _ hRB).drew).drew
  · exact ((((((((((hk.setCell ⟨R, 7, none⟩ _ (by simp)).setCell ⟨R, 8, none⟩ _ (by simp)).setCell ⟨R, 9, none⟩ _ (by simp)).setCell ⟨R, 10, none⟩ _ (by simp)).setCell ⟨R, 11, none⟩ _ (by simp)).setCell ⟨R, 12, none⟩ _ (by simp)).setCell ⟨R, 13, none⟩ _ (by simp)).setCell ⟨R, 14, none⟩ _ (by simp)).setCell ⟨R, 2, none⟩ _ (by simp)).drew).drew

set_option maxRecDepth 100000 in
set_option maxHeartbeats 1000000 in
theorem nums_small (R Q D B m base v : Nat) (aE aU : Addr) (f : Nat → UInt8) (w : World) (hv : v < 128) (hfv : (f 0).toNat = v) (h0 : 0 < m) (hm : m ≤ 65535) (hr : SR w R Q B 0 0 false (m : Int)) (hq : BR w Q D m 0) (hf : Bf w D m f) (hg : Bf w B 65792 (fun _ => 0)) (hz : ∀ j, m ≤ j → f j = 0)
    (hQB : Q ≠ B) (hQD : Q ≠ D) (hRQ : R ≠ Q) (hRB : R ≠ B) (hgl : Gl w base aE aU) (hR : base ≤ R) (hQ : base ≤ Q) (hB : base ≤ B) :
    Calls Tryd.prog 10 #[.pointer (some ⟨R, 0, none⟩), .int .i64 1] w fun e w' => NumsEnd R Q B m v f w e w' := by
  have HC : Hid (∀ k, Calls Tryd.prog 21 #[.pointer (some ⟨R, 0, none⟩)] (w.drewN k) fun e w' => FillEnd R Q B m f (w.drewN k) e w') :=
    fun k => need21 R Q D B m base aE aU f (w.drewN k) h0 hm (hr.drewN k) (hq.drewN k) (hf.drewN k) (hg.drewN k) hz hQB hQD hRQ hRB (hgl.drewN k) hR hQ hB
  have HG : Hid (Gl w base aE aU) := hgl
  obtain ⟨c0, c1, c2, c3, c4, c5, c6, _, fr⟩ := hr
  clear hq hf hg hgl fr
  go_enter Tryd.func10, Tryd.ntmps10
  go_wp2
  go_quiet (fail)
  go_wp2_with fail
  refine (HC.out _).mono ?_
  rintro e w1 ⟨rfl, hr1, hb1, hk1⟩
  have hg1 := (HG.out.drewN _).kept hk1 (by intro x hx; simp at hx; omega)
  have hk0 : Kept [R, Q, B] w w1 := ((Kept.refl _ _).drewN _).trans hk1
  have HF : Hid (SR w1 R Q B 0 m true 0 ∧ Bf w1 B 65792 f ∧ Kept [R, Q, B] w w1 ∧ Gl w1 base aE aU) := ⟨hr1, hb1, hk0, hg1⟩
  clear c0 c1 c2 c3 c4 c5 c6 hb1 hk1 HC HG hg1 hk0
  obtain ⟨c0, c1, c2, c3, c4, c5, c6, _, fr⟩ := hr1
  clear fr
  go_wp2
  go_quiet (fail)
  go_wp2_with fail
  refine (Tryd.binary_LE_Uint64 B 0 65792 65792 (f 0) (f 1) (f 2) (f 3) (f 4) (f 5) (f 6) (f 7) _ (by omega) (by exact HF.out.2.1.cell 0 (by omega)) (by exact HF.out.2.1.cell 1 (by omega)) (by exact HF.out.2.1.cell 2 (by omega)) (by exact HF.out.2.1.cell 3 (by omega)) (by exact HF.out.2.1.cell 4 (by omega)) (by exact HF.out.2.1.cell 5 (by omega)) (by exact HF.out.2.1.cell 6 (by omega)) (by exact HF.out.2.1.cell 7 (by omega))).mono ?_
  rintro e w2 ⟨rfl, hbl⟩
  obtain ⟨Y, hY, hYl⟩ := le_cons (f 0) (f 1) (f 2) (f 3) (f 4) (f 5) (f 6) (f 7)
  generalize Lib.leNat [f 0, f 1, f 2, f 3, f 4, f 5, f 6, f 7] = X at hY
  have hA : bits .and .u64 (X : Int) 128 = 0 := by rw [hY, hfv]; exact and128_lo v Y hv hYl
  have hB2 : bits .and .u64 (X : Int) 255 = (v : Int) := by rw [hY, hfv]; exact and255 v Y (by omega) hYl
  have hXl : (X : Int) < 18446744073709551616 := by rw [hY]; omega
  obtain ⟨hr1, hb1, hk1, hg1⟩ := HF.out
  have hk2 : Kept [] w1 w2 := ((Kept.refl _ _).drewN _).trans (Kept.of_below _ hbl)
  have hr2 := hr1.kept hk2 (by simp)
  have hb2 := hb1.kept hk2 (by simp)
  have hg2 := hg1.kept hk2 (by simp)
  have HE : Hid (SR w2 R Q B 0 m true 0 ∧ Bf w2 B 65792 f ∧ Kept [R, Q, B] w w2) := ⟨hr2, hb2, hk1.trans (hk2.mono (by simp))⟩
  have gt := hg2.t
  clear hY hYl hr1 hb1 hk1 hg1 hk2 hb2 hg2 HF hbl c0 c1 c2 c3 c4 c5 c6
  obtain ⟨z0, y0⟩ := hr2.rc 0 (by omega)
  have x0 := hr2.fr 7 (by omega)
  obtain ⟨z1, y1⟩ := hr2.rc 1 (by omega)
  have x1 := hr2.fr 8 (by omega)
  obtain ⟨z2, y2⟩ := hr2.rc 2 (by omega)
  have x2 := hr2.fr 9 (by omega)
  obtain ⟨z3, y3⟩ := hr2.rc 3 (by omega)
  have x3 := hr2.fr 10 (by omega)
  obtain ⟨z4, y4⟩ := hr2.rc 4 (by omega)
  have x4 := hr2.fr 11 (by omega)
  obtain ⟨z5, y5⟩ := hr2.rc 5 (by omega)
  have x5 := hr2.fr 12 (by omega)
  obtain ⟨z6, y6⟩ := hr2.rc 6 (by omega)
  have x6 := hr2.fr 13 (by omega)
  obtain ⟨z7, y7⟩ := hr2.rc 7 (by omega)
  have x7 := hr2.fr 14 (by omega)
  obtain ⟨c0, c1, c2, c3, c4, c5, c6, _, fr⟩ := hr2
  have x2 := fr 2 (by omega)
  clear fr
  go_wp2
  go_region
  go_wp2
  go_region
  go_wp2
  go_ret
  obtain ⟨hr2, hb2, hk2⟩ := HE.out
  exact short_end hv hRB hr2 hb2 hk2 _ _ _ _ _ _ _
end Go.Proofs.Qxb6618523aDoorRR
