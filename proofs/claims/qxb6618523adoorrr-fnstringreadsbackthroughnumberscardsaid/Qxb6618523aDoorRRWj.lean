/-
  THE WALK of (*StateReader).Numbers at k = 1: headers of two and three bytes.
-/
import Derived.Test.Qxb6618523aDoorRRWi
namespace Go.Proofs.Qxb6618523aDoorRR
open Go.RowKit

theorem or_low (x y k : Nat) (hx : x < 2 ^ k) (hs : 2 ^ k * y + x < 18446744073709551616) : bits .or .u64 (x : Int) ((2 ^ k * y : Nat) : Int) = ((2 ^ k * y + x : Nat) : Int) := by
  have h := u64_or_nat x (2 ^ k * y) (by omega) (by omega)
  rw [h, Nat.or_comm, ← Nat.two_pow_add_eq_or_of_lt hx]
theorem or_mid (v : Nat) (hv : v ≤ 60000) : bits .or .u64 ((v : Int) % 128) ((v : Int) / 128 * 128) = (v : Int) := by
  have h := or_low (v % 128) (v / 128) 7 (by omega) (by omega)
  have e1 : (((v % 128 : Nat)) : Int) = (v : Int) % 128 := by omega
  have e2 : ((2 ^ 7 * (v / 128) : Nat) : Int) = (v : Int) / 128 * 128 := by omega
  have e3 : ((2 ^ 7 * (v / 128) + v % 128 : Nat) : Int) = (v : Int) := by omega
  rw [e1, e2, e3] at h
  exact h
theorem or_one (v : Nat) : bits .or .u64 ((v : Int) % 128) ((v : Int) / 128 % 128 * 128) = (v : Int) % 16384 := by
  have h := or_low (v % 128) (v / 128 % 128) 7 (by omega) (by omega)
  have e1 : (((v % 128 : Nat)) : Int) = (v : Int) % 128 := by omega
  have e2 : ((2 ^ 7 * (v / 128 % 128) : Nat) : Int) = (v : Int) / 128 % 128 * 128 := by omega
  have e3 : ((2 ^ 7 * (v / 128 % 128) + v % 128 : Nat) : Int) = (v : Int) % 16384 := by omega
  rw [e1, e2, e3] at h
  exact h
theorem or_two (v : Nat) (hv : v ≤ 60000) : bits .or .u64 ((v : Int) % 16384) ((v : Int) / 16384 * 16384) = (v : Int) := by
  have h := or_low (v % 16384) (v / 16384) 14 (by omega) (by omega)
  have e1 : (((v % 16384 : Nat)) : Int) = (v : Int) % 16384 := by omega
  have e2 : ((2 ^ 14 * (v / 16384) : Nat) : Int) = (v : Int) / 16384 * 16384 := by omega
  have e3 : ((2 ^ 14 * (v / 16384) + v % 16384 : Nat) : Int) = (v : Int) := by omega
  rw [e1, e2, e3] at h
  exact h

/-- The end of the long way. -/
theorem long_end {w w2 : World} {R Q B m v : Nat} {f : Nat → UInt8} (hRB : R ≠ B) (hr : SR w2 R Q B 0 m true 0) (hb : Bf w2 B 65792 f) (hk : Kept [R, Q, B] w w2) (z y : Int) (hz : z = (v : Int)) (hy : y = (hlen v : Int)) :
    NumsEnd R Q B m v f w (.returned (.slice (some ⟨R, 7, none⟩) 1 16)) ((w2.setCell ⟨R, 7, none⟩ (.int .u64 z)).setCell ⟨R, 2, none⟩ (.int .i64 y)) := by
  subst hz
  refine ⟨rfl, ?_, ?_, ?_, ?_⟩
  · obtain ⟨u, hu⟩ := hr.rc 0 (by omega)
    have e0 : (w2.setCell ⟨R, 7, none⟩ (.int .u64 (v : Int))).cell? ⟨R, 7, none⟩ = some (.int .u64 (v : Int)) := World.cell?_setCell_same _ _ _ hu
    exact (far7 _ R 2 (.int .i64 y) (by omega)).trans e0
  · have h1 := hr.setRec 0 (v : Int) (by omega)
    exact SR.setAt h1 y (hlen v) hy
  · exact (hb.far R 7 _ hRB).far R 2 _ hRB
  · exact (hk.setCell ⟨R, 7, none⟩ _ (by simp)).setCell ⟨R, 2, none⟩ _ (by simp)

set_option maxRecDepth 100000 in
set_option maxHeartbeats 1000000 in
theorem nums_big (R Q D B m base v : Nat) (aE aU : Addr) (f : Nat → UInt8) (w : World) (hv : 16384 ≤ v) (hv2 : v ≤ 60000) (hf0 : (f 0).toNat = v % 128 + 128) (hf1 : (f 1).toNat = v / 128 % 128 + 128) (hf2 : (f 2).toNat = v / 16384) (h0 : 0 < m) (hm : m ≤ 65535) (hr : SR w R Q B 0 0 false (m : Int)) (hq : BR w Q D m 0) (hf : Bf w D m f) (hg : Bf w B 65792 (fun _ => 0)) (hz : ∀ j, m ≤ j → f j = 0)
    (hQB : Q ≠ B) (hQD : Q ≠ D) (hRQ : R ≠ Q) (hRB : R ≠ B) (hgl : Gl w base aE aU) (hR : base ≤ R) (hQ : base ≤ Q) (hB : base ≤ B) :
    Calls Tryd.prog 10 #[.pointer (some ⟨R, 0, none⟩), .int .i64 1] w fun e w' => NumsEnd R Q B m v f w e w' := by
  have hl0 := (f 0).toNat_lt
  have hge0 : 128 ≤ (f 0).toNat := by omega
  have a0 : bits .and .u8 ((f 0).toNat : Int) 127 = ((v % 128 : Nat) : Int) := by rw [and127 _ (f 0).toNat_lt]; omega
  have a1 : bits .and .u8 ((f 1).toNat : Int) 127 = ((v / 128 % 128 : Nat) : Int) := by rw [and127 _ (f 1).toNat_lt]; omega
  have a2 : bits .and .u8 ((f 2).toNat : Int) 127 = ((v / 16384 : Nat) : Int) := by rw [and127 _ (f 2).toNat_lt]; omega
  have e0 : decide ((128 : Int) ≤ ((f 0).toNat : Int)) = true := by rw [decide_eq_true_eq]; omega
  have e1 : decide ((128 : Int) ≤ ((f 1).toNat : Int)) = true := by rw [decide_eq_true_eq]; omega
  have e2 : decide ((128 : Int) ≤ ((f 2).toNat : Int)) = false := by rw [decide_eq_false_iff_not]; omega
  have o1 := or_one v
  have O2 : Hid (bits .or .u64 ((v : Int) % 16384) ((v : Int) / 16384 * 16384) = (v : Int)) := or_two v hv2
  clear hf0 hf1 hf2
  have HC : Hid (∀ k, Calls Tryd.prog 21 #[.pointer (some ⟨R, 0, none⟩)] (w.drewN k) fun e w' => FillEnd R Q B m f (w.drewN k) e w') :=
    fun k => need21 R Q D B m base aE aU f (w.drewN k) h0 hm (hr.drewN k) (hq.drewN k) (hf.drewN k) (hg.drewN k) hz hQB hQD hRQ hRB (hgl.drewN k) hR hQ hB
  have HG : Hid (Gl w base aE aU) := hgl
  obtain ⟨c0, c1, c2, c3, c4, c5, c6, _, fr⟩ := hr
  clear hq hf hg hgl fr
  go_enter Tryd.func10, Tryd.ntmps10
  go_wp2
  go_quiet (fail)
  go_wp2_with fail
  refine (HC.out _).mono ?_
  rintro e w1 ⟨rfl, hr1, hb1, hk1⟩
  have hg1 := (HG.out.drewN _).kept hk1 (by intro x hx; simp at hx; omega)
  have hk0 : Kept [R, Q, B] w w1 := ((Kept.refl _ _).drewN _).trans hk1
  have HF : Hid (SR w1 R Q B 0 m true 0 ∧ Bf w1 B 65792 f ∧ Kept [R, Q, B] w w1 ∧ Gl w1 base aE aU) := ⟨hr1, hb1, hk0, hg1⟩
  clear c0 c1 c2 c3 c4 c5 c6 hb1 hk1 HC HG hg1 hk0
  obtain ⟨c0, c1, c2, c3, c4, c5, c6, _, fr⟩ := hr1
  clear fr
  go_wp2
  go_quiet (fail)
  go_wp2_with fail
  refine (Tryd.binary_LE_Uint64 B 0 65792 65792 (f 0) (f 1) (f 2) (f 3) (f 4) (f 5) (f 6) (f 7) _ (by omega) (by exact HF.out.2.1.cell 0 (by omega)) (by exact HF.out.2.1.cell 1 (by omega)) (by exact HF.out.2.1.cell 2 (by omega)) (by exact HF.out.2.1.cell 3 (by omega)) (by exact HF.out.2.1.cell 4 (by omega)) (by exact HF.out.2.1.cell 5 (by omega)) (by exact HF.out.2.1.cell 6 (by omega)) (by exact HF.out.2.1.cell 7 (by omega))).mono ?_
  rintro e w2 ⟨rfl, hbl⟩
  obtain ⟨Y, hY, hYl⟩ := le_cons (f 0) (f 1) (f 2) (f 3) (f 4) (f 5) (f 6) (f 7)
  generalize Lib.leNat [f 0, f 1, f 2, f 3, f 4, f 5, f 6, f 7] = X at hY
  have hA : bits .and .u64 (X : Int) 128 = 128 := by rw [hY]; exact and128_hi (f 0).toNat Y hge0 (f 0).toNat_lt hYl
  have hXl : (X : Int) < 18446744073709551616 := by rw [hY]; omega
  obtain ⟨hr1, hb1, hk1, hg1⟩ := HF.out
  have hk2 : Kept [] w1 w2 := ((Kept.refl _ _).drewN _).trans (Kept.of_below _ hbl)
  have hr2 := hr1.kept hk2 (by simp)
  have hb2 := hb1.kept hk2 (by simp)
  have hg2 := hg1.kept hk2 (by simp)
  have HE : Hid (SR w2 R Q B 0 m true 0 ∧ Bf w2 B 65792 f ∧ Kept [R, Q, B] w w2) := ⟨hr2, hb2, hk1.trans (hk2.mono (by simp))⟩
  have gt := hg2.t
  have k0 := hb2.cell 0 (by omega)
  have k1 := hb2.cell 1 (by omega)
  have k2 := hb2.cell 2 (by omega)
  clear hY hYl hr1 hb1 hk1 hg1 hk2 hb2 hg2 HF hbl c0 c1 c2 c3 c4 c5 c6
  obtain ⟨z0, y0⟩ := hr2.rc 0 (by omega)
  have x0 := hr2.fr 7 (by omega)
  obtain ⟨c0, c1, c2, c3, c4, c5, c6, _, fr⟩ := hr2
  have x2 := fr 2 (by omega)
  clear fr
  go_wp2
  refine wp_loop_rounds 2 ?_
  rw [rounds_succ]
  go_wp2
  refine wp_loop_rounds 3 ?_
  rw [rounds_succ]
  go_wp2
  rw [rounds_succ]
  go_wp2
  rw [rounds_succ]
  go_wp2
  rw [rounds_succ]
  go_wp2
  go_ret
  obtain ⟨hr2, hb2, hk2⟩ := HE.out
  exact long_end hRB hr2 hb2 hk2 _ _ O2.out (by rw [hlen_3 (by omega)]; rfl)

set_option maxRecDepth 100000 in
set_option maxHeartbeats 1000000 in
theorem nums_mid (R Q D B m base v : Nat) (aE aU : Addr) (f : Nat → UInt8) (w : World) (hv : 128 ≤ v) (hv2 : v < 16384) (hf0 : (f 0).toNat = v % 128 + 128) (hf1 : (f 1).toNat = v / 128) (h0 : 0 < m) (hm : m ≤ 65535) (hr : SR w R Q B 0 0 false (m : Int)) (hq : BR w Q D m 0) (hf : Bf w D m f) (hg : Bf w B 65792 (fun _ => 0)) (hz : ∀ j, m ≤ j → f j = 0)
    (hQB : Q ≠ B) (hQD : Q ≠ D) (hRQ : R ≠ Q) (hRB : R ≠ B) (hgl : Gl w base aE aU) (hR : base ≤ R) (hQ : base ≤ Q) (hB : base ≤ B) :
    Calls Tryd.prog 10 #[.pointer (some ⟨R, 0, none⟩), .int .i64 1] w fun e w' => NumsEnd R Q B m v f w e w' := by
  have hl0 := (f 0).toNat_lt
  have hge0 : 128 ≤ (f 0).toNat := by omega
  have hlt1 : (f 1).toNat < 128 := by omega
  have a0 : bits .and .u8 ((f 0).toNat : Int) 127 = ((v % 128 : Nat) : Int) := by rw [and127 _ (f 0).toNat_lt]; omega
  have a1 : bits .and .u8 ((f 1).toNat : Int) 127 = ((v / 128 : Nat) : Int) := by rw [and127 _ (f 1).toNat_lt]; omega
  have e0 : decide ((128 : Int) ≤ ((f 0).toNat : Int)) = true := by rw [decide_eq_true_eq]; omega
  have e1 : decide ((128 : Int) ≤ ((f 1).toNat : Int)) = false := by rw [decide_eq_false_iff_not]; omega
  clear hf0 hf1
  have HC : Hid (∀ k, Calls Tryd.prog 21 #[.pointer (some ⟨R, 0, none⟩)] (w.drewN k) fun e w' => FillEnd R Q B m f (w.drewN k) e w') :=
    fun k => need21 R Q D B m base aE aU f (w.drewN k) h0 hm (hr.drewN k) (hq.drewN k) (hf.drewN k) (hg.drewN k) hz hQB hQD hRQ hRB (hgl.drewN k) hR hQ hB
  have HG : Hid (Gl w base aE aU) := hgl
  obtain ⟨c0, c1, c2, c3, c4, c5, c6, _, fr⟩ := hr
  clear hq hf hg hgl fr
  go_enter Tryd.func10, Tryd.ntmps10
  go_wp2
  go_quiet (fail)
  go_wp2_with fail
  refine (HC.out _).mono ?_
  rintro e w1 ⟨rfl, hr1, hb1, hk1⟩
  have hg1 := (HG.out.drewN _).kept hk1 (by intro x hx; simp at hx; omega)
  have hk0 : Kept [R, Q, B] w w1 := ((Kept.refl _ _).drewN _).trans hk1
  have HF : Hid (SR w1 R Q B 0 m true 0 ∧ Bf w1 B 65792 f ∧ Kept [R, Q, B] w w1 ∧ Gl w1 base aE aU) := ⟨hr1, hb1, hk0, hg1⟩
  clear c0 c1 c2 c3 c4 c5 c6 hb1 hk1 HC HG hg1 hk0
  obtain ⟨c0, c1, c2, c3, c4, c5, c6, _, fr⟩ := hr1
  clear fr
  go_wp2
  go_quiet (fail)
  go_wp2_with fail
  refine (Tryd.binary_LE_Uint64 B 0 65792 65792 (f 0) (f 1) (f 2) (f 3) (f 4) (f 5) (f 6) (f 7) _ (by omega) (by exact HF.out.2.1.cell 0 (by omega)) (by exact HF.out.2.1.cell 1 (by omega)) (by exact HF.out.2.1.cell 2 (by omega)) (by exact HF.out.2.1.cell 3 (by omega)) (by exact HF.out.2.1.cell 4 (by omega)) (by exact HF.out.2.1.cell 5 (by omega)) (by exact HF.out.2.1.cell 6 (by omega)) (by exact HF.out.2.1.cell 7 (by omega))).mono ?_
  rintro e w2 ⟨rfl, hbl⟩
  obtain ⟨Y, hY, hYl⟩ := le_cons (f 0) (f 1) (f 2) (f 3) (f 4) (f 5) (f 6) (f 7)
  generalize Lib.leNat [f 0, f 1, f 2, f 3, f 4, f 5, f 6, f 7] = X at hY
  have hA : bits .and .u64 (X : Int) 128 = 128 := by rw [hY]; exact and128_hi (f 0).toNat Y hge0 (f 0).toNat_lt hYl
  have hXl : (X : Int) < 18446744073709551616 := by rw [hY]; omega
  obtain ⟨hr1, hb1, hk1, hg1⟩ := HF.out
  have hk2 : Kept [] w1 w2 := ((Kept.refl _ _).drewN _).trans (Kept.of_below _ hbl)
  have hr2 := hr1.kept hk2 (by simp)
  have hb2 := hb1.kept hk2 (by simp)
  have hg2 := hg1.kept hk2 (by simp)
  have HE : Hid (SR w2 R Q B 0 m true 0 ∧ Bf w2 B 65792 f ∧ Kept [R, Q, B] w w2) := ⟨hr2, hb2, hk1.trans (hk2.mono (by simp))⟩
  have gt := hg2.t
  have k0 := hb2.cell 0 (by omega)
  have k1 := hb2.cell 1 (by omega)
  have k2 := hb2.cell 2 (by omega)
  clear hY hYl hr1 hb1 hk1 hg1 hk2 hb2 hg2 HF hbl c0 c1 c2 c3 c4 c5 c6
  obtain ⟨z0, y0⟩ := hr2.rc 0 (by omega)
  have x0 := hr2.fr 7 (by omega)
  obtain ⟨c0, c1, c2, c3, c4, c5, c6, _, fr⟩ := hr2
  have x2 := fr 2 (by omega)
  clear fr
  go_wp2
  refine wp_loop_rounds 2 ?_
  rw [rounds_succ]
  go_wp2
  refine wp_loop_rounds 2 ?_
  rw [rounds_succ]
  go_wp2
  rw [rounds_succ]
  go_wp2
  rw [rounds_succ]
  go_wp2
  go_ret
  obtain ⟨hr2, hb2, hk2⟩ := HE.out
  exact long_end hRB hr2 hb2 hk2 _ _ (or_mid v (by omega)) (by rw [hlen_2 (by omega) hv2]; rfl)
end Go.Proofs.Qxb6618523aDoorRR
