/-
  THE WALKS of (*StateReader).fill and need.
-/
import Derived.Test.Qxb6618523aDoorRRWg
import Derived.Lib.SliceRun
namespace Go.Proofs.Qxb6618523aDoorRR
open Go.RowKit

theorem zv5 (w : World) : (zeroValue 5).run Tryd.prog w = .ok (.int .u8 0) w := by kernel_rfl
theorem rep0 (n : Nat) : List.replicate n (Value.int .u8 0) = (List.range n).map fun _ => Value.int .u8 (((0 : UInt8).toNat : Nat) : Int) := by
  apply List.ext_getElem
  · simp
  · intro i h1 h2; simp
theorem clear_run (w : World) (B m : Nat) (f : Nat → UInt8) (hm : m ≤ 65536) (hf : Bf w B 65792 f) (h0 : ∀ j, m ≤ j → f j = 0) :
    ∃ w1, (∀ ty, (Builtin.clear_ #[26] ty #[.slice (some ⟨B, m, none⟩) (65792 - m) (65792 - m)]).run Tryd.prog w = .ok (.tuple #[]) w1) ∧ Bf w1 B 65792 f ∧ Kept [B] w w1 := by
  have hrun := fun ty => Lib.run_clear_slice (P := Tryd.prog) w 26 5 ty (.int .u8 0) Tryd.underlying26 zv5 rfl rfl B m (65792 - m) (65792 - m) (by omega)
    (fun j hj => by rw [hf.cell (m + j) (by omega)]; rfl) (fun j hj => hf.free (m + j) (by omega))
  refine ⟨_, hrun, ?_, Kept.setCells B (by simp) _ _ _ (Kept.refl _ _)⟩
  rw [rep0]
  refine (hf.setCells m (65792 - m) (fun _ => 0) (by omega)).congr (fun j hj => ?_)
  by_cases h : m ≤ j
  · rw [if_pos ⟨h, by omega⟩, h0 j h]
  · rw [if_neg (by omega)]
theorem copy_nothing (w : World) (B : Nat) (ty : TypeId) : (Builtin.copy_ #[26, 26] ty #[.slice (some ⟨B, 0, none⟩) 65792 65792, .slice (some ⟨B, 0, none⟩) 0 65792]).run Tryd.prog w = .ok (goInt 0) w :=
  run_copy_none w 26 26 ty 5 _ _ 65792 65792 0 65792 Tryd.underlying26 size5 (Nat.zero_min _)

theorem SR.drew {w : World} {R Q B a e : Nat} {d : Bool} {l : Int} (h : SR w R Q B a e d l) : SR w.drew R Q B a e d l := h.kept (S := []) (Kept.refl _ _).drew (by simp)
theorem SR.drewN {w : World} {R Q B a e : Nat} {d : Bool} {l : Int} (h : SR w R Q B a e d l) (n : Nat) : SR (w.drewN n) R Q B a e d l := h.kept (S := []) ((Kept.refl _ _).drewN n) (by simp)

theorem cut_eq {f : Nat → UInt8} {m : Nat} (hz : ∀ j, m ≤ j → f j = 0) (j : Nat) : (if j < m then f j else 0) = f j := by
  by_cases h : j < m
  · rw [if_pos h]
  · rw [if_neg h, hz j (by omega)]
theorem SR.setAt {w : World} {R Q B a e : Nat} {d : Bool} {l : Int} (h : SR w R Q B a e d l) (z : Int) (k : Nat) (hz : z = (k : Int)) : SR (w.setCell ⟨R, 2, none⟩ (.int .i64 z)) R Q B k e d l := by
  subst hz
  have o : ∀ j, j ≠ 2 → (w.setCell ⟨R, 2, none⟩ (.int .i64 (k : Int))).cell? ⟨R, j, none⟩ = w.cell? ⟨R, j, none⟩ := fun j hj => World.cell?_setCell_other _ _ _ _ (by simp only [ne_eq, Addr.mk.injEq, true_and, and_true]; exact fun x => hj x.symm)
  exact ⟨by rw [o 0 (by omega)]; exact h.c0, by rw [o 1 (by omega)]; exact h.c1, World.cell?_setCell_same _ _ _ h.c2, by rw [o 3 (by omega)]; exact h.c3, by rw [o 4 (by omega)]; exact h.c4, by rw [o 5 (by omega)]; exact h.c5, by rw [o 6 (by omega)]; exact h.c6,
    fun j hj => by rw [o (7 + j) (by omega)]; exact h.rc j hj, fun j hj => by rw [World.frozen?_setCell]; exact h.fr j hj⟩
theorem SR.setEnd {w : World} {R Q B a e : Nat} {d : Bool} {l : Int} (h : SR w R Q B a e d l) (z : Int) (k : Nat) (hz : z = (k : Int)) : SR (w.setCell ⟨R, 3, none⟩ (.int .i64 z)) R Q B a k d l := by
  subst hz
  have o : ∀ j, j ≠ 3 → (w.setCell ⟨R, 3, none⟩ (.int .i64 (k : Int))).cell? ⟨R, j, none⟩ = w.cell? ⟨R, j, none⟩ := fun j hj => World.cell?_setCell_other _ _ _ _ (by simp only [ne_eq, Addr.mk.injEq, true_and, and_true]; exact fun x => hj x.symm)
  exact ⟨by rw [o 0 (by omega)]; exact h.c0, by rw [o 1 (by omega)]; exact h.c1, by rw [o 2 (by omega)]; exact h.c2, World.cell?_setCell_same _ _ _ h.c3, by rw [o 4 (by omega)]; exact h.c4, by rw [o 5 (by omega)]; exact h.c5, by rw [o 6 (by omega)]; exact h.c6,
    fun j hj => by rw [o (7 + j) (by omega)]; exact h.rc j hj, fun j hj => by rw [World.frozen?_setCell]; exact h.fr j hj⟩
theorem SR.setEnded {w : World} {R Q B a e : Nat} {d : Bool} {l : Int} (h : SR w R Q B a e d l) (b : Bool) : SR (w.setCell ⟨R, 4, none⟩ (.bool b)) R Q B a e b l := by
  have o : ∀ j, j ≠ 4 → (w.setCell ⟨R, 4, none⟩ (.bool b)).cell? ⟨R, j, none⟩ = w.cell? ⟨R, j, none⟩ := fun j hj => World.cell?_setCell_other _ _ _ _ (by simp only [ne_eq, Addr.mk.injEq, true_and, and_true]; exact fun x => hj x.symm)
  exact ⟨by rw [o 0 (by omega)]; exact h.c0, by rw [o 1 (by omega)]; exact h.c1, by rw [o 2 (by omega)]; exact h.c2, by rw [o 3 (by omega)]; exact h.c3, World.cell?_setCell_same _ _ _ h.c4, by rw [o 5 (by omega)]; exact h.c5, by rw [o 6 (by omega)]; exact h.c6,
    fun j hj => by rw [o (7 + j) (by omega)]; exact h.rc j hj, fun j hj => by rw [World.frozen?_setCell]; exact h.fr j hj⟩
theorem SR.setLeft {w : World} {R Q B a e : Nat} {d : Bool} {l : Int} (h : SR w R Q B a e d l) (z : Int) : SR (w.setCell ⟨R, 5, none⟩ (.int .i64 z)) R Q B a e d z := by
  have o : ∀ j, j ≠ 5 → (w.setCell ⟨R, 5, none⟩ (.int .i64 z)).cell? ⟨R, j, none⟩ = w.cell? ⟨R, j, none⟩ := fun j hj => World.cell?_setCell_other _ _ _ _ (by simp only [ne_eq, Addr.mk.injEq, true_and, and_true]; exact fun x => hj x.symm)
  exact ⟨by rw [o 0 (by omega)]; exact h.c0, by rw [o 1 (by omega)]; exact h.c1, by rw [o 2 (by omega)]; exact h.c2, by rw [o 3 (by omega)]; exact h.c3, by rw [o 4 (by omega)]; exact h.c4, World.cell?_setCell_same _ _ _ h.c5, by rw [o 6 (by omega)]; exact h.c6,
    fun j hj => by rw [o (7 + j) (by omega)]; exact h.rc j hj, fun j hj => by rw [World.frozen?_setCell]; exact h.fr j hj⟩

/-- BEHIND fill: all the data are held; nothing is taken yet. -/
def FillEnd (R Q B m : Nat) (f : Nat → UInt8) (w : World) (e : Ending) (w' : World) : Prop :=
  e = .returned (.tuple #[]) ∧ SR w' R Q B 0 m true 0 ∧ Bf w' B 65792 f ∧ Kept [R, Q, B] w w'

/-- BEHIND ReadFull, inside fill. -/
def FillMid (Q D B m : Nat) (f : Nat → UInt8) (aU : Addr) (w : World) (n er : Value) (wx : World) : Prop :=
  n = .int .i64 (m : Int) ∧ er = .iface 69 (.pointer (some aU)) ∧ BR wx Q D m m ∧ Bf wx B 65792 f ∧ Kept [Q, B] w wx

set_option maxRecDepth 100000 in
set_option maxHeartbeats 1000000 in
theorem fill25 (R Q D B m base : Nat) (aE aU : Addr) (f : Nat → UInt8) (w : World) (h0 : 0 < m) (hm : m ≤ 65535) (hr : SR w R Q B 0 0 false (m : Int)) (hq : BR w Q D m 0) (hf : Bf w D m f) (hg : Bf w B 65792 (fun _ => 0)) (hz : ∀ j, m ≤ j → f j = 0)
    (hQB : Q ≠ B) (hQD : Q ≠ D) (hRQ : R ≠ Q) (hRB : R ≠ B) (hgl : Gl w base aE aU) (hR : base ≤ R) (hQ : base ≤ Q) (hB : base ≤ B) :
    Calls Tryd.prog 25 #[.pointer (some ⟨R, 0, none⟩)] w fun e w' => FillEnd R Q B m f w e w' := by
  have hcn := copy_nothing
  have HA : Hid (SR w R Q B 0 0 false (m : Int) ∧ Gl w base aE aU) := ⟨hr, hgl⟩
  have HC : Hid (∀ k, Calls Tryd.prog 27 #[.iface 47 (.pointer (some ⟨Q, 0, none⟩)), .slice (some ⟨B, 0, none⟩) 65536 65792] (w.drewN k) fun e w' => FullEnd Q D B m f (fun _ => 0) aU (w.drewN k) e w') := fun k => full27 Q D B m base aE aU f (fun _ => 0) (w.drewN k) h0 hm (hq.drewN k) (hf.drewN k) (hg.drewN k) hQB hQD (hgl.drewN k) hQ hB
  obtain ⟨c0, c1, c2, c3, c4, c5, c6, _, fr⟩ := hr
  have r2 := fr 2 (by omega)
  have r3 := fr 3 (by omega)
  have r4 := fr 4 (by omega)
  have r5 := fr 5 (by omega)
  clear hq hf hg hgl fr
  go_enter Tryd.func25, Tryd.ntmps25
  go_wp2
  go_region
  go_wp2
  go_upto_region 1 with fail
  go_cut [3, 4] (fun n er wx => FillMid Q D B m f aU w n er wx)
  case first =>
    go_region_with (go_at_call 27; refine (HC.out 2).mono ?_; rintro e w1 ⟨rfl, hq1, hb1, hk1⟩)
    all_goals
      go_wp2
      go_meet
      case rel => exact ⟨rfl, rfl, hq1, hb1.congr (fun j _ => cut_eq hz j), ((Kept.refl _ _).drewN 2).trans hk1⟩
  case rest =>
    obtain ⟨rfl, rfl, hq1, hb1, hk1⟩ := hcut
    rename World => w1
    have hr1 := HA.out.1.kept hk1 (by simp; omega)
    have hg1 := HA.out.2.kept hk1 (by intro x hx; simp at hx; omega)
    have HF : Hid (SR w1 R Q B 0 0 false (m : Int) ∧ Bf w1 B 65792 f ∧ Kept [Q, B] w w1 ∧ Gl w1 base aE aU) := ⟨hr1, hb1, hk1, hg1⟩
    clear c0 c1 c2 c3 c4 c5 c6 r2 r3 r4 r5 hb1 hk1 hq1 HA HC
    obtain ⟨c0, c1, c2, c3, c4, c5, c6, _, fr⟩ := hr1
    have r2 := fr 2 (by omega)
    have r3 := fr 3 (by omega)
    have r4 := fr 4 (by omega)
    have r5 := fr 5 (by omega)
    clear fr hg1
    go_upto_region 3 with fail
    obtain ⟨hr1, hb1, hk1, hg1⟩ := HF.out
    have hr2 := ((((hr1.setAt 0 0 (by simp)).setEnd (m : Int) m rfl).setLeft 0).drew)
    have hk2 : Kept [R] w1 (((w1.setCell ⟨R, 2, none⟩ (.int .i64 0)).setCell ⟨R, 3, none⟩ (.int .i64 (m : Int))).setCell ⟨R, 5, none⟩ (.int .i64 0)).drew := ((((Kept.refl _ _).setCell _ _ (by simp)).setCell _ _ (by simp)).setCell _ _ (by simp)).drew
    obtain ⟨w3, hcl, hb3, hk3⟩ := clear_run _ B m f (by omega) (hb1.kept hk2 (by simpa using Ne.symm hRB)) hz
    have hr3 := hr2.kept hk3 (by simpa using hRB)
    have hg3 := (hg1.kept hk2 (by intro x hx; simp at hx; omega)).kept hk3 (by intro x hx; simp at hx; omega)
    have HE : Hid (SR w3 R Q B 0 m false 0 ∧ Bf w3 B 65792 f ∧ Kept [R, Q, B] w w3) := ⟨hr3, hb3, ((hk1.mono (by simp)).trans (hk2.mono (by simp))).trans (hk3.mono (by simp))⟩
    obtain ⟨r, heq⟩ := eql_any aU aE w3 hg3.cu hg3.ce
    have heu := eql_same aU
    have ge := hg3.e
    have gu := hg3.u
    have hsl := slice_from B 65792 65792 m (by omega) (by omega)
    have x4 := hr3.fr 4 (by omega)
    have x4c := hr3.c4
    clear hr1 hb1 hk1 hg1 hr2 hk2 hb3 hk3 hg3 hr3 HF
    go_region
    all_goals
      cases r with
      | true =>
        go_wp2
        go_end0
        obtain ⟨hr3, hb3, hk3⟩ := HE.out
        exact ⟨rfl, hr3.setEnded true, hb3.far _ _ _ hRB, hk3.setCell _ _ (by simp)⟩
      | false =>
        go_wp2
        go_end0
        obtain ⟨hr3, hb3, hk3⟩ := HE.out
        exact ⟨rfl, hr3.setEnded true, hb3.far _ _ _ hRB, hk3.setCell _ _ (by simp)⟩

set_option maxRecDepth 100000 in
set_option maxHeartbeats 1000000 in
theorem need21 (R Q D B m base : Nat) (aE aU : Addr) (f : Nat → UInt8) (w : World) (h0 : 0 < m) (hm : m ≤ 65535) (hr : SR w R Q B 0 0 false (m : Int)) (hq : BR w Q D m 0) (hf : Bf w D m f) (hg : Bf w B 65792 (fun _ => 0)) (hz : ∀ j, m ≤ j → f j = 0)
    (hQB : Q ≠ B) (hQD : Q ≠ D) (hRQ : R ≠ Q) (hRB : R ≠ B) (hgl : Gl w base aE aU) (hR : base ≤ R) (hQ : base ≤ Q) (hB : base ≤ B) :
    Calls Tryd.prog 21 #[.pointer (some ⟨R, 0, none⟩)] w fun e w' => FillEnd R Q B m f w e w' := by
  have HC : Hid (∀ k, Calls Tryd.prog 25 #[.pointer (some ⟨R, 0, none⟩)] (w.drewN k) fun e w' => FillEnd R Q B m f (w.drewN k) e w') :=
    fun k => fill25 R Q D B m base aE aU f (w.drewN k) h0 hm (hr.drewN k) (hq.drewN k) (hf.drewN k) (hg.drewN k) hz hQB hQD hRQ hRB (hgl.drewN k) hR hQ hB
  obtain ⟨c0, c1, c2, c3, c4, c5, c6, _, fr⟩ := hr
  clear hq hf hg hgl fr
  go_enter Tryd.func21, Tryd.ntmps21
  go_wp2
  go_quiet (fail)
  go_wp2
  go_quiet (fail)
  go_wp2_with fail
  refine (HC.out _).mono ?_
  rintro e w1 ⟨rfl, hr1, hb1, hk1⟩
  go_wp2
  go_end0
  exact ⟨rfl, hr1, hb1, ((Kept.refl _ _).drewN _).trans hk1⟩
end Go.Proofs.Qxb6618523aDoorRR
