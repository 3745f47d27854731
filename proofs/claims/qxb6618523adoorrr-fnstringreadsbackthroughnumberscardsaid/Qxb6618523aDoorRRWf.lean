/-
  THE READER's STRUCTS; THE WALKS of ZZnewStateReader and (*bytes.Reader).Read.
-/
import Derived.Test.Qxb6618523aDoorRRWe
import Derived.Deep.DeepCutAuto
namespace Go.Proofs.Qxb6618523aDoorRR
open Go.RowKit

/-- THE StateReader: block R; under it the bytes.Reader in block Q; its buffer: block B. -/
structure SR (w : World) (R Q B a e : Nat) (d : Bool) (l : Int) : Prop where
  c0 : w.cell? ⟨R, 0, none⟩ = some (.iface 47 (.pointer (some ⟨Q, 0, none⟩)))
  c1 : w.cell? ⟨R, 1, none⟩ = some (.slice (some ⟨B, 0, none⟩) 65792 65792)
  c2 : w.cell? ⟨R, 2, none⟩ = some (.int .i64 (a : Int))
  c3 : w.cell? ⟨R, 3, none⟩ = some (.int .i64 (e : Int))
  c4 : w.cell? ⟨R, 4, none⟩ = some (.bool d)
  c5 : w.cell? ⟨R, 5, none⟩ = some (.int .i64 l)
  c6 : w.cell? ⟨R, 6, none⟩ = some .nilIface
  rc : ∀ j, j < 16 → ∃ z, w.cell? ⟨R, 7 + j, none⟩ = some (.int .u64 z)
  fr : ∀ j, j < 23 → w.frozen? ⟨R, j, none⟩ = false

/-- THE bytes.Reader: block Q, over the m bytes of block D; i of them read. -/
structure BR (w : World) (Q D m i : Nat) : Prop where
  c0 : w.cell? ⟨Q, 0, none⟩ = some (.slice (some ⟨D, 0, none⟩) m m)
  c1 : w.cell? ⟨Q, 1, none⟩ = some (.int .i64 (i : Int))
  c2 : w.cell? ⟨Q, 2, none⟩ = some (.int .i64 (-1))
  f1 : w.frozen? ⟨Q, 1, none⟩ = false
  f2 : w.frozen? ⟨Q, 2, none⟩ = false

theorem SR.kept {S : List Nat} {w w' : World} {R Q B a e : Nat} {d : Bool} {l : Int} (h : SR w R Q B a e d l) (hk : Kept S w w') (hn : R ∉ S) : SR w' R Q B a e d l := by
  have hl := lt_of_cell h.c0
  exact ⟨by rw [hk.cell 0 hl hn]; exact h.c0, by rw [hk.cell 1 hl hn]; exact h.c1, by rw [hk.cell 2 hl hn]; exact h.c2, by rw [hk.cell 3 hl hn]; exact h.c3, by rw [hk.cell 4 hl hn]; exact h.c4, by rw [hk.cell 5 hl hn]; exact h.c5, by rw [hk.cell 6 hl hn]; exact h.c6,
    fun j hj => by rw [hk.cell (7 + j) hl hn]; exact h.rc j hj, fun j hj => by rw [hk.frozen j hl hn]; exact h.fr j hj⟩
theorem BR.kept {S : List Nat} {w w' : World} {Q D m i : Nat} (h : BR w Q D m i) (hk : Kept S w w') (hn : Q ∉ S) : BR w' Q D m i := by
  have hl := lt_of_cell h.c0
  exact ⟨by rw [hk.cell 0 hl hn]; exact h.c0, by rw [hk.cell 1 hl hn]; exact h.c1, by rw [hk.cell 2 hl hn]; exact h.c2, by rw [hk.frozen 1 hl hn]; exact h.f1, by rw [hk.frozen 2 hl hn]; exact h.f2⟩

def brObj (D m : Nat) : Obj := .cells #[.slice (some ⟨D, 0, none⟩) m m, .int .i64 0, .int .i64 (-1)] 64
def srObj (Q B : Nat) (m : Int) : Obj := .cells #[.iface 47 (.pointer (some ⟨Q, 0, none⟩)), .slice (some ⟨B, 0, none⟩) 65792 65792, .int .i64 0, .int .i64 0, .bool false, .int .i64 m, .nilIface, .int .u64 0, .int .u64 0, .int .u64 0, .int .u64 0, .int .u64 0, .int .u64 0, .int .u64 0, .int .u64 0, .int .u64 0, .int .u64 0, .int .u64 0, .int .u64 0, .int .u64 0, .int .u64 0, .int .u64 0, .int .u64 0] 53

set_option maxHeartbeats 400000 in
theorem newr9 (D m : Nat) (w : World) : Calls Tryd.prog 9 #[.slice (some ⟨D, 0, none⟩) m m] w fun e w' => e = .returned (.pointer (some ⟨w.heap.size + 1 + 1, 0, none⟩)) ∧ w' = ((w.alloc (brObj D m)).alloc (zeroRow 65792)).alloc (srObj w.heap.size (w.heap.size + 1) m) := by
  have hmk := mkBig
  go_enter Tryd.func9, Tryd.ntmps9
  go_wp2
  go_ret
  exact ⟨rfl, rfl⟩

theorem br_new (D m : Nat) (w : World) : BR (((w.alloc (brObj D m)).alloc (zeroRow 65792)).alloc (srObj w.heap.size (w.heap.size + 1) m)) w.heap.size D m 0 := by
  have h0 : BR (w.alloc (brObj D m)) w.heap.size D m 0 := by
    refine ⟨?_, ?_, ?_, ?_, ?_⟩ <;> (rw [brObj]; first | (rw [World.cell?_alloc_at _ _ _ _ rfl]; rfl) | rw [World.frozen?_alloc_at _ _ _ _ rfl])
  exact h0.kept (S := []) (((Kept.refl _ _).alloc _).alloc _) (by simp)
theorem sr_new (D m : Nat) (w : World) : SR (((w.alloc (brObj D m)).alloc (zeroRow 65792)).alloc (srObj w.heap.size (w.heap.size + 1) m)) (w.heap.size + 1 + 1) w.heap.size (w.heap.size + 1) 0 0 false m := by
  have e : ((w.alloc (brObj D m)).alloc (zeroRow 65792)).heap.size = w.heap.size + 1 + 1 := by rw [World.size_alloc, World.size_alloc]
  refine ⟨?_, ?_, ?_, ?_, ?_, ?_, ?_, fun j hj => ⟨0, ?_⟩, fun j hj => ?_⟩
  case refine_8 =>
    rw [srObj, World.cell?_alloc_at _ _ _ _ e.symm]
    match j, hj with
    | 0, _ | 1, _ | 2, _ | 3, _ | 4, _ | 5, _ | 6, _ | 7, _ | 8, _ | 9, _ | 10, _ | 11, _ | 12, _ | 13, _ | 14, _ | 15, _ => rfl
    | k + 16, hk => omega
  case refine_9 => rw [srObj, World.frozen?_alloc_at _ _ _ _ e.symm]
  all_goals (rw [srObj, World.cell?_alloc_at _ _ _ _ e.symm]; rfl)
theorem bf_new (D m : Nat) (w : World) : Bf (((w.alloc (brObj D m)).alloc (zeroRow 65792)).alloc (srObj w.heap.size (w.heap.size + 1) m)) (w.heap.size + 1) 65792 (fun _ => 0) := by
  have h := bf_made (w.alloc (brObj D m)) 65792
  rw [World.size_alloc] at h
  exact h.kept (S := []) ((Kept.refl _ _).alloc _) (by simp)

/-- 'copy(b, r.s[0:])': the data go over. -/
theorem read_copy (w : World) (D B m : Nat) (f g : Nat → UInt8) (hm : m ≤ 65536) (hf : Bf w D m f) (hg : Bf w B 65792 g) :
    ∃ w1, (∀ ty, (Builtin.copy_ #[26, 26] ty #[.slice (some ⟨B, 0, none⟩) 65536 65792, .slice (some ⟨D, 0, none⟩) m m]).run Tryd.prog w = .ok (goInt m) w1) ∧
      Bf w1 B 65792 (fun j => if j < m then f j else g j) ∧ Kept [B] w w1 := by
  have hl : ((List.range m).map fun j => Value.int .u8 ((f j).toNat : Int)).length = m := by simp
  have hcs : ∀ j v, ((List.range m).map fun j => Value.int .u8 ((f j).toNat : Int))[j]? = some v → w.cell? ((⟨D, 0, none⟩ : Addr).add j) = some v := by
    intro j v hv
    have ea : (⟨D, 0, none⟩ : Addr).add j = ⟨D, j, none⟩ := by
      unfold Addr.add
      by_cases h : j = 0
      · rw [if_pos h, h]
      · rw [if_neg h]; simp
    rw [List.getElem?_map] at hv
    by_cases hj : j < m
    · rw [List.getElem?_range hj] at hv
      simp only [Option.map_some, Option.some.injEq] at hv
      subst hv
      rw [ea]
      exact hf.cell j hj
    · rw [List.getElem?_eq_none (by simpa using hj)] at hv
      cases hv
  have hrun := fun ty => run_copy_cells (P := Tryd.prog) w 26 26 ty 5 B 0 65536 65792 ⟨D, 0, none⟩ m m _ Tryd.underlying26 size5 (by rw [hl]; exact (Nat.min_eq_left hm).symm) hcs
    (fun j hj => by rw [hl] at hj; rw [Nat.zero_add, hg.cell j (by omega)]; rfl) (fun j hj => by rw [hl] at hj; rw [Nat.zero_add]; exact hg.free j (by omega)) (by intro v hv; simp only [List.mem_map] at hv; obtain ⟨j, _, rfl⟩ := hv; rfl)
  rw [hl] at hrun
  refine ⟨_, hrun, (hg.setCells 0 m f (by omega)).congr (fun j _ => ?_), Kept.setCells B (by simp) _ _ _ (Kept.refl _ _)⟩
  by_cases h : j < m
  · rw [if_pos ⟨by omega, by omega⟩, if_pos h]; rfl
  · rw [if_neg (by omega), if_neg h]

theorem BR.drewN {w : World} {Q D m i : Nat} (h : BR w Q D m i) (n : Nat) : BR (w.drewN n) Q D m i := ⟨h.c0, h.c1, h.c2, h.f1, h.f2⟩
theorem BR.drew {w : World} {Q D m i : Nat} (h : BR w Q D m i) : BR w.drew Q D m i := ⟨h.c0, h.c1, h.c2, h.f1, h.f2⟩
theorem BR.set2 {w : World} {Q D m i : Nat} (h : BR w Q D m i) : BR (w.setCell ⟨Q, 2, none⟩ (.int .i64 (-1))) Q D m i :=
  ⟨by rw [World.cell?_setCell_other _ _ _ _ (by simp)]; exact h.c0, by rw [World.cell?_setCell_other _ _ _ _ (by simp)]; exact h.c1, World.cell?_setCell_same _ _ _ h.c2, by rw [World.frozen?_setCell]; exact h.f1, by rw [World.frozen?_setCell]; exact h.f2⟩
theorem BR.set1 {w : World} {Q D m i : Nat} (h : BR w Q D m i) (z : Int) (k : Nat) (e : z = (k : Int)) : BR (w.setCell ⟨Q, 1, none⟩ (.int .i64 z)) Q D m k := by
  subst e
  exact ⟨by rw [World.cell?_setCell_other _ _ _ _ (by simp)]; exact h.c0, World.cell?_setCell_same _ _ _ h.c1, by rw [World.cell?_setCell_other _ _ _ _ (by simp)]; exact h.c2, by rw [World.frozen?_setCell]; exact h.f1, by rw [World.frozen?_setCell]; exact h.f2⟩

/-- BEHIND THE FIRST READ. -/
def ReadEnd (Q D B m : Nat) (f g : Nat → UInt8) (w : World) (e : Ending) (w' : World) : Prop :=
  e = .returned (.tuple #[.int .i64 (m : Int), .nilIface]) ∧ BR w' Q D m m ∧ Bf w' B 65792 (fun j => if j < m then f j else g j) ∧ Kept [Q, B] w w'

set_option maxHeartbeats 400000 in
theorem read46 (Q D B m : Nat) (f g : Nat → UInt8) (w : World) (h0 : 0 < m) (hm : m ≤ 65535) (hq : BR w Q D m 0) (hf : Bf w D m f) (hg : Bf w B 65792 g) (hQB : Q ≠ B) (hQD : Q ≠ D) :
    Calls Tryd.prog 46 #[.pointer (some ⟨Q, 0, none⟩), .slice (some ⟨B, 0, none⟩) 65536 65792] w fun e w' => ReadEnd Q D B m f g w e w' := by
  have HE : Hid (BR w Q D m 0 ∧ Bf w D m f ∧ Bf w B 65792 g) := ⟨hq, hf, hg⟩
  obtain ⟨c0, c1, c2, f1, f2⟩ := hq
  clear hf hg
  go_enter Tryd.func46, Tryd.ntmps46
  go_wp2
  go_quiet (fail)
  go_upto_region 4 with fail
  obtain ⟨hq, hf, hg⟩ := HE.out
  obtain ⟨w2, hcp, hb2, hk2⟩ := read_copy ((w.drewN nq).setCell ⟨Q, 2, none⟩ (.int .i64 (-1))).drew D B m f g (by omega) ((hf.drewN nq).far _ _ _ hQD).drew ((hg.drewN nq).far _ _ _ hQB).drew
  have hq2 : BR w2 Q D m 0 := ((hq.drewN nq).set2.drew).kept hk2 (by simpa using hQB)
  have HE2 : Hid (BR w2 Q D m 0 ∧ Bf w2 B 65792 (fun j => if j < m then f j else g j) ∧ Kept [Q, B] w w2) :=
    ⟨hq2, hb2, ((((Kept.refl _ _).drewN nq).setCell _ _ (by simp)).drew).trans (hk2.mono (by simp))⟩
  obtain ⟨e0, e1, e2, e3, e4⟩ := hq2
  clear hq hf hg hb2 hk2 HE
  go_region
  go_wp2
  go_ret2
  obtain ⟨hq2, hb2, hk2⟩ := HE2.out
  exact ⟨rfl, hq2.set1 _ m (by simp), hb2.far _ _ _ hQB, hk2.setCell _ _ (by simp)⟩

set_option maxHeartbeats 400000 in
theorem eof46 (Q D B m : Nat) (v : Value) (n c : Nat) (w : World) (hq : BR w Q D m m) (hE : w.cell? ⟨3, 0, none⟩ = some v) :
    Calls Tryd.prog 46 #[.pointer (some ⟨Q, 0, none⟩), .slice (some ⟨B, m, none⟩) n c] w fun e w' => e = .returned (.tuple #[.int .i64 0, v]) ∧ ∃ k, w' = w.drewN k := by
  obtain ⟨c0, c1, c2, f1, f2⟩ := hq
  go_enter Tryd.func46, Tryd.ntmps46
  go_wp2
  go_quiet (fail)
  go_wp2
  go_quiet (fail)
  go_wp2
  go_ret2
  exact ⟨rfl, _, World.drewN_drewN _ _ _⟩
end Go.Proofs.Qxb6618523aDoorRR
