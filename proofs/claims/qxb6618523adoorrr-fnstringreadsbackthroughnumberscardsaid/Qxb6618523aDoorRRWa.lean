/-
  ROWS OF BYTES IN MEMORY, told by a plain function; what a call may turn; THE WALKS of the writer's making and of zzCopyBytes.
-/
import Derived.Test.Qxb6618523aDoorRRRows
import Derived.WalkKit
import Derived.WalkSpells
import Derived.WalkLawsBesides
import Derived.Deep.OwnRows
import Derived.Deep.QuietTactic
import Derived.BigQuiet
import Derived.BigRegion
import Derived.Laws.IdiomCopy
namespace Go.Proofs.Qxb6618523aDoorRR
open Go.RowKit

/-- WHAT MAY TURN: the blocks on the list S, and new ones. -/
structure Kept (S : List Nat) (w w' : World) : Prop where
  os : w'.os = w.os
  tape : w'.tape = w.tape
  output : w'.output = w.output
  size : w.heap.size ≤ w'.heap.size
  block : ∀ b, b < w.heap.size → b ∉ S → w'.heap[b]? = w.heap[b]?

theorem Kept.refl (S : List Nat) (w : World) : Kept S w w := ⟨rfl, rfl, rfl, Nat.le_refl _, fun _ _ _ => rfl⟩
theorem Kept.trans {S : List Nat} {a b c : World} (h : Kept S a b) (k : Kept S b c) : Kept S a c :=
  ⟨k.os.trans h.os, k.tape.trans h.tape, k.output.trans h.output, Nat.le_trans h.size k.size, fun i hi hn => (k.block i (Nat.lt_of_lt_of_le hi h.size) hn).trans (h.block i hi hn)⟩
theorem Kept.mono {S T : List Nat} {a b : World} (h : Kept S a b) (hs : ∀ x, x ∈ S → x < a.heap.size → x ∈ T) : Kept T a b :=
  ⟨h.os, h.tape, h.output, h.size, fun i hi hn => h.block i hi (fun hm => hn (hs i hm hi))⟩
theorem Kept.of_below {w w' : World} (S : List Nat) (h : Below w.heap.size w w') : Kept S w w' := ⟨h.os, h.tape, h.output, h.size, fun i hi _ => h.block i hi⟩
theorem Kept.below {S : List Nat} {w0 w w' : World} (h : Kept S w w') (hb : Below w0.heap.size w0 w) (hS : ∀ x, x ∈ S → w0.heap.size ≤ x) : Below w0.heap.size w0 w' :=
  ⟨h.os.trans hb.os, h.tape.trans hb.tape, h.output.trans hb.output, Nat.le_trans hb.size h.size, fun i hi => (h.block i (Nat.lt_of_lt_of_le hi hb.size) (fun hm => by have := hS i hm; omega)).trans (hb.block i hi)⟩
theorem Kept.alloc {S : List Nat} {a w : World} (h : Kept S a w) (o : Obj) : Kept S a (w.alloc o) := by
  have hb := ((Below.refl w.heap.size w).alloc (Nat.le_refl _) o)
  exact h.trans (Kept.of_below S hb)
theorem Kept.drewN {S : List Nat} {a w : World} (h : Kept S a w) (n : Nat) : Kept S a (w.drewN n) := ⟨h.os, h.tape, h.output, h.size, h.block⟩
theorem Kept.drew {S : List Nat} {a w : World} (h : Kept S a w) : Kept S a w.drew := ⟨h.os, h.tape, h.output, h.size, h.block⟩
theorem Kept.setCell {S : List Nat} {a w : World} (h : Kept S a w) (p : Addr) (v : Value) (hp : p.block ∈ S) : Kept S a (w.setCell p v) := by
  exact h.trans ⟨rfl, rfl, rfl, by simp [World.setCell], fun k _ hn => Below.heap_setCell _ _ _ _ (fun e => hn (by rw [e]; exact hp))⟩
theorem Kept.setCells {S : List Nat} {a : World} (g : Nat) (hg : g ∈ S) : ∀ (vs : List Value) (o : Nat) (w : World), Kept S a w → Kept S a (w.setCells g o vs)
  | [], _, _, h => h
  | v :: r, o, w, h => by
    rw [World.setCells]
    exact Kept.setCells g hg r (o + 1) _ (h.setCell ⟨g, o, none⟩ v hg)
theorem Kept.cell {S : List Nat} {w w' : World} (h : Kept S w w') {b : Nat} (o : Nat) (hb : b < w.heap.size) (hn : b ∉ S) : w'.cell? ⟨b, o, none⟩ = w.cell? ⟨b, o, none⟩ :=
  World.cell?_of_block (w := w) (h.block b hb hn)
theorem Kept.frozen {S : List Nat} {w w' : World} (h : Kept S w w') {b : Nat} (o : Nat) (hb : b < w.heap.size) (hn : b ∉ S) : w'.frozen? ⟨b, o, none⟩ = w.frozen? ⟨b, o, none⟩ :=
  World.frozen?_of_block (w := w) (h.block b hb hn)
theorem lt_of_cell {w : World} {b o : Nat} {v : Value} (h : w.cell? ⟨b, o, none⟩ = some v) : b < w.heap.size := by
  by_cases hb : b < w.heap.size
  · exact hb
  · simp [World.cell?, hb] at h

/-- A row of N bytes, which may be written: block B. -/
structure Bf (w : World) (B N : Nat) (f : Nat → UInt8) : Prop where
  cell : ∀ j, j < N → w.cell? ⟨B, j, none⟩ = some (.int .u8 ((f j).toNat : Int))
  free : ∀ j, j < N → w.frozen? ⟨B, j, none⟩ = false

/-- N zero bytes. -/
def zeroRow (N : Nat) : Obj := .cells (madeCells #[.int .u8 0] N) 5
theorem info5 : (Tryd.prog.info? 5).map (fun i => (i.zero, i.size, i.bytes)) = some (some (.int .u8 0), 1, 1) := by kernel_rfl
theorem size5 : (Tryd.prog.info? 5).map (·.size) = some 1 := by kernel_rfl
theorem mk (n : Nat) (hn : n ≤ 1048576) (w : World) :
    (Instr.makeSlice 26 (.int .i64 (n : Int)) (.int .i64 (n : Int))).run Tryd.prog w = .ok (.slice (some ⟨w.heap.size, 0, none⟩) n n) (w.alloc (zeroRow n)) :=
  run_make_row' 26 5 (.int .u8 0) 1 Tryd.underlying26 info5 rfl .i64 .i64 n (by omega) (by omega) w

theorem zero_at (n j : Nat) (h : j < n) : (madeCells #[(.int .u8 0 : Value)] n)[j]? = some (.int .u8 0) := by
  simp [madeCells, h, Nat.mod_one]
theorem bf_made (w : World) (n : Nat) : Bf (w.alloc (zeroRow n)) w.heap.size n (fun _ => 0) :=
  ⟨fun j hj => by rw [zeroRow, World.cell?_alloc_at _ _ _ _ rfl]; exact zero_at n j hj, fun j hj => by rw [zeroRow, World.frozen?_alloc_at _ _ _ _ rfl]⟩
theorem Bf.lt {w : World} {B N : Nat} {f : Nat → UInt8} (h : Bf w B N f) {j : Nat} (hj : j < N) : B < w.heap.size := lt_of_cell (h.cell j hj)
theorem Bf.kept {S : List Nat} {w w' : World} {B N : Nat} {f : Nat → UInt8} (h : Bf w B N f) (hk : Kept S w w') (hn : B ∉ S) : Bf w' B N f :=
  ⟨fun j hj => by rw [hk.cell j (h.lt hj) hn]; exact h.cell j hj, fun j hj => by rw [hk.frozen j (h.lt hj) hn]; exact h.free j hj⟩
theorem Bf.congr {w : World} {B N : Nat} {f g : Nat → UInt8} (h : Bf w B N f) (he : ∀ j, j < N → f j = g j) : Bf w B N g :=
  ⟨fun j hj => by rw [← he j hj]; exact h.cell j hj, h.free⟩
theorem Bf.set {w : World} {B N : Nat} {f : Nat → UInt8} (h : Bf w B N f) (i : Nat) (x : UInt8) (hi : i < N) : Bf (w.setCell ⟨B, i, none⟩ (.int .u8 (x.toNat : Int))) B N (fun j => if j = i then x else f j) := by
  refine ⟨fun j hj => ?_, fun j hj => by rw [World.frozen?_setCell]; exact h.free j hj⟩
  by_cases e : j = i
  · subst e; rw [World.cell?_setCell_same _ _ _ (h.cell j hj), if_pos rfl]
  · rw [World.cell?_setCell_other _ _ _ _ (by simp only [ne_eq, Addr.mk.injEq, true_and, and_true]; exact fun x => e x.symm), if_neg e]; exact h.cell j hj
theorem Bf.far {w : World} {B N : Nat} {f : Nat → UInt8} (h : Bf w B N f) (B' i : Nat) (v : Value) (hB : B' ≠ B) : Bf (w.setCell ⟨B', i, none⟩ v) B N f :=
  ⟨fun j hj => by rw [World.cell?_setCell_other _ _ _ _ (by simp only [ne_eq, Addr.mk.injEq]; exact fun x => hB x.1)]; exact h.cell j hj, fun j hj => by rw [World.frozen?_setCell]; exact h.free j hj⟩
theorem Bf.drew {w : World} {B N : Nat} {f : Nat → UInt8} (h : Bf w B N f) : Bf w.drew B N f := ⟨h.cell, h.free⟩
theorem Bf.drewN {w : World} {B N : Nat} {f : Nat → UInt8} (h : Bf w B N f) (n : Nat) : Bf (w.drewN n) B N f := ⟨h.cell, h.free⟩
/-- k bytes laid from place o on. -/
theorem Bf.setCells {w : World} {B N : Nat} {f : Nat → UInt8} (h : Bf w B N f) (o k : Nat) (g : Nat → UInt8) (hk : o + k ≤ N) :
    Bf (w.setCells B o ((List.range k).map fun j => .int .u8 ((g j).toNat : Int))) B N (fun j => if o ≤ j ∧ j < o + k then g (j - o) else f j) := by
  have hl : ((List.range k).map fun j => Value.int .u8 ((g j).toNat : Int)).length = k := by simp
  refine ⟨fun j hj => ?_, fun j hj => by rw [World.frozen?_setCells]; exact h.free j hj⟩
  by_cases e : o ≤ j ∧ j < o + k
  · rw [if_pos e]
    have h2 := World.cell?_setCells_in B ((List.range k).map fun j => Value.int .u8 ((g j).toNat : Int)) o w (fun i hi => by rw [hl] at hi; rw [h.cell (o + i) (by omega)]; rfl) (j - o) (by rw [hl]; omega)
    rw [show o + (j - o) = j by omega] at h2
    rw [h2]
    simp
  · rw [if_neg e, World.cell?_setCells_out B _ o w ⟨B, j, none⟩ (fun _ _ => by rw [hl]; show j < o ∨ o + k ≤ j; omega)]
    exact h.cell j hj
end Go.Proofs.Qxb6618523aDoorRR
