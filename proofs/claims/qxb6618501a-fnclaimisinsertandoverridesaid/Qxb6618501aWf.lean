/-
  NEW ROWS OF STRINGS: made, copied into, written cell by cell.
-/
import Derived.Test.Qxb6618501aWe
import Derived.Test.Qxb6618501aWb
import Derived.Test.Qxb6618501aWc
import Derived.Deep.OwnRows
import Derived.Laws.CopyRow
import Derived.Deep.DeepCutAuto
namespace Go.Proofs.Qxb6618501a
open Go.RowKit

theorem info9 : (Try.prog.info? 9).map (fun i => (i.zero, i.size, i.bytes)) = some (some (.string ⟨#[]⟩), 1, 16) := by kernel_rfl
theorem size9 : (Try.prog.info? 9).map (·.size) = some 1 := by kernel_rfl

/-- n empty strings. -/
def blankRow (n : Nat) : Obj := .cells (madeCells #[.string ⟨#[]⟩] n) 9

theorem mk (n : Nat) (hn : n ≤ 1048577) (w : World) :
    (Instr.makeSlice 22 (.int .i64 (n : Int)) (.int .i64 (n : Int))).run Try.prog w = .ok (.slice (some ⟨w.heap.size, 0, none⟩) n n) (w.alloc (blankRow n)) :=
  run_make_row' 22 9 (.string ⟨#[]⟩) 16 Try.underlying22 info9 rfl .i64 .i64 n (by omega) (by omega) w

/-- A new row of n strings, which may be written: block B. -/
structure Rw (w : World) (B n : Nat) (f : Nat → ByteArray) : Prop where
  cell : ∀ j, j < n → w.cell? ⟨B, j, none⟩ = some (.string (f j))
  free : ∀ j, j < n → w.frozen? ⟨B, j, none⟩ = false

theorem blank_at (n j : Nat) (h : j < n) : (madeCells #[(.string ⟨#[]⟩ : Value)] n)[j]? = some (.string ⟨#[]⟩) := by
  simp [madeCells, h, Nat.mod_one]
theorem rw_made (w : World) (n : Nat) : Rw (w.alloc (blankRow n)) w.heap.size n (fun _ => ⟨#[]⟩) :=
  ⟨fun j hj => by rw [blankRow, World.cell?_alloc_at _ _ _ _ rfl]; exact blank_at n j hj, fun j hj => by rw [blankRow, World.frozen?_alloc_at _ _ _ _ rfl]⟩
theorem Rw.lt {w : World} {B n : Nat} {f : Nat → ByteArray} (h : Rw w B n f) {j : Nat} (hj : j < n) : B < w.heap.size := by
  have h1 := h.cell j hj
  by_cases hb : B < w.heap.size
  · exact hb
  · simp [World.cell?, hb] at h1
theorem Rw.alloc {w : World} {B n : Nat} {f : Nat → ByteArray} (h : Rw w B n f) (o : Obj) : Rw (w.alloc o) B n f :=
  ⟨fun j hj => by rw [World.cell?_alloc_past o _ _ (h.lt hj)]; exact h.cell j hj, fun j hj => by rw [World.frozen?_alloc_past o _ _ (h.lt hj)]; exact h.free j hj⟩
theorem Rw.set {w : World} {B n : Nat} {f g : Nat → ByteArray} (h : Rw w B n f) (i : Nat) (x : ByteArray) (hi : i < n) (hg : g i = x) (ho : ∀ j, j < n → j ≠ i → g j = f j) : Rw (w.setCell ⟨B, i, none⟩ (.string x)) B n g := by
  refine ⟨fun j hj => ?_, fun j hj => by rw [World.frozen?_setCell]; exact h.free j hj⟩
  by_cases e : j = i
  · subst e; rw [World.cell?_setCell_same _ _ _ (h.cell j hj), hg]
  · rw [World.cell?_setCell_other _ _ _ _ (by simp only [ne_eq, Addr.mk.injEq, true_and, and_true]; exact fun x => e x.symm), ho j hj e]; exact h.cell j hj
theorem Rw.far {w : World} {B n : Nat} {f : Nat → ByteArray} (h : Rw w B n f) (B' i : Nat) (v : Value) (hB : B' ≠ B) : Rw (w.setCell ⟨B', i, none⟩ v) B n f :=
  ⟨fun j hj => by rw [World.cell?_setCell_other _ _ _ _ (by simp only [ne_eq, Addr.mk.injEq]; exact fun x => hB x.1)]; exact h.cell j hj, fun j hj => by rw [World.frozen?_setCell]; exact h.free j hj⟩

theorem below_setCells {B : Nat} {a : World} (g : Nat) (hg : B ≤ g) : ∀ (vs : List Value) (o : Nat) (w : World), Below B a w → Below B a (w.setCells g o vs)
  | [], _, _, h => h
  | v :: r, o, w, h => by
    rw [World.setCells]
    exact below_setCells g hg r (o + 1) _ (h.setCell (p := ⟨g, o, none⟩) hg v)

theorem copy_run (w : World) (x : Addr) (n c b f : Nat) (ss : Nat → ByteArray) (hs : Sl w (some x) n b f ss) :
    ∃ w1, (∀ ty, (Builtin.copy_ #[22, 22] ty #[.slice (some ⟨w.heap.size, 0, none⟩) n n, .slice (some x) n c]).run Try.prog (w.alloc (blankRow n)) = .ok (goInt n) w1) ∧ Rw w1 w.heap.size n ss ∧ Below w.heap.size w w1 := by
  by_cases hn : n = 0
  · subst hn
    refine ⟨_, fun ty => run_copy_none _ 22 22 ty 9 _ _ 0 0 0 c Try.underlying22 size9 rfl, ⟨fun j hj => by omega, fun j hj => by omega⟩, (Below.refl _ _).alloc (Nat.le_refl _) _⟩
  · have hx := hs.at0 (by omega)
    cases hx
    have hr := rw_made w n
    have hcs : ∀ j v, ((List.range n).map fun j => Value.string (ss j))[j]? = some v → (w.alloc (blankRow n)).cell? ((⟨b, f, none⟩ : Addr).add j) = some v := by
      intro j v hv
      rw [List.getElem?_map] at hv
      by_cases hj : j < n
      · rw [List.getElem?_range hj] at hv
        simp only [Option.map_some, Option.some.injEq] at hv
        subst hv
        have ea : (⟨b, f, none⟩ : Addr).add j = ⟨b, f + j, none⟩ := by simp [Addr.add]
        rw [ea, World.cell?_alloc_past _ _ _ (hs.lt hj)]
        exact hs.cell j hj
      · rw [List.getElem?_eq_none (by simpa using hj)] at hv
        cases hv
    have hl : ((List.range n).map fun j => Value.string (ss j)).length = n := by simp
    have hex : ∀ j, j < ((List.range n).map fun j => Value.string (ss j)).length → ((w.alloc (blankRow n)).cell? ⟨w.heap.size, 0 + j, none⟩).isSome = true := by
      intro j hj
      rw [hl] at hj
      rw [Nat.zero_add, hr.cell j hj]; rfl
    have hfr : ∀ j, j < ((List.range n).map fun j => Value.string (ss j)).length → (w.alloc (blankRow n)).frozen? ⟨w.heap.size, 0 + j, none⟩ = false := by
      intro j hj
      rw [hl] at hj
      rw [Nat.zero_add]; exact hr.free j hj
    have hrun := fun ty => run_copy_cells (P := Try.prog) (w.alloc (blankRow n)) 22 22 ty 9 w.heap.size 0 n n ⟨b, f, none⟩ n c _ Try.underlying22 size9 (by rw [hl]; simp) hcs hex hfr (by intro v hv; simp only [List.mem_map] at hv; obtain ⟨j, _, rfl⟩ := hv; rfl)
    rw [hl] at hrun
    refine ⟨_, hrun, ⟨fun j hj => ?_, fun j hj => ?_⟩, ?_⟩
    · have h2 := World.cell?_setCells_in w.heap.size ((List.range n).map fun j => Value.string (ss j)) 0 (w.alloc (blankRow n)) hex j (by rw [hl]; exact hj)
      rw [Nat.zero_add] at h2
      rw [h2]
      simp
    · rw [World.frozen?_setCells]; exact hr.free j hj
    · exact below_setCells _ (Nat.le_refl _) _ _ _ ((Below.refl _ _).alloc (Nat.le_refl _) _)

/-- A row of n strings that is being filled: the first k are g's. -/
def Fill (w : World) (B n : Nat) (g : Nat → ByteArray) (k : Nat) : Prop := ∃ f, Rw w B n f ∧ ∀ j, j < k → f j = g j
theorem fill_made (w : World) (n : Nat) (g : Nat → ByteArray) : Fill (w.alloc (blankRow n)) w.heap.size n g 0 := ⟨_, rw_made w n, fun j hj => by omega⟩
theorem Fill.alloc {w : World} {B n k : Nat} {g : Nat → ByteArray} (h : Fill w B n g k) (o : Obj) : Fill (w.alloc o) B n g k := by
  obtain ⟨f, h1, h2⟩ := h; exact ⟨f, h1.alloc o, h2⟩
theorem Fill.at {w : World} {B n k : Nat} {g : Nat → ByteArray} (h : Fill w B n g k) (j : Nat) (hj : j < n) : (∃ u, w.cell? ⟨B, j, none⟩ = some u) ∧ w.frozen? ⟨B, j, none⟩ = false := by
  obtain ⟨f, h1, h2⟩ := h; exact ⟨⟨_, h1.cell j hj⟩, h1.free j hj⟩
theorem Fill.step {w : World} {B n k : Nat} {g : Nat → ByteArray} (h : Fill w B n g k) (x : ByteArray) (hk : k < n) (hx : g k = x) : Fill (w.setCell ⟨B, k, none⟩ (.string x)) B n g (k + 1) := by
  obtain ⟨f, h1, h2⟩ := h
  refine ⟨fun j => if j = k then x else f j, h1.set k x hk (if_pos rfl) (fun j _ e => if_neg e), fun j hj => ?_⟩
  by_cases e : j = k
  · subst e; simp only [if_pos]; exact hx.symm
  · simp only [if_neg e]; exact h2 j (by omega)
theorem Fill.far {w : World} {B n k : Nat} {g : Nat → ByteArray} (h : Fill w B n g k) (B' i : Nat) (v : Value) (hB : B' ≠ B) : Fill (w.setCell ⟨B', i, none⟩ v) B n g k := by
  obtain ⟨f, h1, h2⟩ := h; exact ⟨f, h1.far B' i v hB, h2⟩
theorem Fill.done {w : World} {B n k : Nat} {g : Nat → ByteArray} (h : Fill w B n g k) (hk : n ≤ k) : Rw w B n g := by
  obtain ⟨f, h1, h2⟩ := h
  exact ⟨fun j hj => by rw [h1.cell j hj, h2 j (by omega)], h1.free⟩

/-- Such a row as a slice of strings. -/
theorem Rw.sl {w : World} {B n : Nat} {f : Nat → ByteArray} (h : Rw w B n f) (hl : ∀ k, k < n → (f k).size ≤ maxLen) : Sl w (some ⟨B, 0, none⟩) n B 0 f :=
  ⟨fun _ => rfl, fun k hk => by rw [Nat.zero_add]; exact h.cell k hk, hl⟩

/-- EVERY SLICE OF THE LAW, in one world: the three that came (copied), the two with the entry put in (blocks B, B + 1), the three with the entry put last (blocks C, C + 1, C + 2). -/
structure Mem (X : World) (a1 a2 a3 : Option Addr) (n n3 g1 g2 g3 h1 h2 h3 B C : Nat) (ks vs ns gk gv ak av bv : Nat → ByteArray) : Prop where
  t1 : Sl X a1 n g1 h1 ks
  t2 : Sl X a2 n g2 h2 vs
  t3 : Sl X a3 n3 g3 h3 ns
  ik : Sl X (some ⟨B, 0, none⟩) (n + 1) B 0 gk
  iv : Sl X (some ⟨B + 1, 0, none⟩) (n + 1) (B + 1) 0 gv
  pk : Sl X (some ⟨C, 0, none⟩) (n + 1) C 0 ak
  pv : Sl X (some ⟨C + 1, 0, none⟩) (n + 1) (C + 1) 0 av
  pb : Sl X (some ⟨C + 1 + 1, 0, none⟩) (n + 1) (C + 1 + 1) 0 bv
theorem Mem.below {X Y : World} {a1 a2 a3 : Option Addr} {n n3 g1 g2 g3 h1 h2 h3 B C : Nat} {ks vs ns gk gv ak av bv : Nat → ByteArray} (h : Mem X a1 a2 a3 n n3 g1 g2 g3 h1 h2 h3 B C ks vs ns gk gv ak av bv) (hb : Below X.heap.size X Y) :
    Mem Y a1 a2 a3 n n3 g1 g2 g3 h1 h2 h3 B C ks vs ns gk gv ak av bv :=
  ⟨h.t1.below hb, h.t2.below hb, h.t3.below hb, h.ik.below hb, h.iv.below hb, h.pk.below hb, h.pv.below hb, h.pb.below hb⟩
theorem ins_len {f : Nat → ByteArray} {x : ByteArray} {p n : Nat} (hf : ∀ k, k < n → (f k).size ≤ maxLen) (hx : x.size ≤ maxLen) (hp : p ≤ n) : ∀ k, k < n + 1 → (ins f x p k).size ≤ maxLen := by
  intro k hk
  by_cases h1 : k < p
  · rw [ins_lt h1]; exact hf k (by omega)
  by_cases h2 : k = p
  · subst h2; rw [ins_at]; exact hx
  · obtain ⟨j, rfl⟩ : ∃ j, k = j + 1 := ⟨k - 1, by omega⟩
    rw [ins_gt (by omega)]; exact hf j (by omega)
theorem app_len {f : Nat → ByteArray} {x : ByteArray} {n : Nat} (hf : ∀ k, k < n → (f k).size ≤ maxLen) (hx : x.size ≤ maxLen) : ∀ k, k < n + 1 → (app f x n k).size ≤ maxLen := by
  intro k hk
  by_cases h1 : k < n
  · rw [app_lt h1]; exact hf k h1
  · obtain rfl : k = n := by omega
    rw [app_at]; exact hx
theorem bang_size (s : ByteArray) : (s ++ ⟨#[33]⟩ : ByteArray).size = s.size + 1 := by rw [ByteArray.size_append]; rfl
theorem ret_bool {a b : Bool} (h : a = b) : Ending.returned (.bool a) = .returned (.bool b) := by rw [h]
end Go.Proofs.Qxb6618501a
