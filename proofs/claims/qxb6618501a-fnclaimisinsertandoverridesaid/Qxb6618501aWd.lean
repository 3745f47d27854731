/-
  THE MAP OF CLAIMS: how its elements read; THE WALKS of claimIs.
-/
import Derived.Test.Qxb6618501aWa
import Derived.Test.Qxb6618501aPlain
import Derived.Maps.Own
import Derived.Maps.Views
import Derived.Maps.OwnOps
namespace Go.Proofs.Qxb6618501a
open Go.RowKit Go.WideMaps Go.Maps

theorem law : Keyed Try.prog 9 := string_keyed Try.underlying9
theorem zero20 (w : World) : (zeroValue 20).run Try.prog w = .ok .nilIface w := by kernel_rfl
theorem mm (h : Int) (w : World) : (Instr.makeMap 45 (some (.int .i64 h))).run Try.prog w = .ok (.map (some w.heap.size)) (w.alloc (.map #[] 0)) := by kernel_rfl
theorem ta_s (s : ByteArray) (w : World) : (Instr.typeAssert (.iface 9 (.string s)) 20 9 true).run Try.prog w = .ok (.tuple #[.string s, .bool true]) w := by kernel_rfl
theorem ta_f (x : Value) (w : World) : (Instr.typeAssert (.iface 46 x) 20 9 true).run Try.prog w = .ok (.tuple #[.string ⟨#[]⟩, .bool false]) w := by kernel_rfl
theorem ta_n (w : World) : (Instr.typeAssert .nilIface 20 9 true).run Try.prog w = .ok (.tuple #[.string ⟨#[]⟩, .bool false]) w := by kernel_rfl

/-- HOW AN ELEMENT READS: a string as itself; a number as 'false'; nil as nil. -/
def elemR (v : Value) : Option (DataW Unit × List MemPlace) :=
  match v with
  | .iface 9 (.string s) => some (.lit (.string s.data.toList), [])
  | .iface 46 _ => some (.lit (.bool false), [])
  | .nilIface => some (.nil, [])
  | _ => none
theorem elemR_s (s : ByteArray) : elemR (.iface 9 (.string s)) = some (.lit (.string s.data.toList), []) := rfl
theorem elemR_f (x : Value) : elemR (.iface 46 x) = some (.lit (.bool false), []) := by cases x <;> rfl
theorem elemR_inv {v : Value} {d : DataW Unit} {ps : List MemPlace} (h : elemR v = some (d, ps)) :
    (∃ s, v = .iface 9 (.string s) ∧ d = .lit (.string s.data.toList)) ∨ (∃ x, v = .iface 46 x ∧ d = .lit (.bool false)) ∨ (v = .nilIface ∧ d = .nil) := by
  unfold elemR at h
  split at h
  · cases h; exact Or.inl ⟨_, rfl, rfl⟩
  · cases h; exact Or.inr (Or.inl ⟨_, rfl, rfl⟩)
  · cases h; exact Or.inr (Or.inr ⟨rfl, rfl⟩)
  · cases h

/-- WHAT THE MAP HOLDS AT A NAME, told by the last entry: a string, or nothing that is a string. -/
def Tells (d : DataW Unit) (r : Option ByteArray) : Prop :=
  match r with
  | some v => d = .lit (.string v.data.toList)
  | none => d = .nil ∨ d = .lit (.bool false)

set_option maxHeartbeats 400000 in
theorem claim18 (B n : Nat) (D : DataW Unit) (nm want : ByteArray) (r : Option ByteArray) (w : World) (hz : nm.size ≤ maxLen) (hown : w.ownsMap Try.prog 9 elemR B n D) (ht : Tells (D.atKey (.string nm.data.toList) .nil) r) :
    Calls Try.prog 18 #[.map (some B), .string nm, .string want] w fun e w' => e = .returned (.bool (isWant r want)) ∧ w' = w := by
  obtain ⟨v, ps, hrun, hv⟩ := hown.lookup law Try.underlying45 (zero20 w) (zd := .nil) (zp := []) rfl (keyOf_string_mk Try.underlying9 hz)
  generalize D.atKey (.string nm.data.toList) .nil = d at hv ht
  rcases elemR_inv hv with ⟨s, rfl, rfl⟩ | ⟨x, rfl, rfl⟩ | ⟨rfl, rfl⟩
  · have hr : r = some s := by
      cases r with
      | none => simp [Tells] at ht
      | some v =>
        simp only [Tells, DataW.lit.injEq, Lit.string.injEq] at ht
        have : s = v := by cases s; cases v; simp only [ByteArray.mk.injEq]; exact Array.toList_inj.1 ht
        rw [this]
    subst hr
    have ta := ta_s s
    clear hv ht hown
    go_enter Try.func18, Try.ntmps18
    go_wp2
    go_ret
    exact ⟨rfl, rfl⟩
  · have hr : r = none := by
      cases r with
      | none => rfl
      | some v => simp [Tells] at ht
    subst hr
    have ta := ta_f x
    clear hv ht hown
    go_enter Try.func18, Try.ntmps18
    go_wp2
    go_ret
    exact ⟨rfl, rfl⟩
  · have hr : r = none := by
      cases r with
      | none => rfl
      | some v => simp [Tells] at ht
    subst hr
    have ta := ta_n
    clear hv ht hown
    go_enter Try.func18, Try.ntmps18
    go_wp2
    go_ret
    exact ⟨rfl, rfl⟩
end Go.Proofs.Qxb6618501a
