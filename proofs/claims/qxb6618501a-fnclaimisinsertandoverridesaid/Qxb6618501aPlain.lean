/-
  THE PLAIN LAWS: the last entry of a name among the first k; an entry put in; an entry put last. No Go in sight.
-/
import Derived.Laws.Strings
namespace Go.Proofs.Qxb6618501a

/-- The value of the last of the first k entries whose key is nm. -/
def lastUp (ks vs : Nat → ByteArray) (nm : ByteArray) : Nat → Option ByteArray
  | 0 => none
  | k + 1 => if (ks k).toList == nm.toList then some (vs k) else lastUp ks vs nm k

theorem last_hit {ks vs : Nat → ByteArray} {nm : ByteArray} {k : Nat} (h : ((ks k).toList == nm.toList) = true) : lastUp ks vs nm (k + 1) = some (vs k) := by
  rw [lastUp, if_pos h]
theorem last_miss {ks vs : Nat → ByteArray} {nm : ByteArray} {k : Nat} (h : ((ks k).toList == nm.toList) = false) : lastUp ks vs nm (k + 1) = lastUp ks vs nm k := by
  rw [lastUp, if_neg (by rw [h]; exact Bool.false_ne_true)]
theorem last_succ (ks vs : Nat → ByteArray) (nm : ByteArray) (k : Nat) : lastUp ks vs nm (k + 1) = if (ks k).toList == nm.toList then some (vs k) else lastUp ks vs nm k := rfl
theorem last_zero (ks vs : Nat → ByteArray) (nm : ByteArray) : lastUp ks vs nm 0 = none := rfl

theorem last_congr {ks vs ks' vs' : Nat → ByteArray} {nm : ByteArray} : ∀ (n : Nat), (∀ k, k < n → ks k = ks' k ∧ vs k = vs' k) → lastUp ks vs nm n = lastUp ks' vs' nm n
  | 0, _ => rfl
  | n + 1, h => by
    rw [lastUp, lastUp, (h n (by omega)).1, (h n (by omega)).2, last_congr n (fun k hk => h k (by omega))]

/-- What the claim's look-up answers. -/
def isWant (r : Option ByteArray) (want : ByteArray) : Bool := r.isSome && ((r.getD ByteArray.empty).toList == want.toList)

/-- x put in at place p. -/
def ins (f : Nat → ByteArray) (x : ByteArray) (p j : Nat) : ByteArray := if j < p then f j else if j = p then x else f (j - 1)
/-- x put last, behind the first n. -/
def app (f : Nat → ByteArray) (x : ByteArray) (n j : Nat) : ByteArray := if j < n then f j else x

theorem ins_lt {f : Nat → ByteArray} {x : ByteArray} {p j : Nat} (h : j < p) : ins f x p j = f j := by unfold ins; rw [if_pos h]
theorem ins_at {f : Nat → ByteArray} {x : ByteArray} {p : Nat} : ins f x p p = x := by unfold ins; rw [if_neg (by omega), if_pos rfl]
theorem ins_gt {f : Nat → ByteArray} {x : ByteArray} {p j : Nat} (h : p ≤ j) : ins f x p (j + 1) = f j := by
  unfold ins; rw [if_neg (by omega), if_neg (by omega), Nat.add_sub_cancel]
theorem app_lt {f : Nat → ByteArray} {x : ByteArray} {n j : Nat} (h : j < n) : app f x n j = f j := by unfold app; rw [if_pos h]
theorem app_at {f : Nat → ByteArray} {x : ByteArray} {n : Nat} : app f x n n = x := by unfold app; rw [if_neg (by omega)]

/-- An entry of another name put in anywhere changes nothing. -/
theorem last_ins {ks vs : Nat → ByteArray} {nm k2 v2 : ByteArray} {p : Nat} (h : (k2.toList == nm.toList) = false) :
    ∀ j, lastUp (ins ks k2 p) (ins vs v2 p) nm (p + j + 1) = lastUp ks vs nm (p + j)
  | 0 => by
    rw [Nat.add_zero, last_miss (by rw [ins_at]; exact h)]
    exact last_congr p (fun k hk => ⟨ins_lt hk, ins_lt hk⟩)
  | j + 1 => by
    have e1 : ins ks k2 p (p + j + 1) = ks (p + j) := ins_gt (Nat.le_add_right p j)
    have e2 : ins vs v2 p (p + j + 1) = vs (p + j) := ins_gt (Nat.le_add_right p j)
    have e3 := last_ins (vs := vs) (v2 := v2) (ks := ks) (p := p) h j
    rw [show p + (j + 1) = p + j + 1 from rfl, last_succ _ _ _ (p + j + 1), e1, e2, e3, last_succ ks]
theorem last_app {ks vs : Nat → ByteArray} {nm want : ByteArray} {n : Nat} : lastUp (app ks nm n) (app vs want n) nm (n + 1) = some want := by
  rw [last_hit (by rw [app_at]; simp), app_at]
theorem want_yes (want : ByteArray) : isWant (some want) want = true := by simp [isWant]
theorem want_no (want : ByteArray) : isWant (some (want ++ ⟨#[33]⟩)) want = false := by
  simp [isWant, ByteArray.toList_eq]
end Go.Proofs.Qxb6618501a
