/-
  THE WALK of zzLastString.
-/
import Derived.Test.Qxb6618501aWa
import Derived.Test.Qxb6618501aPlain
namespace Go.Proofs.Qxb6618501a
open Go.RowKit

/-- The value of the last entry of the name, and whether there is one. -/
def LastEnd (r : Option ByteArray) (w : World) (e : Ending) (w' : World) : Prop := e = .returned (.tuple #[.string (r.getD ByteArray.empty), .bool r.isSome]) ∧ w' = w

set_option maxHeartbeats 400000 in
theorem last15_0 (o1 o2 : Option Addr) (c1 c2 : Nat) (ks vs : Nat → ByteArray) (nm : ByteArray) (w : World) :
    Calls Try.prog 15 #[.slice o1 0 c1, .slice o2 0 c2, .string nm] w fun e w' => LastEnd (lastUp ks vs nm 0) w e w' := by
  rw [last_zero]
  go_enter Try.func15, Try.ntmps15
  go_wp2
  refine wp_loop_rounds 1 ?_
  rw [rounds_succ]
  go_wp2
  go_ret2
  exact ⟨rfl, rfl⟩

set_option maxHeartbeats 400000 in
theorem last15_1 (o1 o2 : Option Addr) (n c1 c2 b1 b2 f1 f2 : Nat) (ks vs : Nat → ByteArray) (nm : ByteArray) (w : World) (hn : n + 1 ≤ 1048577)
    (s1 : Sl w o1 (n + 1) b1 f1 ks) (s2 : Sl w o2 (n + 1) b2 f2 vs) :
    Calls Try.prog 15 #[.slice o1 (n + 1) c1, .slice o2 (n + 1) c2, .string nm] w fun e w' => LastEnd (lastUp ks vs nm (n + 1)) w e w' := by
  generalize hr : lastUp ks vs nm (n + 1) = r
  have HR : Hid (lastUp ks vs nm (n + 1) = r) := hr
  clear hr
  go_enter Try.func15, Try.ntmps15
  go_wp2
  go_loop [8] (fun i => (i = .int .i64 (-1) ∧ Hid (r = none)) ∨ ∃ j : Nat, j < n + 1 ∧ i = .int .i64 j ∧ Hid (lastUp ks vs nm (j + 1) = r)) (fun i => (intOf i + 1).toNat)
  case atStart => exact Or.inr ⟨n, by omega, by go_num, HR⟩
  case round =>
    rcases hrel with ⟨rfl, hr⟩ | ⟨j, hj, rfl, hr⟩
    · go_wp2
      go_ret2
      exact ⟨by rw [hr.out]; rfl, rfl⟩
    · have hx1 := s1.ix c1 j hj
      have hx2 := s2.ix c2 j hj
      have hc1 := s1.cell j hj
      have hc2 := s2.cell j hj
      clear s1 s2
      by_cases he : ((ks j).toList == nm.toList) = true
      · have H2 : Hid (r = some (vs j)) := by rw [← hr.out]; exact last_hit he
        go_wp2
        go_ret2
        exact ⟨by rw [H2.out]; rfl, rfl⟩
      · have he' : ((ks j).toList == nm.toList) = false := by simpa using he
        have H2 : Hid (lastUp ks vs nm j = r) := by rw [← hr.out]; exact (last_miss he').symm
        clear he
        go_wp2
        go_round
        case rel =>
          cases j with
          | zero => exact Or.inl ⟨by go_num, H2.out.symm⟩
          | succ j => exact Or.inr ⟨j, by omega, by go_num, H2⟩
        case measure => simp [intOf]
theorem last15 (o1 o2 : Option Addr) (n c1 c2 b1 b2 f1 f2 : Nat) (ks vs : Nat → ByteArray) (nm : ByteArray) (w : World) (hn : n ≤ 1048577)
    (s1 : Sl w o1 n b1 f1 ks) (s2 : Sl w o2 n b2 f2 vs) :
    Calls Try.prog 15 #[.slice o1 n c1, .slice o2 n c2, .string nm] w fun e w' => LastEnd (lastUp ks vs nm n) w e w' := by
  cases n with
  | zero => exact last15_0 o1 o2 c1 c2 ks vs nm w
  | succ n => exact last15_1 o1 o2 n c1 c2 b1 b2 f1 f2 ks vs nm w hn s1 s2
end Go.Proofs.Qxb6618501a
