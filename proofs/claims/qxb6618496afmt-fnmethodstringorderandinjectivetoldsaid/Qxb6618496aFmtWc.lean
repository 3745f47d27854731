/-
  THE WALK of zzSplitDot, at a text with one dot.
-/
import Derived.Test.Qxb6618496aFmtWb
namespace Go.Proofs.Qxb6618496aFmt
open Go.RowKit

set_option maxHeartbeats 400000 in
theorem split7 (s : ByteArray) (p : Nat) (w : World) (hz : s.size ≤ 11) (hp : p < s.size) (hy : (s[p].toNat : Int) == 46) (hno : ∀ k (h : k < s.size), k ≠ p → ((s[k].toNat : Int) == 46) = false) :
    Calls Tryf.prog 7 #[.string s] w fun e w' => e = .returned (.tuple #[.string (s.extract 0 p), .string (s.extract (p + 1) s.size), .bool true]) ∧ ∃ n, w' = w.drewN n := by
  have HN : Hid (∀ k (h : k < s.size), k ≠ p → ((s[k].toNat : Int) == 46) = false) := hno
  clear hno
  go_enter Tryf.func7, Tryf.ntmps7
  go_wp2
  go_loop [5, 6, 7] (fun d a i => ∃ k : Nat, k ≤ s.size ∧ i = .int .i64 k ∧ ((k ≤ p ∧ d = .int .i64 0 ∧ a = .int .i64 (-1)) ∨ (p < k ∧ d = .int .i64 1 ∧ a = .int .i64 p))) (fun _ _ i => s.size - (intOf i).toNat)
  case atStart => exact ⟨0, Nat.zero_le _, rfl, Or.inl ⟨Nat.zero_le _, rfl, rfl⟩⟩
  case round =>
    obtain ⟨k, hk, rfl, hr⟩ := hrel
    by_cases hlt : k < s.size
    · rcases hr with ⟨hkp, rfl, rfl⟩ | ⟨hkp, rfl, rfl⟩
      · by_cases hq : k = p
        · subst hq
          go_wp2
          go_round
          case rel => exact ⟨k + 1, by omega, by go_num, Or.inr ⟨by omega, rfl, rfl⟩⟩
          case measure => simp [intOf]; omega
        · have hx := HN.out k hlt hq
          go_wp2
          go_round
          case rel => exact ⟨k + 1, by omega, by go_num, Or.inl ⟨by omega, rfl, rfl⟩⟩
          case measure => simp [intOf]; omega
      · have hx := HN.out k hlt (by omega)
        go_wp2
        go_round
        case rel => exact ⟨k + 1, by omega, by go_num, Or.inr ⟨by omega, rfl, rfl⟩⟩
        case measure => simp [intOf]; omega
    · rcases hr with ⟨hkp, rfl, rfl⟩ | ⟨hkp, rfl, rfl⟩
      · omega
      · go_wp2
        go_quiet (fail)
        go_wp2
        go_ret3
        exact ⟨rfl, _, rfl⟩
end Go.Proofs.Qxb6618496aFmt
