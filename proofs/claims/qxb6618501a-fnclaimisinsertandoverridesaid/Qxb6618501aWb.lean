/-
  THE WALK of zzBytes_FnClaimIsInsertAndOverride.
-/
import Derived.Test.Qxb6618501aWa
namespace Go.Proofs.Qxb6618501a
open Go.RowKit

/-- A bool comes back; the world has not turned; where it is true the lengths are small. -/
def BytesEnd (n1 n2 n3 : Nat) (want : ByteArray) (w : World) (e : Ending) (w' : World) : Prop :=
  ∃ b : Bool, e = .returned (.bool b) ∧ w' = w ∧ (b = true → n1 ≤ 1048576 ∧ n2 ≤ 1048576 ∧ n3 ≤ 1048576 ∧ want.size ≤ 1048576)
theorem bytes_no {n1 n2 n3 : Nat} {want : ByteArray} {w : World} : BytesEnd n1 n2 n3 want w (.returned (.bool false)) w := ⟨false, rfl, rfl, fun h => by cases h⟩
theorem bytes_yes {n1 n2 n3 : Nat} {want : ByteArray} {w : World} (h1 : n1 ≤ 1048576) (h2 : n2 ≤ 1048576) (h3 : n3 ≤ 1048576) (h4 : want.size ≤ 1048576) : BytesEnd n1 n2 n3 want w (.returned (.bool true)) w := ⟨true, rfl, rfl, fun _ => ⟨h1, h2, h3, h4⟩⟩

set_option maxHeartbeats 1000000 in
theorem bytes13 (o1 o2 o3 : Option Addr) (n1 n2 n3 c1 c2 c3 b1 b2 b3 f1 f2 f3 : Nat) (ss1 ss2 ss3 : Nat → ByteArray) (nm want k2 v2 : ByteArray) (p : Int) (w : World)
    (m1 : n1 ≤ maxLen) (m2 : n2 ≤ maxLen) (m3 : n3 ≤ maxLen) (z1 : nm.size ≤ maxLen) (z2 : want.size ≤ maxLen) (z3 : k2.size ≤ maxLen) (z4 : v2.size ≤ maxLen)
    (s1 : Sl w o1 n1 b1 f1 ss1) (s2 : Sl w o2 n2 b2 f2 ss2) (s3 : Sl w o3 n3 b3 f3 ss3) :
    Calls Try.prog 13 #[.slice o1 n1 c1, .slice o2 n2 c2, .slice o3 n3 c3, .string nm, .string want, .string k2, .string v2, .int .i64 p] w fun e w' => BytesEnd n1 n2 n3 want w e w' := by
  unfold maxLen at m1 m2 m3 z1 z2 z3 z4
  by_cases a1 : (1048576 : Int) < (n1 : Int)
  · go_enter Try.func13, Try.ntmps13
    go_wp2
    go_ret
    exact bytes_no
  go_enter Try.func13, Try.ntmps13
  go_wp2
  go_loop [17, 18] (fun v i => ∃ (t : Int) (k : Nat), k ≤ n1 ∧ i = .int .i64 k ∧ v = .int .i64 t ∧ 0 ≤ t ∧ t ≤ 1048576) (fun _ i => n1 - (intOf i).toNat)
  case atStart => exact ⟨_, 0, by omega, rfl, rfl, by omega, by omega⟩
  case round =>
    obtain ⟨t1, k, hk, rfl, rfl, ht0, ht1⟩ := hrel
    by_cases hlt : k < n1
    · have hix := s1.ix c1 k hlt
      have hc := s1.cell k hlt
      have hl := s1.len k hlt
      unfold maxLen at hl
      clear s1 s2 s3
      by_cases g1 : (1048576 : Int) < ((ss1 k).size : Int)
      · go_wp2
        go_ret
        exact bytes_no
      by_cases g2 : (1048576 : Int) < t1 + ((ss1 k).size : Int)
      · go_wp2
        go_ret
        exact bytes_no
      · go_wp2
        go_round
        case rel => exact ⟨_, k + 1, by omega, by go_num, rfl, by omega, by omega⟩
        case measure => simp [intOf]; omega
    · clear hk
      by_cases a2 : (1048576 : Int) < (n2 : Int)
      · go_wp2
        go_ret
        exact bytes_no
      by_cases b2 : (1048576 : Int) < t1 + (n2 : Int)
      · go_wp2
        go_ret
        exact bytes_no
      go_wp2
      go_loop [17, 19] (fun v i => ∃ (t : Int) (k : Nat), k ≤ n2 ∧ i = .int .i64 k ∧ v = .int .i64 t ∧ 0 ≤ t ∧ t ≤ 1048576) (fun _ i => n2 - (intOf i).toNat)
      case atStart => exact ⟨_, 0, by omega, rfl, rfl, by omega, by omega⟩
      case round =>
        obtain ⟨t2, k, hk, rfl, rfl, ht0, ht1⟩ := hrel
        by_cases hlt : k < n2
        · have hix := s2.ix c2 k hlt
          have hc := s2.cell k hlt
          have hl := s2.len k hlt
          unfold maxLen at hl
          clear s1 s2 s3
          by_cases g1 : (1048576 : Int) < ((ss2 k).size : Int)
          · go_wp2
            go_ret
            exact bytes_no
          by_cases g2 : (1048576 : Int) < t2 + ((ss2 k).size : Int)
          · go_wp2
            go_ret
            exact bytes_no
          · go_wp2
            go_round
            case rel => exact ⟨_, k + 1, by omega, by go_num, rfl, by omega, by omega⟩
            case measure => simp [intOf]; omega
        · clear hk
          by_cases a3 : (1048576 : Int) < (n3 : Int)
          · go_wp2
            go_ret
            exact bytes_no
          by_cases b3 : (1048576 : Int) < t2 + (n3 : Int)
          · go_wp2
            go_ret
            exact bytes_no
          go_wp2
          go_loop [17, 20] (fun v i => ∃ (t : Int) (k : Nat), k ≤ n3 ∧ i = .int .i64 k ∧ v = .int .i64 t ∧ 0 ≤ t ∧ t ≤ 1048576) (fun _ i => n3 - (intOf i).toNat)
          case atStart => exact ⟨_, 0, by omega, rfl, rfl, by omega, by omega⟩
          case round =>
            obtain ⟨t3, k, hk, rfl, rfl, ht0, ht1⟩ := hrel
            by_cases hlt : k < n3
            · have hix := s3.ix c3 k hlt
              have hc := s3.cell k hlt
              have hl := s3.len k hlt
              unfold maxLen at hl
              clear s1 s2 s3
              by_cases g1 : (1048576 : Int) < ((ss3 k).size : Int)
              · go_wp2
                go_ret
                exact bytes_no
              by_cases g2 : (1048576 : Int) < t3 + ((ss3 k).size : Int)
              · go_wp2
                go_ret
                exact bytes_no
              · go_wp2
                go_round
                case rel => exact ⟨_, k + 1, by omega, by go_num, rfl, by omega, by omega⟩
                case measure => simp [intOf]; omega
            · clear hk
              by_cases xnm : (1048576 : Int) < (nm.size : Int)
              · go_wp2
                go_ret
                exact bytes_no
              by_cases ynm : (1048576 : Int) < t3 + (nm.size : Int)
              · go_wp2
                go_ret
                exact bytes_no
              by_cases xwant : (1048576 : Int) < (want.size : Int)
              · go_wp2
                go_ret
                exact bytes_no
              by_cases ywant : (1048576 : Int) < t3 + (nm.size : Int) + (want.size : Int)
              · go_wp2
                go_ret
                exact bytes_no
              by_cases xk2 : (1048576 : Int) < (k2.size : Int)
              · go_wp2
                go_ret
                exact bytes_no
              by_cases yk2 : (1048576 : Int) < t3 + (nm.size : Int) + (want.size : Int) + (k2.size : Int)
              · go_wp2
                go_ret
                exact bytes_no
              by_cases xv2 : (1048576 : Int) < (v2.size : Int)
              · go_wp2
                go_ret
                exact bytes_no
              by_cases yv2 : (1048576 : Int) < t3 + (nm.size : Int) + (want.size : Int) + (k2.size : Int) + (v2.size : Int)
              · go_wp2
                go_ret
                exact bytes_no
              go_wp2
              go_ret
              exact bytes_yes (by omega) (by omega) (by omega) (by omega)
end Go.Proofs.Qxb6618501a
