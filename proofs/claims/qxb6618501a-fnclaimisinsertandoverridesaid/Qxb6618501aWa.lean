/-
  A SLICE OF STRINGS IN MEMORY, told by a plain function; THE WALKS of zzStrFit and zzStrsFit.
-/
import Derived.Test.Qxb6618501aRows
import Derived.WalkKit
import Derived.WalkSpells
import Derived.WalkLawsBesides
namespace Go.Proofs.Qxb6618501a
open Go.RowKit

/-- The slice '.slice a n c' (of type 22) holds the strings ss 0 .. ss (n-1), in block b from cell off on. -/
structure Sl (w : World) (a : Option Addr) (n b off : Nat) (ss : Nat → ByteArray) : Prop where
  at0 : 0 < n → a = some ⟨b, off, none⟩
  cell : ∀ k, k < n → w.cell? ⟨b, off + k, none⟩ = some (.string (ss k))
  len : ∀ k, k < n → (ss k).size ≤ maxLen

theorem cells9 : Try.prog.cellsOf 9 = 1 := by kernel_rfl

theorem Sl.ix {w : World} {a : Option Addr} {n b off : Nat} {ss : Nat → ByteArray} (h : Sl w a n b off ss) (c : Nat) (k : Nat) (hk : k < n) (wx : World) :
    (Instr.indexAt 22 (.slice a n c) (.int .i64 (k : Int))).run Try.prog wx = .ok (.pointer (some ⟨b, off + k, none⟩)) wx := by
  rw [h.at0 (by omega)]
  go_simp

/-- A total between 0 and 2^20 and a bool come back; the world has not turned. -/
def FitEnd (w : World) (e : Ending) (w' : World) : Prop := ∃ (t' : Int) (b : Bool), e = .returned (.tuple #[.int .i64 t', .bool b]) ∧ 0 ≤ t' ∧ t' ≤ 1048576 ∧ w' = w

theorem fit7 (t : Int) (s : ByteArray) (w : World) (h0 : 0 ≤ t) (h1 : t ≤ 1048576) (hs : s.size ≤ maxLen) :
    Calls Try.prog 7 #[.int .i64 t, .string s] w fun e w' => FitEnd w e w' := by
  unfold maxLen at hs
  by_cases h : 1048576 - t < (s.size : Int)
  · go_enter Try.func7, Try.ntmps7
    go_wp2
    go_ret2
    exact ⟨t, false, rfl, h0, h1, rfl⟩
  · go_enter Try.func7, Try.ntmps7
    go_wp2
    go_ret2
    exact ⟨t + s.size, true, rfl, by omega, by omega, rfl⟩

set_option maxHeartbeats 400000 in
theorem fits8 (t : Int) (a : Option Addr) (n c b off : Nat) (ss : Nat → ByteArray) (w : World) (h0 : 0 ≤ t) (h1 : t ≤ 1048576) (hn : n ≤ 1048576) (hs : Sl w a n b off ss) :
    Calls Try.prog 8 #[.int .i64 t, .slice a n c] w fun e w' => FitEnd w e w' := by
  by_cases h : (1048576 - t) / 16 < (n : Int)
  · go_enter Try.func8, Try.ntmps8
    go_wp2
    go_ret2
    exact ⟨t, false, rfl, h0, h1, rfl⟩
  · go_enter Try.func8, Try.ntmps8
    go_wp2
    go_loop [0, 6] (fun v i => ∃ (t' : Int) (k : Nat), k ≤ n ∧ i = .int .i64 k ∧ v = .int .i64 t' ∧ 0 ≤ t' ∧ t' ≤ 1048576) (fun _ i => n - (intOf i).toNat)
    case atStart => exact ⟨_, 0, by omega, rfl, rfl, by omega, by omega⟩
    case round =>
      obtain ⟨t', k, hk, rfl, rfl, ht0, ht1⟩ := hrel
      by_cases hlt : k < n
      · have hix := hs.ix c k hlt
        have hc := hs.cell k hlt
        have hl := hs.len k hlt
        unfold maxLen at hl
        clear hs
        by_cases hg : 1048576 - t' < ((ss k).size : Int)
        · go_wp2
          go_ret2
          exact ⟨t', false, rfl, ht0, ht1, rfl⟩
        · go_wp2
          go_round
          case rel => exact ⟨_, k + 1, by omega, by go_num, rfl, by omega, by omega⟩
          case measure => simp [intOf]; omega
      · go_wp2
        go_ret2
        exact ⟨t', true, rfl, ht0, ht1, rfl⟩
end Go.Proofs.Qxb6618501a
