/-
  THE WALK of zzParseCanon, at a canonical numeral.
-/
import Derived.Test.Qxb6618496aFmtWa
import Derived.Deep.QuietTactic
import Derived.BigQuiet
namespace Go.Proofs.Qxb6618496aFmt
open Go.RowKit

theorem take_snoc (s : ByteArray) (k : Nat) (h : k < s.size) : s.data.toList.take (k + 1) = s.data.toList.take k ++ [s[k]] := by
  rw [List.take_succ_eq_append_getElem (by simpa using h)]; rfl
theorem digs_take {l : List UInt8} (h : Digs l) (k : Nat) : Digs (l.take k) := fun c hc => h c (List.mem_of_mem_take hc)
theorem num_take_lt {l : List UInt8} (h : Digs l) (k : Nat) (hk : k ≤ 5) : num (l.take k) < 100000 := by
  have h1 := num_lt _ (digs_take h k)
  have h2 : 10 ^ (l.take k).length ≤ 10 ^ 5 := Nat.pow_le_pow_right (by decide) (by have := List.length_take_le k l; omega)
  have h3 : 10 ^ 5 = 100000 := by decide
  omega

theorem lead_ne {s : ByteArray} {n : Nat} (hc : Canon s.data.toList n) (h1 : 1 < s.size) : ((s[0].toNat : Int) == 48) = false := by
  have h2 := hc.lead (by simpa using h1)
  rw [beq_eq_false_iff_ne]
  intro e
  apply h2
  rw [List.head?_eq_getElem?, List.getElem?_eq_getElem (by simpa using (by omega : 0 < s.size))]
  congr 1
  exact UInt8.toNat_inj.1 (by show s[0].toNat = 48; omega)
theorem byte_bd {s : ByteArray} (hd : Digs s.data.toList) (k : Nat) (h : k < s.size) : 48 ≤ s[k].toNat ∧ s[k].toNat ≤ 57 :=
  hd _ (by show s.data[k] ∈ _; simp)

set_option maxHeartbeats 400000 in
theorem parse10 (s : ByteArray) (n : Nat) (w : World) (hc : Canon s.data.toList n) (hn : n ≤ 65535) :
    Calls Tryf.prog 10 #[.string s] w fun e w' => e = .returned (.tuple #[.int .u32 n, .bool true]) ∧ w' = w := by
  have hs1 : 1 ≤ s.size := by have := hc.pos; simpa using this
  have hs5 : s.size ≤ 5 := by have := canon_len hc hn; simpa using this
  have hv : num s.data.toList = n := hc.val
  have hd := hc.digs
  have HV : Hid (num s.data.toList = n) := hv
  have HD : Hid (Digs s.data.toList) := hd
  have hh : (h : 1 < s.size) → ((s[0].toNat : Int) == 48) = false := lead_ne hc
  clear hc hv hd
  have g0 : ((s.size : Int) == 0) = false := by rw [beq_eq_false_iff_ne]; omega
  have g5 : ¬ (5 : Int) < (s.size : Int) := by omega
  by_cases h1 : 1 < s.size
  all_goals
    try replace hh := hh h1
    go_enter Tryf.func10, Tryf.ntmps10
    go_wp2
    go_loop [4, 5] (fun v i => ∃ k : Nat, k ≤ s.size ∧ i = .int .i64 k ∧ v = .int .u32 (num (s.data.toList.take k))) (fun _ i => s.size - (intOf i).toNat)
    case atStart => exact ⟨0, Nat.zero_le _, rfl, rfl⟩
    case round =>
      obtain ⟨k, hk, rfl, rfl⟩ := hrel
      have hb := num_take_lt HD.out k (by omega)
      by_cases hlt : k < s.size
      · obtain ⟨b0, b1⟩ := byte_bd HD.out k hlt
        have HS : Hid (num (s.data.toList.take (k + 1)) = num (s.data.toList.take k) * 10 + (s[k].toNat - 48)) := by rw [take_snoc s k hlt]; exact num_snoc _ _
        go_wp2
        all_goals
          go_round
          case rel => exact ⟨k + 1, by omega, by go_num, by rw [HS.out]; go_num⟩
          case measure => simp [intOf]; omega
      · have HN : Hid (num (s.data.toList.take k) = n) := by
          rw [List.take_of_length_le (by simp; omega)]; exact HV.out
        have hle : num (s.data.toList.take k) ≤ 65535 := by rw [HN.out]; exact hn
        go_wp2
        go_ret2
        exact ⟨by rw [HN.out]; rfl, rfl⟩
end Go.Proofs.Qxb6618496aFmt
