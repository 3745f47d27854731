/-
  THE WALK of zzCmpRun, at two canonical numerals.
-/
import Derived.Test.Qxb6618496aFmtWc
namespace Go.Proofs.Qxb6618496aFmt
open Go.RowKit

def cmpN (x y : Nat) : Int := if x < y then -1 else if y < x then 1 else 0

theorem split_at (a : ByteArray) (k : Nat) (h : k < a.size) : a.data.toList = a.data.toList.take k ++ a[k] :: a.data.toList.drop (k + 1) := by
  have h1 : k < a.data.toList.length := by simpa using h
  have h2 := List.take_append_drop k a.data.toList
  rw [List.drop_eq_getElem_cons h1] at h2
  exact h2.symm
theorem first_lt {a b : ByteArray} {x y k : Nat} (ca : Canon a.data.toList x) (cb : Canon b.data.toList y) (hl : a.size = b.size) (ha : k < a.size) (hb : k < b.size)
    (hp : a.data.toList.take k = b.data.toList.take k) (h : a[k].toNat < b[k].toNat) : x < y := by
  have e1 := ca.val
  have e2 := cb.val
  have d1 := ca.digs
  have d2 := cb.digs
  rw [split_at a k ha] at e1 d1
  rw [split_at b k hb, ← hp] at e2 d2
  rw [← e1, ← e2]
  refine num_first _ _ _ _ _ (fun c hc => d1 c (by simp only [List.mem_append]; exact Or.inr hc)) (fun c hc => d2 c (by simp only [List.mem_append]; exact Or.inr hc)) ?_ h
  simp only [List.length_drop]
  have : a.data.toList.length = b.data.toList.length := by simpa using hl
  omega
theorem take_eq_next {a b : ByteArray} {k : Nat} (ha : k < a.size) (hb : k < b.size) (hp : a.data.toList.take k = b.data.toList.take k) (h : a[k].toNat = b[k].toNat) :
    a.data.toList.take (k + 1) = b.data.toList.take (k + 1) := by
  rw [take_snoc a k ha, take_snoc b k hb, hp, UInt8.toNat_inj.1 h]
theorem cmp_lt {x y : Nat} (h : x < y) : cmpN x y = -1 := by unfold cmpN; rw [if_pos h]
theorem cmp_gt {x y : Nat} (h : y < x) : cmpN x y = 1 := by unfold cmpN; rw [if_neg (by omega), if_pos h]
theorem cmp_eq {x y : Nat} (h : x = y) : cmpN x y = 0 := by unfold cmpN; rw [if_neg (by omega), if_neg (by omega)]

set_option maxHeartbeats 400000 in
theorem cmp8 (a b : ByteArray) (x y : Nat) (w : World) (ca : Canon a.data.toList x) (cb : Canon b.data.toList y) (za : a.size ≤ 5) :
    Calls Tryf.prog 8 #[.string a, .string b] w fun e w' => e = .returned (.int .i64 (cmpN x y)) ∧ ∃ n, w' = w.drewN n := by
  have HA : Hid (Canon a.data.toList x) := ca
  have HB : Hid (Canon b.data.toList y) := cb
  clear ca cb
  by_cases h1 : a.size < b.size
  · have HE : Hid (cmpN x y = -1) := cmp_lt (canon_short HA.out HB.out (by simpa using h1))
    go_enter Tryf.func8, Tryf.ntmps8
    go_wp2
    go_ret
    exact ⟨by rw [HE.out]; rfl, 0, rfl⟩
  by_cases h2 : b.size < a.size
  · have HE : Hid (cmpN x y = 1) := cmp_gt (canon_short HB.out HA.out (by simpa using h2))
    go_enter Tryf.func8, Tryf.ntmps8
    go_wp2
    go_ret
    exact ⟨by rw [HE.out]; rfl, 0, rfl⟩
  have HL : Hid (a.size = b.size) := by show a.size = b.size; omega
  go_enter Tryf.func8, Tryf.ntmps8
  go_wp2
  go_loopw [5] (fun i wr => ∃ k : Nat, k ≤ a.size ∧ i = .int .i64 k ∧ Hid (a.data.toList.take k = b.data.toList.take k) ∧ ∃ n, wr = w.drewN n) (fun i _ => a.size - (intOf i).toNat)
  case atStart => exact ⟨0, Nat.zero_le _, rfl, rfl, 0, rfl⟩
  case round =>
    obtain ⟨k, hk, rfl, HP, n, rfl⟩ := hrel
    by_cases hlt : k < a.size
    · have hlb : k < b.size := by omega
      by_cases g1 : a[k].toNat < b[k].toNat
      · have HE : Hid (cmpN x y = -1) := cmp_lt (first_lt HA.out HB.out HL.out hlt hlb HP.out g1)
        go_wp2
        go_quiet (fail)
        go_wp2
        go_ret
        exact ⟨by rw [HE.out]; rfl, _, World.drewN_drewN _ _ _⟩
      · by_cases g2 : b[k].toNat < a[k].toNat
        · have HE : Hid (cmpN x y = 1) := cmp_gt (first_lt HB.out HA.out HL.out.symm hlb hlt HP.out.symm g2)
          go_wp2
          go_quiet (fail)
          go_wp2
          go_quiet (fail)
          go_wp2
          go_ret
          exact ⟨by rw [HE.out]; rfl, _, by rw [World.drewN_drewN, World.drewN_drewN]⟩
        · have HQ : Hid (a.data.toList.take (k + 1) = b.data.toList.take (k + 1)) := take_eq_next hlt hlb HP.out (by omega)
          go_wp2
          go_quiet (fail)
          go_wp2
          go_quiet (fail)
          go_wp2
          go_roundw
          case rel => exact ⟨k + 1, by omega, by go_num, HQ, _, rfl⟩
          case measure => simp [intOf]; omega
    · have HE : Hid (cmpN x y = 0) := by
        refine cmp_eq ?_
        have h3 := HP.out
        rw [List.take_of_length_le (by simp; omega), List.take_of_length_le (by simp; omega)] at h3
        exact canon_inj HA.out HB.out h3
      go_wp2
      go_ret
      exact ⟨by rw [HE.out]; rfl, _, rfl⟩
end Go.Proofs.Qxb6618496aFmt
