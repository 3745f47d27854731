/-
  THE PLAIN LAWS: the header of a length below 60001 (one to three bytes, seven bits a byte, the lowest first), what the writer gathers, bits. No Go in sight.
-/
import Derived.Laws.BitsAllLaws
import Derived.Lib.Endian
import Derived.Lib.UnsafeStr
namespace Go.Proofs.Qxb6618523aDoorRR

/-- How many bytes the header of v has. -/
def hlen (v : Nat) : Nat := if v < 128 then 1 else if v < 16384 then 2 else 3
theorem hlen_1 {v : Nat} (h : v < 128) : hlen v = 1 := by unfold hlen; rw [if_pos h]
theorem hlen_2 {v : Nat} (h : ¬ v < 128) (h2 : v < 16384) : hlen v = 2 := by unfold hlen; rw [if_neg h, if_pos h2]
theorem hlen_3 {v : Nat} (h : ¬ v < 16384) : hlen v = 3 := by unfold hlen; rw [if_neg (by omega), if_neg h]
theorem hlen_le (v : Nat) : 1 ≤ hlen v ∧ hlen v ≤ 3 := by
  unfold hlen
  split
  · omega
  · split <;> omega

/-- Its bytes, as numbers. -/
def hnat (v j : Nat) : Nat :=
  if v < 128 then (if j = 0 then v else 0)
  else if v < 16384 then (if j = 0 then v % 128 + 128 else if j = 1 then v / 128 else 0)
  else (if j = 0 then v % 128 + 128 else if j = 1 then v / 128 % 128 + 128 else if j = 2 then v / 16384 else 0)
def hbyte (v j : Nat) : UInt8 := UInt8.ofNat (hnat v j)

theorem toNat_ofNat {n : Nat} (h : n < 256) : (UInt8.ofNat n).toNat = n := by simp; omega
theorem hnat_lt {v : Nat} (hv : v ≤ 60000) (j : Nat) : hnat v j < 256 := by
  unfold hnat
  split
  · split <;> omega
  · split
    · split
      · omega
      · split <;> omega
    · split
      · omega
      · split
        · omega
        · split <;> omega
theorem hbyte_toNat {v : Nat} (hv : v ≤ 60000) (j : Nat) : (hbyte v j).toNat = hnat v j := toNat_ofNat (hnat_lt hv j)
theorem hnat_far {v j : Nat} (h : hlen v ≤ j) : hnat v j = 0 := by
  unfold hlen at h
  unfold hnat
  by_cases h1 : v < 128
  · rw [if_pos h1] at h ⊢; rw [if_neg (by omega)]
  · rw [if_neg h1] at h ⊢
    by_cases h2 : v < 16384
    · rw [if_pos h2] at h ⊢; rw [if_neg (by omega), if_neg (by omega)]
    · rw [if_neg h2] at h ⊢; rw [if_neg (by omega), if_neg (by omega), if_neg (by omega)]
theorem hbyte_far {v j : Nat} (h : hlen v ≤ j) : hbyte v j = 0 := by unfold hbyte; rw [hnat_far h]; rfl

/-- WHAT IS GATHERED: the header, the string's bytes, zeros. -/
def dat (s : ByteArray) (j : Nat) : UInt8 := if j < hlen s.size then hbyte s.size j else if h : j - hlen s.size < s.size then s[j - hlen s.size] else 0

/-! ### bits -/
theorem or0 (v : Nat) (h : v < 65536) : bits .or .u64 0 (v : Int) = v := by
  have := u64_or_nat 0 v (by omega) (by omega)
  simpa using this
theorem or128 (x : Nat) (h : x < 256) : bits .or .u8 (x : Int) 128 = ((x % 128 + 128 : Nat) : Int) := by
  have h1 := u8_or_nat x 128 h (by omega)
  have h2 : x ||| 128 = x % 128 + 128 := by
    have := (show ∀ y : Fin 256, y.val ||| 128 = y.val % 128 + 128 by decide +kernel) ⟨x, h⟩
    exact this
  rw [h2] at h1
  exact h1
theorem and127 (x : Nat) (h : x < 256) : bits .and .u8 (x : Int) 127 = ((x % 128 : Nat) : Int) := by
  have h1 := u8_and_nat x 127 h (by omega)
  have h2 : x &&& 127 = x % 128 := by
    have := (show ∀ y : Fin 256, y.val &&& 127 = y.val % 128 by decide +kernel) ⟨x, h⟩
    exact this
  rw [h2] at h1
  exact h1
end Go.Proofs.Qxb6618523aDoorRR
