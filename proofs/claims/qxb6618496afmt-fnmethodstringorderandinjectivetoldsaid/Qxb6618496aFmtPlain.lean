/-
  THE PLAIN LAWS of this seat, with no Go in sight: decimal numerals, what they read back as, how they are ordered; a 32-bit word's halves.
-/
import Derived.Lib.ItoaMem
import Derived.Laws.BitsAllLaws
namespace Go.Proofs.Qxb6618496aFmt
open Go.Lib

/-! ### What a row of decimal digits reads back as -/
def nstep (v : Nat) (c : UInt8) : Nat := v * 10 + (c.toNat - 48)
def numA (acc : Nat) (l : List UInt8) : Nat := l.foldl nstep acc
def num (l : List UInt8) : Nat := numA 0 l

theorem numA_nil (acc : Nat) : numA acc [] = acc := by rw [numA, List.foldl_nil]
theorem numA_cons (acc : Nat) (c : UInt8) (l : List UInt8) : numA acc (c :: l) = numA (acc * 10 + (c.toNat - 48)) l := by
  rw [numA, List.foldl_cons, numA, nstep]
theorem numA_append (a b : List UInt8) (acc : Nat) : numA acc (a ++ b) = numA (numA acc a) b := by
  rw [numA, List.foldl_append, numA, numA]
theorem num_snoc (l : List UInt8) (c : UInt8) : num (l ++ [c]) = num l * 10 + (c.toNat - 48) := by
  unfold num; rw [numA_append, numA_cons, numA_nil]
theorem numA_eq (l : List UInt8) : ∀ acc, numA acc l = acc * 10 ^ l.length + numA 0 l := by
  induction l with
  | nil => intro acc; rw [numA_nil, numA_nil]; simp
  | cons c l ih =>
    intro acc
    rw [numA_cons, numA_cons, List.length_cons, ih (acc * 10 + (c.toNat - 48)), ih (0 * 10 + (c.toNat - 48)), Nat.pow_succ]
    rw [Nat.add_mul, Nat.zero_mul, Nat.zero_add, Nat.mul_assoc, Nat.mul_comm 10, Nat.add_assoc]
theorem num_cons (c : UInt8) (l : List UInt8) : num (c :: l) = (c.toNat - 48) * 10 ^ l.length + num l := by
  unfold num; rw [numA_cons, numA_eq]; simp
theorem num_append (a b : List UInt8) : num (a ++ b) = num a * 10 ^ b.length + num b := by
  unfold num; rw [numA_append, numA_eq]

/-- Digits, and nothing else. -/
def Digs (l : List UInt8) : Prop := ∀ c ∈ l, 48 ≤ c.toNat ∧ c.toNat ≤ 57
theorem num_lt (l : List UInt8) (h : Digs l) : num l < 10 ^ l.length := by
  induction l with
  | nil => rw [num, numA_nil]; simp
  | cons c l ih =>
    have h1 := h c (by simp)
    have h2 := ih (fun x hx => h x (by simp [hx]))
    rw [num_cons, List.length_cons, Nat.pow_succ]
    have h3 : (c.toNat - 48) * 10 ^ l.length ≤ 9 * 10 ^ l.length := Nat.mul_le_mul_right _ (by omega)
    omega

/-- At equal lengths the first digit that differs decides. -/
theorem num_first (p a b : List UInt8) (x y : UInt8) (ha : Digs (x :: a)) (_hb : Digs (y :: b)) (hl : a.length = b.length) (h : x.toNat < y.toNat) :
    num (p ++ x :: a) < num (p ++ y :: b) := by
  rw [num_append, num_append, num_cons, num_cons]
  have h1 := num_lt a (fun c hc => ha c (by simp [hc]))
  have hx := ha x (by simp)
  simp only [List.length_cons, hl] at *
  have h3 : (x.toNat - 48 + 1) * 10 ^ b.length ≤ (y.toNat - 48) * 10 ^ b.length := Nat.mul_le_mul_right _ (by omega)
  rw [Nat.add_mul, Nat.one_mul] at h3
  omega

/-- A CANONICAL NUMERAL of n. -/
structure Canon (l : List UInt8) (n : Nat) : Prop where
  pos : 1 ≤ l.length
  digs : Digs l
  lead : 1 < l.length → l.head? ≠ some 48
  val : num l = n

theorem canon_low {l : List UInt8} {n : Nat} (h : Canon l n) (h1 : 1 < l.length) : 10 ^ (l.length - 1) ≤ n := by
  obtain ⟨_, hd, hh, rfl⟩ := h
  cases l with
  | nil => simp at h1
  | cons c l =>
    have h2 := hh h1
    have h3 := hd c (by simp)
    rw [num_cons]
    have h4 : c.toNat ≠ 48 := fun e => h2 (by simp; exact UInt8.toNat_inj.1 e)
    have h5 : 1 * 10 ^ l.length ≤ (c.toNat - 48) * 10 ^ l.length := Nat.mul_le_mul_right _ (by omega)
    simp only [List.length_cons, Nat.add_sub_cancel]
    omega

/-- The shorter is the smaller. -/
theorem canon_short {a b : List UInt8} {x y : Nat} (ha : Canon a x) (hb : Canon b y) (h : a.length < b.length) : x < y := by
  have h1 := canon_low hb (by have := ha.pos; omega)
  have h2 := num_lt a ha.digs
  rw [ha.val] at h2
  have h3 : 10 ^ a.length ≤ 10 ^ (b.length - 1) := Nat.pow_le_pow_right (by decide) (by omega)
  omega
theorem canon_len {l : List UInt8} {n : Nat} (h : Canon l n) (hn : n ≤ 65535) : l.length ≤ 5 := by
  by_cases h1 : l.length ≤ 5
  · exact h1
  · have h2 := canon_low h (by omega)
    have h3 : 10 ^ 5 ≤ 10 ^ (l.length - 1) := Nat.pow_le_pow_right (by decide) (by omega)
    omega
theorem canon_inj {a b : List UInt8} {x y : Nat} (ha : Canon a x) (hb : Canon b y) (h : a = b) : x = y := by
  rw [← ha.val, ← hb.val, h]

/-! ### The numeral that fmt writes -/
theorem dec_canon (u : Nat) : Canon (decDigits u) u ∧ (1 ≤ u → (decDigits u).head? ≠ some 48) := by
  induction u using Nat.strongRecOn with
  | _ u ih =>
    by_cases h : u < 10
    · have e : (UInt8.ofNat (48 + u)).toNat = 48 + u := by simp; omega
      rw [decDigits, dif_pos h]
      refine ⟨⟨by simp, ?_, by simp, ?_⟩, ?_⟩
      · intro c hc; rw [List.mem_singleton] at hc; subst hc; rw [e]; omega
      · rw [num, numA_cons, numA_nil, e]; omega
      · intro h1 h2
        have h3 := congrArg UInt8.toNat (Option.some.inj h2)
        rw [e] at h3
        have h4 : (48 : UInt8).toNat = 48 := rfl
        omega
    · obtain ⟨⟨i1, i2, i3, i4⟩, i5⟩ := ih (u / 10) (by omega)
      have e : (UInt8.ofNat (48 + u % 10)).toNat = 48 + u % 10 := by simp; omega
      have hd : (decDigits u).head? ≠ some 48 := by
        rw [decDigits, dif_neg h]
        cases hq : decDigits (u / 10) with
        | nil => rw [hq] at i1; simp at i1
        | cons c l => have := i5 (by omega); rw [hq] at this; simpa using this
      refine ⟨⟨?_, ?_, fun _ => hd, ?_⟩, fun _ => hd⟩
      · rw [decDigits, dif_neg h]; simp
      · rw [decDigits, dif_neg h]
        intro c hc
        simp only [List.mem_append, List.mem_singleton] at hc
        rcases hc with hc | rfl
        · exact i2 c hc
        · rw [e]; omega
      · rw [decDigits, dif_neg h, num_snoc, i4, e]; omega

/-! ### The halves of a 32-bit word -/
theorem and16 (m : Int) (h0 : 0 ≤ m) (h1 : m ≤ 4294967295) : bits .and .u32 m 65535 = m % 65536 := by
  rw [u32_and m 65535 h0 (by omega) (by omega) (by omega)]
  have e : ((65535 : Int).toNat) = 2 ^ 16 - 1 := by decide
  rw [e, Nat.and_two_pow_sub_one_eq_mod]
  omega
theorem or16 (c i : Int) (h0 : 0 ≤ c) (h1 : c ≤ 65535) (h2 : 0 ≤ i) (h3 : i ≤ 65535) : bits .or .u32 (c * 65536) i = c * 65536 + i := by
  rw [u32_or _ _ (by omega) (by omega) (by omega) (by omega)]
  have e : (c * 65536).toNat = 2 ^ 16 * c.toNat := by omega
  rw [e, ← Nat.two_pow_add_eq_or_of_lt (by omega)]
  omega
theorem andNot16 (m : Int) (h0 : 0 ≤ m) (h1 : m ≤ 4294967295) : bits .andNot .u32 m 65535 = m / 65536 * 65536 := by
  rw [u32_andNot m 65535 h0 (by omega) (by omega) (by omega)]
  have e : (4294967295 - (65535 : Int).toNat) = 4294901760 := by decide
  rw [e]
  have h : m.toNat &&& 4294901760 = m.toNat / 65536 * 65536 := by
    apply Nat.eq_of_testBit_eq
    intro j
    have h4 : (4294901760 : Nat) = 2 ^ 16 * 65535 := by decide
    have h5 : m.toNat / 65536 * 65536 = 2 ^ 16 * (m.toNat / 2 ^ 16) := by omega
    rw [h5, Nat.testBit_and, h4, Nat.testBit_two_pow_mul, Nat.testBit_two_pow_mul]
    by_cases hj : 16 ≤ j
    · simp only [hj, decide_true, Bool.true_and]
      rw [Nat.testBit_div_two_pow]
      have e2 : j - 16 + 16 = j := by omega
      rw [e2]
      by_cases hk : j < 32
      · have h6 : (65535 : Nat).testBit (j - 16) = true := by
          rw [show (65535 : Nat) = 2 ^ 16 - 1 from rfl, Nat.testBit_two_pow_sub_one]
          simp; omega
        rw [h6, Bool.and_true]
      · have h7 : m.toNat.testBit j = false := Nat.testBit_lt_two_pow (by
          have : 2 ^ 32 ≤ 2 ^ j := Nat.pow_le_pow_right (by decide) (by omega)
          omega)
        rw [h7, Bool.false_and]
    · simp [hj]
  rw [h]
  omega

end Go.Proofs.Qxb6618496aFmt
