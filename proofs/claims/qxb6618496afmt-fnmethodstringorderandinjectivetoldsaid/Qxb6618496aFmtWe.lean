/-
  THE TEXT 'class.id', and THE WALK of zzDecode over it.
-/
import Derived.Test.Qxb6618496aFmtWd
namespace Go.Proofs.Qxb6618496aFmt
open Go.RowKit Go.Lib

/-- THE TEXT of a class and an id: the class's numeral, a dot, the id's numeral. -/
def txt (c i : Nat) : ByteArray := ⟨(decDigits c ++ 46 :: decDigits i).toArray⟩
def dg1 (c : Nat) : ByteArray := ⟨(decDigits c).toArray⟩

theorem dg1_list (c : Nat) : (dg1 c).data.toList = decDigits c := by simp [dg1]
theorem dg1_size (c : Nat) : (dg1 c).size = (decDigits c).length := by simp [dg1, ByteArray.size]
theorem txt_size (c i : Nat) : (txt c i).size = (decDigits c).length + 1 + (decDigits i).length := by simp [txt, ByteArray.size]; omega
theorem txt_list (c i : Nat) : (txt c i).data.toList = decDigits c ++ 46 :: decDigits i := by simp [txt]
theorem ext_eq {a b : ByteArray} (h : a.data.toList = b.data.toList) : a = b := by
  cases a; cases b; simp only [ByteArray.mk.injEq]; exact Array.toList_inj.1 h
theorem txt_head (c i : Nat) : (txt c i).extract 0 (decDigits c).length = dg1 c := by
  apply ext_eq
  rw [dg1_list, ByteArray.data_extract, Array.toList_extract, txt_list]
  simp
theorem txt_tail (c i : Nat) : (txt c i).extract ((decDigits c).length + 1) (txt c i).size = dg1 i := by
  apply ext_eq
  rw [dg1_list, ByteArray.data_extract, Array.toList_extract, txt_list, txt_size]
  have e : decDigits c ++ 46 :: decDigits i = (decDigits c ++ [46]) ++ decDigits i := by simp
  have h : (decDigits c).length + 1 = (decDigits c ++ [46]).length := by simp
  rw [List.extract_eq_take_drop, e, h, List.drop_left]
  apply List.take_of_length_le
  omega
theorem txt_at (c i k : Nat) (h : k < (txt c i).size) : (txt c i)[k] = (decDigits c ++ 46 :: decDigits i)[k]'(by rw [txt_size] at h; simp; omega) := by
  show (txt c i).data[k] = _
  rw [← Array.getElem_toList]
  simp only [txt_list]
theorem len5 (c : Nat) (h : c ≤ 65535) : (decDigits c).length ≤ 5 := canon_len (dec_canon c).1 h
theorem dec_ne46 (c k : Nat) (h : k < (decDigits c).length) : (decDigits c)[k].toNat ≠ 46 := by
  have := (dec_canon c).1.digs _ (List.getElem_mem h); omega
theorem txt_no (c i k : Nat) (h : k < (txt c i).size) (hk : k ≠ (decDigits c).length) : (((txt c i)[k].toNat : Int) == 46) = false := by
  rw [beq_eq_false_iff_ne]
  rw [txt_at]
  rw [txt_size] at h
  by_cases hl : k < (decDigits c).length
  · rw [List.getElem_append_left hl]
    have := dec_ne46 c k hl
    omega
  · obtain ⟨j, rfl⟩ : ∃ j, k = (decDigits c).length + 1 + j := ⟨k - (decDigits c).length - 1, by omega⟩
    rw [List.getElem_append_right (by omega)]
    have e : (46 :: decDigits i)[(decDigits c).length + 1 + j - (decDigits c).length]'(by simp; omega) = (decDigits i)[j]'(by omega) := by
      have e2 : (decDigits c).length + 1 + j - (decDigits c).length = j + 1 := by omega
      simp only [e2, List.getElem_cons_succ]
    rw [e]
    have := dec_ne46 i j (by omega)
    omega
theorem txt_dot (c i : Nat) (h : (decDigits c).length < (txt c i).size) : (((txt c i)[(decDigits c).length].toNat : Int) == 46) = true := by
  rw [txt_at, List.getElem_append_right (Nat.le_refl _)]
  simp

theorem split_txt (c i : Nat) (w : World) (hc : c ≤ 65535) (hi : i ≤ 65535) :
    Calls Tryf.prog 7 #[.string (txt c i)] w fun e w' => e = .returned (.tuple #[.string (dg1 c), .string (dg1 i), .bool true]) ∧ ∃ n, w' = w.drewN n := by
  have h1 := txt_size c i
  have h2 := len5 c hc
  have h3 := len5 i hi
  have hp : (decDigits c).length < (txt c i).size := by omega
  have h := split7 (txt c i) (decDigits c).length w (by omega) hp (txt_dot c i hp) (fun k hk hn => txt_no c i k hk hn)
  rw [txt_head, txt_tail] at h
  exact h
theorem parse_dg (c : Nat) (w : World) (hc : c ≤ 65535) :
    Calls Tryf.prog 10 #[.string (dg1 c)] w fun e w' => e = .returned (.tuple #[.int .u32 c, .bool true]) ∧ w' = w :=
  parse10 (dg1 c) c w (by rw [dg1_list]; exact (dec_canon c).1) hc

set_option maxHeartbeats 400000 in
theorem decode6 (c i : Nat) (w : World) (hc : c ≤ 65535) (hi : i ≤ 65535) :
    Calls Tryf.prog 6 #[.string (txt c i)] w fun e w' => e = .returned (.tuple #[.int .u32 (c * 65536 + i), .bool true]) ∧ ∃ n, w' = w.drewN n := by
  have ho := or16 c i (by omega) (by omega) (by omega) (by omega)
  go_enter Tryf.func6, Tryf.ntmps6
  go_wp2_with fail
  refine (split_txt c i _ hc hi).mono ?_
  rintro e w' ⟨rfl, n, rfl⟩
  go_wp2_with fail
  refine (parse_dg c _ hc).mono ?_
  rintro e w' ⟨rfl, rfl⟩
  go_wp2_with fail
  refine (parse_dg i _ hi).mono ?_
  rintro e w' ⟨rfl, rfl⟩
  go_wp2
  go_ret2
  exact ⟨rfl, _, rfl⟩
end Go.Proofs.Qxb6618496aFmt
