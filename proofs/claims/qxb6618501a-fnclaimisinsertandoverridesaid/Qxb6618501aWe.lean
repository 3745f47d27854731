/-
  THE WALK of ZZClaimIs.
-/
import Derived.Test.Qxb6618501aWd
import Derived.Maps.OwnSet
import Derived.BigRegion
namespace Go.Proofs.Qxb6618501a
open Go.RowKit Go.WideMaps Go.Maps

theorem Sl.lt {w : World} {a : Option Addr} {n b off : Nat} {ss : Nat → ByteArray} (h : Sl w a n b off ss) {k : Nat} (hk : k < n) : b < w.heap.size := by
  have h1 := h.cell k hk
  by_cases hb : b < w.heap.size
  · exact hb
  · simp [World.cell?, hb] at h1
theorem Sl.below {w w' : World} {a : Option Addr} {n b off : Nat} {ss : Nat → ByteArray} (h : Sl w a n b off ss) (hb : Below w.heap.size w w') : Sl w' a n b off ss :=
  ⟨h.at0, fun k hk => (hb.cell (p := ⟨b, off + k, none⟩) (h.lt hk)).trans (h.cell k hk), h.len⟩

theorem key_lit (l : List UInt8) : WideAt.IsKeyLit (.string l) := by simp [WideAt.IsKeyLit]

/-- A number put at a key tells nothing of a string. -/
theorem tells_num {D : DataW Unit} {k nm : ByteArray} (hD : IsMap D) (h : Tells (D.atKey (.string nm.data.toList) .nil) none) : Tells ((D.put (.string k.data.toList) (.lit (.bool false))).atKey (.string nm.data.toList) .nil) none := by
  by_cases e : nm.data.toList = k.data.toList
  · rw [e, atKey_put_same hD (key_lit _)]; exact Or.inr rfl
  · rw [atKey_put_other (by simpa using e)]; exact h
theorem tells_str {D : DataW Unit} {ks vs : Nat → ByteArray} {nm : ByteArray} {k : Nat} (hD : IsMap D) (h : Tells (D.atKey (.string nm.data.toList) .nil) (lastUp ks vs nm k)) :
    Tells ((D.put (.string (ks k).data.toList) (.lit (.string (vs k).data.toList))).atKey (.string nm.data.toList) .nil) (lastUp ks vs nm (k + 1)) := by
  by_cases e : nm.data.toList = (ks k).data.toList
  · rw [last_hit (by rw [ByteArray.toList_eq, ByteArray.toList_eq, e]; simp), e, atKey_put_same hD (key_lit _)]; rfl
  · rw [last_miss (by rw [ByteArray.toList_eq, ByteArray.toList_eq, beq_eq_false_iff_ne]; exact fun x => e x.symm), atKey_put_other (by simpa using e)]; exact h

set_option maxHeartbeats 400000 in
theorem claims14 (o1 o2 o3 : Option Addr) (n n3 c1 c2 c3 b1 b2 b3 f1 f2 f3 : Nat) (ks vs ns : Nat → ByteArray) (nm want : ByteArray) (w : World) (hn : n ≤ 1048577) (hn3 : n3 ≤ 1048577) (hz : nm.size ≤ maxLen)
    (s1 : Sl w o1 n b1 f1 ks) (s2 : Sl w o2 n b2 f2 vs) (s3 : Sl w o3 n3 b3 f3 ns) :
    Calls Try.prog 14 #[.slice o1 n c1, .slice o2 n c2, .slice o3 n3 c3, .string nm, .string want] w fun e w' => e = .returned (.bool (isWant (lastUp ks vs nm n) want)) ∧ Below w.heap.size w w' := by
  have hm := mm
  generalize hr : isWant (lastUp ks vs nm n) want = r
  have HR : Hid (isWant (lastUp ks vs nm n) want = r) := hr
  clear hr
  go_enter Try.func14, Try.ntmps14
  go_wp2
  go_loopw [12] (fun i wr => ∃ (k : Nat) (D : DataW Unit), k ≤ n3 ∧ i = .int .i64 k ∧ wr.ownsMap Try.prog 9 elemR w.heap.size k D ∧ Below w.heap.size w wr ∧ Tells (D.atKey (.string nm.data.toList) .nil) none) (fun i _ => n3 - (intOf i).toNat)
  case atStart => exact ⟨0, _, by omega, rfl, World.ownsMap_made _ _ _ _, (Below.refl _ _).alloc (Nat.le_refl _) _, Or.inl rfl⟩
  case round =>
    obtain ⟨k, D, hk, rfl, hown, hnx, ht⟩ := hrel
    have HT : Hid (Tells (D.atKey (.string nm.data.toList) .nil) none) := ht
    clear ht
    by_cases hlt : k < n3
    · have hix := s3.ix c3 k hlt
      have hc := (s3.below hnx).cell k hlt
      have hl := s3.len k hlt
      have HB : Hid (Below w.heap.size w wr) := hnx
      clear s1 s2 s3 hnx
      go_wp2_with (first | (at_mapUpdate; refine wpList_mapUpdate_own _ rfl _ _ _ 45 rfl 9 20 law Try.underlying45 _ _ k _ rfl hown (by unfold maxLen; omega) _ _ _ rfl rfl (keyOf_string_mk Try.underlying9 hl) _ [] (elemR_f _) ?_; intro w1 hown1 hgrow1) | go_in)
      go_roundw
      case rel => exact ⟨k + 1, _, by omega, by go_num, hown1, HB.out.grown hgrow1 HB.out.size (fun j hj => by cases hj; exact Nat.le_refl _), tells_num hown.isMap HT.out⟩
      case measure => simp [intOf]; omega
    · go_wp2
      go_loopw [13] (fun i wq => ∃ (j : Nat) (D : DataW Unit), j ≤ n ∧ i = .int .i64 j ∧ wq.ownsMap Try.prog 9 elemR w.heap.size (n3 + j) D ∧ Below w.heap.size w wq ∧ Tells (D.atKey (.string nm.data.toList) .nil) (lastUp ks vs nm j)) (fun i _ => n - (intOf i).toNat)
      case atStart => exact ⟨0, D, by omega, rfl, hown.mono (by omega), hnx, HT.out⟩
      case round =>
        clear hown hnx HT hk hlt
        obtain ⟨j, D, hj, rfl, hown, hnx, ht⟩ := hrel
        have HT : Hid (Tells (D.atKey (.string nm.data.toList) .nil) (lastUp ks vs nm j)) := ht
        clear ht
        by_cases hlt : j < n
        · have hx1 := s1.ix c1 j hlt
          have hx2 := s2.ix c2 j hlt
          have hc1 := (s1.below hnx).cell j hlt
          have hc2 := (s2.below hnx).cell j hlt
          have hl := s1.len j hlt
          have HB : Hid (Below w.heap.size w _) := hnx
          obtain ⟨w1, hup, hown1, hgrow1⟩ := hown.drew.update law Try.underlying45 (by unfold maxLen; omega) (keyOf_string_mk Try.underlying9 hl) (elemR_s (vs j))
          have H1 : Hid (w1.ownsMap Try.prog 9 elemR w.heap.size (n3 + j + 1) (D.put (.string (ks j).data.toList) (.lit (.string (vs j).data.toList)))) := hown1
          have hD := hown.isMap
          clear s1 s2 s3 hnx hown hown1
          go_wp2
          go_region
          all_goals
            go_wp2
            go_roundw
            case rel => exact ⟨j + 1, _, by omega, by go_num, H1.out, HB.out.drew.grown hgrow1 HB.out.size (fun i hi => by cases hi; exact Nat.le_refl _), tells_str hD HT.out⟩
            case measure => simp [intOf]; omega
        · obtain rfl : j = n := by omega
          have HB : Hid (Below w.heap.size w _) := hnx
          clear s1 s2 s3 hnx
          go_wp2_with fail
          refine (claim18 _ _ D nm want (lastUp ks vs nm j) _ hz hown HT.out).mono ?_
          rw [HR.out]
          rintro e w' ⟨rfl, rfl⟩
          go_wp2
          go_ret
          exact ⟨rfl, HB.out⟩
end Go.Proofs.Qxb6618501a
