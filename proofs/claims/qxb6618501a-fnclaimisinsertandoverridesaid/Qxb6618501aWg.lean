/-
  THE WALK of FnClaimIsInsertAndOverride.
-/
import Derived.Test.Qxb6618501aWf
namespace Go.Proofs.Qxb6618501a
open Go.RowKit

/-- THE COPY at the head: the slice is nil as it came, or a new row of the same strings. -/
def Cp (w : World) (n : Nat) (ss : Nat → ByteArray) (v : Value) (wx : World) : Prop := ∃ a c b f, v = .slice a n c ∧ Sl wx a n b f ss ∧ Below w.heap.size w wx

theorem nilneq (w : World) (a : Option Addr) (n c n' c' : Nat) : (binOp .neq 22 (.slice a n c) (.slice none n' c')).run Try.prog w = .ok (.bool (!a.isNone)) w := run_neq_slice_nil_any w 22 9 a n c n' c' Try.underlying22

set_option maxRecDepth 100000 in
set_option maxHeartbeats 4000000 in
theorem walk5 (o1 o2 o3 : Option Addr) (n1 n2 n3 c1 c2 c3 b1 b2 b3 f1 f2 f3 : Nat) (ss1 ss2 ss3 : Nat → ByteArray) (nm want k2 v2 : ByteArray) (p : Int) (w : World)
    (m1 : n1 ≤ maxLen) (m2 : n2 ≤ maxLen) (m3 : n3 ≤ maxLen) (z1 : nm.size ≤ maxLen) (z2 : want.size ≤ maxLen) (z3 : k2.size ≤ maxLen) (z4 : v2.size ≤ maxLen)
    (s1 : Sl w o1 n1 b1 f1 ss1) (s2 : Sl w o2 n2 b2 f2 ss2) (s3 : Sl w o3 n3 b3 f3 ss3) :
    Calls Try.prog 5 #[.slice o1 n1 c1, .slice o2 n2 c2, .slice o3 n3 c3, .string nm, .string want, .string k2, .string v2, .int .i64 p] w fun e w' => e = .returned (.bool true) ∧ Below w.heap.size w w' := by
  have hnn := nilneq
  go_enter Try.func5, Try.ntmps5
  go_wp2_with fail
  refine (bytes13 o1 o2 o3 n1 n2 n3 c1 c2 c3 b1 b2 b3 f1 f2 f3 ss1 ss2 ss3 nm want k2 v2 p _ m1 m2 m3 z1 z2 z3 z4 s1 s2 s3).mono ?_
  rintro e w' ⟨b, rfl, hw, hb⟩
  subst hw
  cases b with
  | false => as_aux_lemma =>
    go_wp2
    go_ret
    exact ⟨rfl, Below.refl _ _⟩
  | true =>
    obtain ⟨l1, l2, l3, l4⟩ := hb rfl
    clear hb
    have mk1 := mk n1 (by omega)
    have mk2 := mk n2 (by omega)
    have mk3 := mk n3 (by omega)
    go_upto_if 50 with fail
    go_cut [0] (fun v wx => Cp w' n1 ss1 v wx)
    case first => as_aux_lemma =>
      cases o1 with
      | none =>
        go_wp2
        go_meet
        case rel => exact ⟨none, c1, b1, f1, rfl, s1, Below.refl _ _⟩
      | some x =>
        obtain ⟨wy, hcp, hrw, hbl⟩ := copy_run w' x n1 c1 b1 f1 ss1 s1
        go_wp2
        go_meet
        case rel => exact ⟨_, n1, (w').heap.size, 0, rfl, hrw.sl s1.len, hbl⟩
    case rest => as_aux_lemma =>
      obtain ⟨a1', d1, g1, h1, hv1, t1, hb1⟩ := hcut
      subst hv1
      clear mk1
      replace s2 := s2.below hb1
      replace s3 := s3.below hb1
      clear s1
      rename World => W1
      go_upto_if 59 with fail
      go_cut [1] (fun v wx => Cp W1 n2 ss2 v wx)
      case first => as_aux_lemma =>
        cases o2 with
        | none =>
          go_wp2
          go_meet
          case rel => exact ⟨none, c2, b2, f2, rfl, s2, Below.refl _ _⟩
        | some x =>
          obtain ⟨wy, hcp, hrw, hbl⟩ := copy_run W1 x n2 c2 b2 f2 ss2 s2
          go_wp2
          go_meet
          case rel => exact ⟨_, n2, (W1).heap.size, 0, rfl, hrw.sl s2.len, hbl⟩
      case rest => as_aux_lemma =>
        obtain ⟨a2', d2, g2, h2, hv2, t2, hb2⟩ := hcut
        subst hv2
        clear mk2
        replace t1 := t1.below hb2
        replace s3 := s3.below hb2
        clear s2
        rename World => W2
        go_upto_if 68 with fail
        go_cut [2] (fun v wx => Cp W2 n3 ss3 v wx)
        case first => as_aux_lemma =>
          cases o3 with
          | none =>
            go_wp2
            go_meet
            case rel => exact ⟨none, c3, b3, f3, rfl, s3, Below.refl _ _⟩
          | some x =>
            obtain ⟨wy, hcp, hrw, hbl⟩ := copy_run W2 x n3 c3 b3 f3 ss3 s3
            go_wp2
            go_meet
            case rel => exact ⟨_, n3, (W2).heap.size, 0, rfl, hrw.sl s3.len, hbl⟩
        case rest => as_aux_lemma =>
          obtain ⟨a3', d3, g3, h3, hv3, t3, hb3⟩ := hcut
          subst hv3
          clear mk3
          replace t1 := t1.below hb3
          replace t2 := t2.below hb3
          clear s3
          rename World => W3
          have hB : Below w'.heap.size w' W3 := (hb1.trans (hb2.mono hb1.size)).trans (hb3.mono (Nat.le_trans hb1.size hb2.size))
          clear hb1 hb2 hb3
          go_wp2_with fail
          refine (fits8 0 a1' n1 d1 g1 h1 ss1 _ (by omega) (by omega) (by omega) t1).mono ?_
          rintro e W ⟨x1, y1, rfl, q10, q11, hw⟩
          subst hw
          cases y1 with
          | false => as_aux_lemma =>
            go_wp2
            go_ret
            exact ⟨rfl, hB⟩
          | true =>
            go_wp2_with fail
            refine (fits8 x1 a2' n2 d2 g2 h2 ss2 _ (by omega) (by omega) (by omega) t2).mono ?_
            rintro e W ⟨x2, y2, rfl, q20, q21, hw⟩
            subst hw
            cases y2 with
            | false => as_aux_lemma =>
              go_wp2
              go_ret
              exact ⟨rfl, hB⟩
            | true =>
              go_wp2_with fail
              refine (fits8 x2 a3' n3 d3 g3 h3 ss3 _ (by omega) (by omega) (by omega) t3).mono ?_
              rintro e W ⟨x3, y3, rfl, q30, q31, hw⟩
              subst hw
              cases y3 with
              | false => as_aux_lemma =>
                go_wp2
                go_ret
                exact ⟨rfl, hB⟩
              | true =>
                go_wp2_with fail
                refine (fit7 x3 nm _ (by omega) (by omega) z1).mono ?_
                rintro e W ⟨x4, y4, rfl, q40, q41, hw⟩
                subst hw
                cases y4 with
                | false => as_aux_lemma =>
                  go_wp2
                  go_ret
                  exact ⟨rfl, hB⟩
                | true =>
                  go_wp2_with fail
                  refine (fit7 x4 want _ (by omega) (by omega) z2).mono ?_
                  rintro e W ⟨x5, y5, rfl, q50, q51, hw⟩
                  subst hw
                  cases y5 with
                  | false => as_aux_lemma =>
                    go_wp2
                    go_ret
                    exact ⟨rfl, hB⟩
                  | true =>
                    go_wp2_with fail
                    refine (fit7 x5 k2 _ (by omega) (by omega) z3).mono ?_
                    rintro e W ⟨x6, y6, rfl, q60, q61, hw⟩
                    subst hw
                    cases y6 with
                    | false => as_aux_lemma =>
                      go_wp2
                      go_ret
                      exact ⟨rfl, hB⟩
                    | true =>
                      go_wp2_with fail
                      refine (fit7 x6 v2 _ (by omega) (by omega) z4).mono ?_
                      rintro e W ⟨x7, y7, rfl, q70, q71, hw⟩
                      subst hw
                      cases y7 with
                      | false => as_aux_lemma =>
                        go_wp2
                        go_ret
                        exact ⟨rfl, hB⟩
                      | true =>
                        clear q10 q11 q20 q21 q30 q31 q40 q41 q50 q51 q60 q61 q70 q71
                        by_cases hne : n1 = n2
                        case neg => as_aux_lemma =>
                          have hq : ((n1 : Int) == (n2 : Int)) = false := by rw [beq_eq_false_iff_ne]; omega
                          go_wp2
                          go_ret
                          exact ⟨rfl, hB⟩
                        subst hne
                        by_cases hp0 : p < 0
                        case pos => as_aux_lemma =>
                          go_wp2
                          go_ret
                          exact ⟨rfl, hB⟩
                        by_cases hp1 : (n1 : Int) < p
                        case pos => as_aux_lemma =>
                          go_wp2
                          go_ret
                          exact ⟨rfl, hB⟩
                        obtain ⟨q, hq⟩ : ∃ q : Nat, p = (q : Int) := ⟨p.toNat, by omega⟩
                        subst hq
                        have hq1 : q ≤ n1 := by omega
                        have hmk := mk (n1 + 1) (by omega)
                        have ec : ((n1 + 1 : Nat) : Int) = (n1 : Int) + 1 := by omega
                        rw [ec] at hmk
                        clear ec hp0 hp1
                        generalize hgk : ins ss1 k2 q = gk
                        generalize hgv : ins ss2 v2 q = gv
                        have hk1 : ∀ j, j < q → gk j = ss1 j := fun j hj => by rw [← hgk]; exact ins_lt hj
                        have hv1 : ∀ j, j < q → gv j = ss2 j := fun j hj => by rw [← hgv]; exact ins_lt hj
                        have hk2 : gk q = k2 := by rw [← hgk]; exact ins_at
                        have hv2 : gv q = v2 := by rw [← hgv]; exact ins_at
                        have hk3 : ∀ j, q ≤ j → gk (j + 1) = ss1 j := fun j hj => by rw [← hgk]; exact ins_gt hj
                        have hv3 : ∀ j, q ≤ j → gv (j + 1) = ss2 j := fun j hj => by rw [← hgv]; exact ins_gt hj
                        have HK1 : Hid (∀ j, j < q → gk j = ss1 j) := hk1
                        have HV1 : Hid (∀ j, j < q → gv j = ss2 j) := hv1
                        have HK2 : Hid (gk q = k2) := hk2
                        have HV2 : Hid (gv q = v2) := hv2
                        have HK3 : Hid (∀ j, q ≤ j → gk (j + 1) = ss1 j) := hk3
                        have HV3 : Hid (∀ j, q ≤ j → gv (j + 1) = ss2 j) := hv3
                        have HGK : Hid (ins ss1 k2 q = gk) := hgk
                        have HGV : Hid (ins ss2 v2 q = gv) := hgv
                        clear hgk hgv hk1 hv1 hk2 hv2 hk3 hv3
                        have HB0 : Hid (Below w'.heap.size w' W) := hB
                        clear hB
                        go_wp2
                        go_loopw [25] (fun i wr => ∃ k : Nat, k ≤ q ∧ i = .int .i64 k ∧ Fill wr W.heap.size (n1 + 1) gk k ∧ Fill wr (W.heap.size + 1) (n1 + 1) gv k ∧ Below W.heap.size W wr ∧ wr.heap.size = W.heap.size + 2) (fun i _ => q - (intOf i).toNat)
                        case atStart =>
                          refine ⟨0, by omega, rfl, (fill_made W (n1 + 1) gk).alloc _, ?_, ((Below.refl _ _).alloc (Nat.le_refl _) _).alloc (by simp) _, by simp⟩
                          have hf := fill_made (W.alloc (blankRow (n1 + 1))) (n1 + 1) gv
                          rw [World.size_alloc] at hf
                          exact hf
                        case round => as_aux_lemma =>
                          obtain ⟨k, hk, rfl, hfk, hfv, hnx, hsz⟩ := hrel
                          have HSZ : Hid (wr.heap.size = W.heap.size + 2) := hsz
                          clear hsz
                          by_cases hlt : k < q
                          · as_aux_lemma =>
                            have hx1 := t1.ix d1 k (by omega)
                            have hx2 := t2.ix d2 k (by omega)
                            have hc1 := (t1.below hnx).cell k (by omega)
                            have hc2 := (t2.below hnx).cell k (by omega)
                            have hl1 : g1 < W.heap.size := t1.lt (k := k) (by omega)
                            have hl2 : g2 < W.heap.size := t2.lt (k := k) (by omega)
                            obtain ⟨⟨uk, ck⟩, fk⟩ := hfk.at k (by omega)
                            obtain ⟨⟨uv, cv⟩, fv⟩ := hfv.at k (by omega)
                            have HF : Hid (Fill wr W.heap.size (n1 + 1) gk k ∧ Fill wr (W.heap.size + 1) (n1 + 1) gv k ∧ Below W.heap.size W wr) := ⟨hfk, hfv, hnx⟩
                            clear t1 t2 t3 hfk hfv hnx
                            go_wp2
                            go_roundw
                            case rel =>
                              obtain ⟨hfk, hfv, hnx⟩ := HF.out
                              exact ⟨k + 1, by omega, by go_num, (hfk.step _ (by omega) (HK1.out k hlt)).far _ _ _ (by omega), (hfv.far _ _ _ (by omega)).step _ (by omega) (HV1.out k hlt), (hnx.setCell (Nat.le_refl _) _).setCell (by simp) _, by simpa using HSZ.out⟩
                            case measure => simp [intOf]; omega
                          · obtain rfl : q = k := by omega
                            obtain ⟨⟨uk, ck⟩, fk⟩ := hfk.at q (by omega)
                            obtain ⟨⟨uv, cv⟩, fv⟩ := hfv.at q (by omega)
                            have HF : Hid (Fill wr W.heap.size (n1 + 1) gk q ∧ Fill wr (W.heap.size + 1) (n1 + 1) gv q ∧ Below W.heap.size W wr) := ⟨hfk, hfv, hnx⟩
                            clear hfk hfv hnx hlt hk
                            go_wp2
                            go_loopw [26] (fun i wq => ∃ k : Nat, q ≤ k ∧ k ≤ n1 ∧ i = .int .i64 k ∧ Fill wq W.heap.size (n1 + 1) gk (k + 1) ∧ Fill wq (W.heap.size + 1) (n1 + 1) gv (k + 1) ∧ Below W.heap.size W wq ∧ wq.heap.size = W.heap.size + 2) (fun i _ => n1 - (intOf i).toNat)
                            case atStart =>
                              obtain ⟨hfk, hfv, hnx⟩ := HF.out
                              exact ⟨q, Nat.le_refl _, hq1, rfl, (hfk.step _ (by omega) HK2.out).far _ _ _ (by omega), (hfv.far _ _ _ (by omega)).step _ (by omega) HV2.out, (hnx.setCell (Nat.le_refl _) _).setCell (by simp) _, by simpa using HSZ.out⟩
                            case round => as_aux_lemma =>
                              clear HF HSZ ck fk cv fv
                              rename World => wq
                              obtain ⟨k, hqk, hk, rfl, hfk, hfv, hnx, hsz⟩ := hrel
                              have HSZ : Hid (wq.heap.size = W.heap.size + 2) := hsz
                              clear hsz
                              by_cases hlt : k < n1
                              · as_aux_lemma =>
                                have hx1 := t1.ix d1 k (by omega)
                                have hx2 := t2.ix d2 k (by omega)
                                have hc1 := (t1.below hnx).cell k (by omega)
                                have hc2 := (t2.below hnx).cell k (by omega)
                                have hl1 : g1 < W.heap.size := t1.lt (k := k) (by omega)
                                have hl2 : g2 < W.heap.size := t2.lt (k := k) (by omega)
                                obtain ⟨⟨uk, ck⟩, fk⟩ := hfk.at (k + 1) (by omega)
                                obtain ⟨⟨uv, cv⟩, fv⟩ := hfv.at (k + 1) (by omega)
                                have HF : Hid (Fill wq W.heap.size (n1 + 1) gk (k + 1) ∧ Fill wq (W.heap.size + 1) (n1 + 1) gv (k + 1) ∧ Below W.heap.size W wq) := ⟨hfk, hfv, hnx⟩
                                clear t1 t2 t3 hfk hfv hnx
                                go_wp2
                                go_roundw
                                case rel =>
                                  obtain ⟨hfk, hfv, hnx⟩ := HF.out
                                  exact ⟨k + 1, by omega, by omega, by go_num, (hfk.step _ (by omega) (HK3.out k hqk)).far _ _ _ (by omega), (hfv.far _ _ _ (by omega)).step _ (by omega) (HV3.out k hqk), (hnx.setCell (Nat.le_refl _) _).setCell (by simp) _, by simpa using HSZ.out⟩
                                case measure => simp [intOf]; omega
                              · obtain rfl : n1 = k := by omega
                                generalize hak : app ss1 nm n1 = ak
                                generalize hav : app ss2 want n1 = av
                                generalize hbv : app ss2 (want ++ ⟨#[33]⟩) n1 = bv
                                have HA1 : Hid (∀ j, j < n1 → ak j = ss1 j) := fun j hj => by rw [← hak]; exact app_lt hj
                                have HA2 : Hid (ak n1 = nm) := by rw [← hak]; exact app_at
                                have HV1' : Hid (∀ j, j < n1 → av j = ss2 j) := fun j hj => by rw [← hav]; exact app_lt hj
                                have HV2' : Hid (av n1 = want) := by rw [← hav]; exact app_at
                                have HX1 : Hid (∀ j, j < n1 → bv j = ss2 j) := fun j hj => by rw [← hbv]; exact app_lt hj
                                have HX2 : Hid (bv n1 = want ++ ⟨#[33]⟩) := by rw [← hbv]; exact app_at
                                have HAK : Hid (app ss1 nm n1 = ak) := hak
                                have HAV : Hid (app ss2 want n1 = av) := hav
                                have HBV : Hid (app ss2 (want ++ ⟨#[33]⟩) n1 = bv) := hbv
                                clear hak hav hbv
                                have ik := (hfk.done (Nat.le_refl _)).sl (by rw [← HGK.out]; exact ins_len t1.len z3 hq1)
                                have iv := (hfv.done (Nat.le_refl _)).sl (by rw [← HGV.out]; exact ins_len t2.len z4 hq1)
                                replace t1 := t1.below hnx
                                replace t2 := t2.below hnx
                                replace t3 := t3.below hnx
                                have HB1 : Hid (Below w'.heap.size w' wq) := HB0.out.trans (hnx.mono HB0.out.size)
                                clear hfk hfv hnx hk hqk hlt HB0
                                go_wp2
                                go_loopw [30] (fun i wz => ∃ k : Nat, k ≤ n1 ∧ i = .int .i64 k ∧ Fill wz wq.heap.size (n1 + 1) ak k ∧ Fill wz (wq.heap.size + 1) (n1 + 1) av k ∧ Fill wz (wq.heap.size + 2) (n1 + 1) bv k ∧ Below wq.heap.size wq wz) (fun i _ => n1 - (intOf i).toNat)
                                case atStart =>
                                  refine ⟨0, by omega, rfl, ((fill_made wq (n1 + 1) ak).alloc _).alloc _, ?_, ?_, (((Below.refl _ _).alloc (Nat.le_refl _) _).alloc (by simp) _).alloc (by simp; omega) _⟩
                                  · have hf := (fill_made (wq.alloc (blankRow (n1 + 1))) (n1 + 1) av).alloc (blankRow (n1 + 1))
                                    rw [World.size_alloc] at hf
                                    exact hf
                                  · have hf := fill_made ((wq.alloc (blankRow (n1 + 1))).alloc (blankRow (n1 + 1))) (n1 + 1) bv
                                    rw [World.size_alloc, World.size_alloc] at hf
                                    exact hf
                                case round => as_aux_lemma =>
                                  rename World => wz
                                  obtain ⟨k, hk, rfl, hfk, hfv, hfb, hnx⟩ := hrel
                                  by_cases hlt : k < n1
                                  · as_aux_lemma =>
                                    have hx1 := t1.ix d1 k (by omega)
                                    have hx2 := t2.ix d2 k (by omega)
                                    have hc1 := (t1.below hnx).cell k (by omega)
                                    have hc2 := (t2.below hnx).cell k (by omega)
                                    have hl1 : g1 < wq.heap.size := t1.lt (k := k) (by omega)
                                    have hl2 : g2 < wq.heap.size := t2.lt (k := k) (by omega)
                                    obtain ⟨⟨uk, ck⟩, fk⟩ := hfk.at k (by omega)
                                    obtain ⟨⟨uv, cv⟩, fv⟩ := hfv.at k (by omega)
                                    obtain ⟨⟨ub, cb⟩, fb⟩ := hfb.at k (by omega)
                                    have HF : Hid (Fill wz wq.heap.size (n1 + 1) ak k ∧ Fill wz (wq.heap.size + 1) (n1 + 1) av k ∧ Fill wz (wq.heap.size + 2) (n1 + 1) bv k ∧ Below wq.heap.size wq wz) := ⟨hfk, hfv, hfb, hnx⟩
                                    clear t1 t2 t3 ik iv hfk hfv hfb hnx
                                    go_wp2
                                    go_roundw
                                    case rel =>
                                      obtain ⟨hfk, hfv, hfb, hnx⟩ := HF.out
                                      exact ⟨k + 1, by omega, by go_num, ((hfk.step _ (by omega) (HA1.out k hlt)).far _ _ _ (by omega)).far _ _ _ (by omega), ((hfv.far _ _ _ (by omega)).step _ (by omega) (HV1'.out k hlt)).far _ _ _ (by omega), ((hfb.far _ _ _ (by omega)).far _ _ _ (by omega)).step _ (by omega) (HX1.out k hlt), ((hnx.setCell (Nat.le_refl _) _).setCell (by simp) _).setCell (by simp; omega) _⟩
                                    case measure => simp [intOf]; omega
                                  · obtain rfl : n1 = k := by omega
                                    obtain ⟨⟨uk, ck⟩, fk⟩ := hfk.at n1 (by omega)
                                    obtain ⟨⟨uv, cv⟩, fv⟩ := hfv.at n1 (by omega)
                                    obtain ⟨⟨ub, cb⟩, fb⟩ := hfb.at n1 (by omega)
                                    have HF : Hid (Fill wz wq.heap.size (n1 + 1) ak n1 ∧ Fill wz (wq.heap.size + 1) (n1 + 1) av n1 ∧ Fill wz (wq.heap.size + 2) (n1 + 1) bv n1 ∧ Below wq.heap.size wq wz) := ⟨hfk, hfv, hfb, hnx⟩
                                    clear hfk hfv hfb hnx hlt hk
                                    go_wp2_with fail
                                    obtain ⟨Y, hY, hM, hbY⟩ : ∃ Y, Y = ((wz.setCell ⟨wq.heap.size, n1, none⟩ (.string nm)).setCell ⟨wq.heap.size + 1, n1, none⟩ (.string want)).setCell ⟨wq.heap.size + 1 + 1, n1, none⟩ (.string (want ++ ⟨#[33]⟩)) ∧ Mem Y a1' a2' a3' n1 n3 g1 g2 g3 h1 h2 h3 W.heap.size wq.heap.size ss1 ss2 ss3 gk gv ak av bv ∧ Below w'.heap.size w' Y := by
                                      obtain ⟨hfk, hfv, hfb, hnx⟩ := HF.out
                                      have hbl := (((hnx.setCell (p := ⟨wq.heap.size, n1, none⟩) (Nat.le_refl _) (.string nm)).setCell (p := ⟨wq.heap.size + 1, n1, none⟩) (by simp) (.string want)).setCell (p := ⟨wq.heap.size + 1 + 1, n1, none⟩) (by simp; omega) (.string (want ++ ⟨#[33]⟩)))
                                      refine ⟨_, rfl, ⟨t1.below hbl, t2.below hbl, t3.below hbl, ik.below hbl, iv.below hbl, ?_, ?_, ?_⟩, HB1.out.trans (hbl.mono HB1.out.size)⟩
                                      · exact (((hfk.step _ (by omega) HA2.out).far _ _ _ (by omega)).far _ _ _ (by omega)).done (Nat.le_refl _) |>.sl (by rw [← HAK.out]; exact app_len t1.len z1)
                                      · exact (((hfv.far _ _ _ (by omega)).step _ (by omega) HV2'.out).far _ _ _ (by omega)).done (Nat.le_refl _) |>.sl (by rw [← HAV.out]; exact app_len t2.len z2)
                                      · exact (((hfb.far _ _ _ (by omega)).far _ _ _ (by omega)).step _ (by omega) HX2.out).done (Nat.le_refl _) |>.sl (by rw [← HBV.out]; exact app_len t2.len (by rw [bang_size]; unfold maxLen; omega))
                                    rw [← hY]
                                    have E3 : Hid (isWant (lastUp ak av nm (n1 + 1)) want = true) := by show _ = _; rw [← HAK.out, ← HAV.out, last_app]; exact want_yes want
                                    have E4 : Hid (isWant (lastUp ak bv nm (n1 + 1)) want = false) := by show _ = _; rw [← HAK.out, ← HBV.out, last_app]; exact want_no want
                                    obtain ⟨L1, HL1⟩ : ∃ L, Hid (lastUp ss1 ss2 nm n1 = L) := ⟨_, rfl⟩
                                    obtain ⟨L2, HL2⟩ : ∃ L, Hid (lastUp gk gv nm (n1 + 1) = L) := ⟨_, rfl⟩
                                    have HLK : Hid ((k2.toList == nm.toList) = false → L2 = L1) := by
                                      intro hkk
                                      rw [← HL1.out, ← HL2.out, ← HGK.out, ← HGV.out]
                                      have hli := last_ins (ks := ss1) (vs := ss2) (v2 := v2) (p := q) hkk (n1 - q)
                                      rw [show q + (n1 - q) = n1 by omega] at hli
                                      exact hli
                                    clear hY HF ik iv t1 t2 t3 ck fk cv fv cb fb HA1 HA2 HV1' HV2' HX1 HX2 HAK HAV HBV HGK HGV HK1 HK2 HK3 HV1 HV2 HV3 HSZ HB1 hmk hnn
                                    refine (claims14 a1' a2' a3' n1 n3 d1 d2 d3 g1 g2 g3 h1 h2 h3 ss1 ss2 ss3 nm want _ (by omega) (by omega) z1 hM.t1 hM.t2 hM.t3).mono ?_
                                    rw [HL1.out]
                                    rintro e Y1 ⟨rfl, hy⟩
                                    replace hM := hM.below hy
                                    replace hbY := hbY.trans (hy.mono hbY.size)
                                    clear hy
                                    go_wp2_with fail
                                    refine (claims14 (some ⟨W.heap.size, 0, none⟩) (some ⟨W.heap.size + 1, 0, none⟩) a3' (n1 + 1) n3 (n1 + 1) (n1 + 1) d3 W.heap.size (W.heap.size + 1) g3 0 0 h3 gk gv ss3 nm want _ (by omega) (by omega) z1 hM.ik hM.iv hM.t3).mono ?_
                                    rw [HL2.out]
                                    rintro e Y2 ⟨rfl, hy⟩
                                    replace hM := hM.below hy
                                    replace hbY := hbY.trans (hy.mono hbY.size)
                                    clear hy
                                    go_wp2_with fail
                                    refine (claims14 (some ⟨wq.heap.size, 0, none⟩) (some ⟨wq.heap.size + 1, 0, none⟩) a3' (n1 + 1) n3 (n1 + 1) (n1 + 1) d3 wq.heap.size (wq.heap.size + 1) g3 0 0 h3 ak av ss3 nm want _ (by omega) (by omega) z1 hM.pk hM.pv hM.t3).mono ?_
                                    rw [E3.out]
                                    rintro e Y3 ⟨rfl, hy⟩
                                    replace hM := hM.below hy
                                    replace hbY := hbY.trans (hy.mono hbY.size)
                                    clear hy
                                    go_wp2_with fail
                                    refine (claims14 (some ⟨wq.heap.size, 0, none⟩) (some ⟨wq.heap.size + 1 + 1, 0, none⟩) a3' (n1 + 1) n3 (n1 + 1) (n1 + 1) d3 wq.heap.size (wq.heap.size + 1 + 1) g3 0 0 h3 ak bv ss3 nm want _ (by omega) (by omega) z1 hM.pk hM.pb hM.t3).mono ?_
                                    rw [E4.out]
                                    rintro e Y4 ⟨rfl, hy⟩
                                    replace hM := hM.below hy
                                    replace hbY := hbY.trans (hy.mono hbY.size)
                                    clear hy
                                    go_wp2_with fail
                                    refine (last15 a1' a2' n1 d1 d2 g1 g2 h1 h2 ss1 ss2 nm _ (by omega) hM.t1 hM.t2).mono ?_
                                    rw [HL1.out]
                                    rintro e Z ⟨rfl, hy⟩
                                    subst hy
                                    go_wp2_with fail
                                    refine (last15 (some ⟨W.heap.size, 0, none⟩) (some ⟨W.heap.size + 1, 0, none⟩) (n1 + 1) (n1 + 1) (n1 + 1) W.heap.size (W.heap.size + 1) 0 0 gk gv nm _ (by omega) hM.ik hM.iv).mono ?_
                                    rw [HL2.out]
                                    rintro e Z ⟨rfl, hy⟩
                                    subst hy
                                    clear hM E3 E4 HL1 HL2

                                    by_cases hkk : (k2.toList == nm.toList) = true
                                    case pos => as_aux_lemma =>
                                      clear HLK
                                      cases L1 with
                                      | none =>
                                        have i1 : isWant none want = false := rfl
                                        cases L2 with
                                        | none =>
                                          have i2 : isWant none want = false := rfl
                                          go_wp2
                                          go_ret
                                          exact ⟨rfl, hbY⟩
                                        | some y =>
                                          have i2 : isWant (some y) want = (y.toList == want.toList) := by simp [isWant]
                                          by_cases j2 : (y.toList == want.toList) = true
                                          case pos => as_aux_lemma =>
                                            go_wp2
                                            go_ret
                                            exact ⟨rfl, hbY⟩
                                          case neg => as_aux_lemma =>
                                            have j2' : (y.toList == want.toList) = false := by simpa using j2
                                            clear j2
                                            go_wp2
                                            go_ret
                                            exact ⟨rfl, hbY⟩
                                      | some x =>
                                        have i1 : isWant (some x) want = (x.toList == want.toList) := by simp [isWant]
                                        by_cases j1 : (x.toList == want.toList) = true
                                        case pos => as_aux_lemma =>
                                          cases L2 with
                                          | none =>
                                            have i2 : isWant none want = false := rfl
                                            go_wp2
                                            go_ret
                                            exact ⟨rfl, hbY⟩
                                          | some y =>
                                            have i2 : isWant (some y) want = (y.toList == want.toList) := by simp [isWant]
                                            by_cases j2 : (y.toList == want.toList) = true
                                            case pos => as_aux_lemma =>
                                              go_wp2
                                              go_ret
                                              exact ⟨rfl, hbY⟩
                                            case neg => as_aux_lemma =>
                                              have j2' : (y.toList == want.toList) = false := by simpa using j2
                                              clear j2
                                              go_wp2
                                              go_ret
                                              exact ⟨rfl, hbY⟩
                                        case neg => as_aux_lemma =>
                                          have j1' : (x.toList == want.toList) = false := by simpa using j1
                                          clear j1
                                          cases L2 with
                                          | none =>
                                            have i2 : isWant none want = false := rfl
                                            go_wp2
                                            go_ret
                                            exact ⟨rfl, hbY⟩
                                          | some y =>
                                            have i2 : isWant (some y) want = (y.toList == want.toList) := by simp [isWant]
                                            by_cases j2 : (y.toList == want.toList) = true
                                            case pos => as_aux_lemma =>
                                              go_wp2
                                              go_ret
                                              exact ⟨rfl, hbY⟩
                                            case neg => as_aux_lemma =>
                                              have j2' : (y.toList == want.toList) = false := by simpa using j2
                                              clear j2
                                              go_wp2
                                              go_ret
                                              exact ⟨rfl, hbY⟩
                                    case neg => as_aux_lemma =>
                                      have hkk' : (k2.toList == nm.toList) = false := by simpa using hkk
                                      obtain rfl : L2 = L1 := HLK.out hkk'
                                      clear HLK hkk
                                      cases L2 with
                                      | none =>
                                        have i1 : isWant none want = false := rfl
                                        go_wp2
                                        go_ret
                                        exact ⟨rfl, hbY⟩
                                      | some x =>
                                        have i1 : isWant (some x) want = (x.toList == want.toList) := by simp [isWant]
                                        by_cases j1 : (x.toList == want.toList) = true
                                        case pos => as_aux_lemma =>
                                          go_wp2
                                          go_ret
                                          exact ⟨rfl, hbY⟩
                                        case neg => as_aux_lemma =>
                                          have j1' : (x.toList == want.toList) = false := by simpa using j1
                                          clear j1
                                          go_wp2
                                          go_ret
                                          exact ⟨rfl, hbY⟩
end Go.Proofs.Qxb6618501a
