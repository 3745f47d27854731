/-
  THE ROW OF 'FnClaimIsInsertAndOverride', PROVED.
-/
import Derived.Test.Qxb6618501aWg
import Derived.ProofKit
import Derived.OpenShut
import Derived.ShutString
namespace Go.Proofs.Qxb6618501a
open Go.ChangeShapes Go.WideShapes Go.ChangeAt Go.RowKit
open Go.ChangeMaps (open_string shut_string)

theorem own : ownKnob Try.prog.godebug = none := by kernel_rfl
theorem laidOut : laidOutB Try.prog = true := by kernel_rfl

/-- A slice of strings that came in. -/
theorem sl_open {H : Type} {enc : TypeId × Value → H} {W : World} {v : Value} {d : DataW H} {p : List MemPlace} (hs : ∃ a n c, v = .slice a n c) (h : DataW.Trod enc Try.prog W 0 (fun _ => true) true 22 v d p) :
    ∃ o n c b f ss, v = .slice o n c ∧ n ≤ maxLen ∧ Sl W o n b f ss := by
  obtain ⟨a0, len, cap, rfl⟩ := hs
  obtain ⟨fuel, hf⟩ := h
  rcases open_strings Try.underlying22 Try.underlying9 cells9 hf with ⟨hcs, hx⟩ | ⟨a, len', cap', ss, hcs, _, hl, hm, hz, hx, hcell, hws⟩
  · simp [Value.cells] at hcs
    obtain ⟨rfl, rfl, rfl⟩ := hcs
    exact ⟨none, 0, 0, 0, 0, fun _ => ByteArray.empty, rfl, Nat.zero_le _, ⟨fun h => by omega, fun k hk => by omega, fun k hk => by omega⟩⟩
  · simp [Value.cells] at hcs
    obtain ⟨rfl, rfl, rfl⟩ := hcs
    simp only [if_true] at hz
    obtain ⟨b, off, spot⟩ := a
    refine ⟨_, len, cap, b, off, fun k => ss.getD k ByteArray.empty, rfl, Nat.le_trans hl hm, ⟨fun h0 => ?_, fun k hk => ?_, fun k hk => ?_⟩⟩
    · have hspot : spot = none := by simpa [Addr.add] using World.cell?_spot (hcell 0 (by omega))
      rw [hspot]
    · have hspot : spot = none := by simpa [Addr.add] using World.cell?_spot (hcell 0 (by omega))
      subst hspot
      have h2 := hcell k (by omega)
      have ea : (⟨b, off, none⟩ : Addr).add k = ⟨b, off + k, none⟩ := by simp [Addr.add]
      rw [ea] at h2
      exact h2
    · have hk2 : k < ss.length := by omega
      have : ss.getD k ByteArray.empty ∈ ss := by
        rw [List.getD_eq_getElem?_getD, List.getElem?_eq_getElem hk2, Option.getD_some]
        exact List.getElem_mem hk2
      exact hws _ this

set_option maxRecDepth 100000 in
theorem lifted5 (os : Os) (started : os.Started) (H : Type) (enc : TypeId × Value → H) :
    ReturnsInHanded {} Try.checked os 5 .any (Rows.fnClaimIsInsertAndOverrideSpec.pre6 enc Try.prog Try.f5 Rows.fnClaimIsInsertAndOverrideRow.domain false) (Rows.fnClaimIsInsertAndOverrideSpec.post enc Try.prog Try.f5 false true false false) := by
  refine returnsInHanded_of_change (C := Try.checked) own started (by kernel_rfl) Try.func5
    (ChangeSpec.witness6 (enc := enc) (C := Try.checked) false ⟨#[], #[.slice none 0 0, .slice none 0 0, .slice none 0 0, .string ByteArray.empty, .string ByteArray.empty, .string ByteArray.empty, .string ByteArray.empty, .int .i64 0], []⟩ 8 (by kernel_rfl) (by kernel_rfl) (by kernel_rfl) (by kernel_rfl)) ?_
  intro W base args ds gs before hval0 hW hcnd _
  have hval : ∀ (j : Nat) t v, Try.f5.params[j]? = some t → args[j]? = some v → Value.okWide Try.prog W .any base t v := hval0
  have hW' := hW
  obtain ⟨p, q, hA0, hV, rfl, hfz, hnd⟩ := hW
  have hA : DataW.TrodAll enc Try.prog W 0 (fun _ => true) true Try.f5.params.toList args.toList ds p := hA0
  rw [Try.params5] at hA hval
  obtain ⟨e0, vs0, d0, ds0, p0, q0, hargs, rfl, rfl, h0, r0⟩ := trodAll_cons hA
  obtain ⟨e1, vs1, d1, ds1, p1, q1, rfl, rfl, rfl, h1, r1⟩ := trodAll_cons r0
  obtain ⟨e2, vs2, d2, ds2, p2, q2, rfl, rfl, rfl, h2, r2⟩ := trodAll_cons r1
  obtain ⟨e3, vs3, d3, ds3, p3, q3, rfl, rfl, rfl, h3, r3⟩ := trodAll_cons r2
  obtain ⟨e4, vs4, d4, ds4, p4, q4, rfl, rfl, rfl, h4, r4⟩ := trodAll_cons r3
  obtain ⟨e5, vs5, d5, ds5, p5, q5, rfl, rfl, rfl, h5, r5⟩ := trodAll_cons r4
  obtain ⟨e6, vs6, d6, ds6, p6, q6, rfl, rfl, rfl, h6, r6⟩ := trodAll_cons r5
  obtain ⟨e7, vs7, d7, ds7, p7, q7, rfl, rfl, rfl, h7, r7⟩ := trodAll_cons r6
  obtain ⟨rfl, rfl, rfl⟩ := trodAll_nil r7
  obtain rfl : args = #[e0, e1, e2, e3, e4, e5, e6, e7] := by cases args; simp_all
  obtain ⟨rfl, rfl⟩ := trodVars_none hV
  have hlt : ∀ x ∈ p0 ++ (p1 ++ (p2 ++ (p3 ++ (p4 ++ (p5 ++ (p6 ++ (p7 ++ []))))))), x.block < W.heap.size := fun x hx => by simpa using hW'.lt x (by simpa using hx)
  obtain ⟨o1, n1, c1, b1, f1, ss1, hv0, m1, s1⟩ := sl_open (okWide_slice Try.underlying22 (hval 0 22 e0 rfl rfl)) h0
  obtain ⟨o2, n2, c2, b2, f2, ss2, hv1, m2, s2⟩ := sl_open (okWide_slice Try.underlying22 (hval 1 22 e1 rfl rfl)) h1
  obtain ⟨o3, n3, c3, b3, f3, ss3, hv2, m3, s3⟩ := sl_open (okWide_slice Try.underlying22 (hval 2 22 e2 rfl rfl)) h2
  obtain ⟨nm, hv3, _, _, z1⟩ := open_string Try.underlying9 (hval 3 9 e3 rfl rfl) h3
  obtain ⟨want, hv4, _, _, z2⟩ := open_string Try.underlying9 (hval 4 9 e4 rfl rfl) h4
  obtain ⟨k2, hv5, _, _, z3⟩ := open_string Try.underlying9 (hval 5 9 e5 rfl rfl) h5
  obtain ⟨v2, hv6, _, _, z4⟩ := open_string Try.underlying9 (hval 6 9 e6 rfl rfl) h6
  obtain ⟨pi, hv7, _, _, _⟩ := open_int Try.underlying3 (hval 7 3 e7 rfl rfl) h7
  subst hv0 hv1 hv2 hv3 hv4 hv5 hv6 hv7
  clear hA0 hval0
  refine (walk5 o1 o2 o3 n1 n2 n3 c1 c2 c3 b1 b2 b3 f1 f2 f3 ss1 ss2 ss3 nm want k2 v2 pi W m1 m2 m3 z1 z2 z3 z4 s1 s2 s3).mono fun e W' ⟨he, hnx⟩ => ?_
  subst he
  refine ⟨_, rfl, _, _, _, [], p0 ++ (p1 ++ (p2 ++ (p3 ++ (p4 ++ (p5 ++ (p6 ++ (p7 ++ []))))))), [], hW', ?_, ?_, rfl, hnx.frame _, fun h => by cases h⟩
  · exact trodAll_mk1 (shut_bool Try.underlying4 _)
  · refine trodAll_cons_mk (Below.trod laidOut (by kernel_rfl) (of_decide_eq_true (by kernel_rfl)) h0 hnx fun x hx => hlt x (by simp [hx])) ?_
    refine trodAll_cons_mk (Below.trod laidOut (by kernel_rfl) (of_decide_eq_true (by kernel_rfl)) h1 hnx fun x hx => hlt x (by simp [hx])) ?_
    refine trodAll_cons_mk (Below.trod laidOut (by kernel_rfl) (of_decide_eq_true (by kernel_rfl)) h2 hnx fun x hx => hlt x (by simp [hx])) ?_
    refine trodAll_cons_mk (Below.trod laidOut (by kernel_rfl) (of_decide_eq_true (by kernel_rfl)) h3 hnx fun x hx => hlt x (by simp [hx])) ?_
    refine trodAll_cons_mk (Below.trod laidOut (by kernel_rfl) (of_decide_eq_true (by kernel_rfl)) h4 hnx fun x hx => hlt x (by simp [hx])) ?_
    refine trodAll_cons_mk (Below.trod laidOut (by kernel_rfl) (of_decide_eq_true (by kernel_rfl)) h5 hnx fun x hx => hlt x (by simp [hx])) ?_
    refine trodAll_cons_mk (Below.trod laidOut (by kernel_rfl) (of_decide_eq_true (by kernel_rfl)) h6 hnx fun x hx => hlt x (by simp [hx])) ?_
    refine trodAll_cons_mk (Below.trod laidOut (by kernel_rfl) (of_decide_eq_true (by kernel_rfl)) h7 hnx fun x hx => hlt x (by simp [hx])) ?_
    exact trodAll_mk0

theorem claim_holds : Rows.FnClaimIsInsertAndOverrideSaid :=
  OpenClaim.holds_of_wide 5 Try.f5 rfl rfl rfl rfl rfl rfl rfl ⟨rfl, rfl, rfl, rfl, rfl⟩ rfl rfl rfl rfl rfl (by kernel_rfl) Try.func5 (by kernel_rfl)
    (of_decide_eq_true (by kernel_rfl)) (by unfold Func.isWrapper; first | (rw [if_pos (by decide +kernel)]; kernel_rfl) | (rw [if_neg (by decide +kernel)]; exact ⟨rfl, rfl⟩))
    (fun os started H enc _ => lifted5 os started H enc)
end Go.Proofs.Qxb6618501a
