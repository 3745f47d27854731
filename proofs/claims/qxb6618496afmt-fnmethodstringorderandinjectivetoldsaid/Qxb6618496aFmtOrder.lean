/-
  THE CARD OF 'FnMethodStringOrderAndInjective', PROVED.
-/
import Derived.Test.Qxb6618496aFmtWh
import Derived.Test.Qxb6618496aFmtCards
import Derived.ProofKit
import Derived.SizedLaws
import Derived.SevenToldRow
namespace Go.Proofs.Qxb6618496aFmt
open Go.ChangeShapes Go.WideShapes Go.ChangeAt Go.RowKit Go.Kit
open Go.Extern.Stop Go.Stop Go.Extern

theorem own : ownKnob Tryf.prog.godebug = none := by kernel_rfl

theorem halves (m : Int) (h : (Lit.int .u32 m).wf = true) : ∃ c i : Nat, c ≤ 65535 ∧ i ≤ 65535 ∧ m = (c : Int) * 65536 + i := by
  have h0 : IntKind.u32.min = 0 := by decide
  have h1 : IntKind.u32.max = 4294967295 := by decide
  simp only [Lit.wf, h0, h1, Bool.and_eq_true, decide_eq_true_eq] at h
  exact ⟨(m / 65536).toNat, (m % 65536).toNat, by omega, by omega, by omega⟩

set_option maxRecDepth 100000 in
theorem lifted4 (os : Os) (started : os.Started) (H : Type) (enc : TypeId × Value → H) :
    ReturnsInTold .none {} Tryf.checked os 4 .any Input.okWide ((OpenSpec.ofChange Rows.fnMethodStringOrderAndInjectiveSpec).preRow enc Tryf.prog Tryf.f4 [] false []) (fun F => ((OpenSpec.ofChange Rows.fnMethodStringOrderAndInjectiveSpec).at F).post enc Tryf.prog Tryf.f4 false true false false) (aloneAtReturn Tryf.prog) nothingAlways := by
  refine returnsInTold_of_row (C := Tryf.checked) (s := OpenSpec.ofChange Rows.fnMethodStringOrderAndInjectiveSpec) (by kernel_rfl) own started (by kernel_rfl) Tryf.func4
    (OpenSpec.witness_stopped (enc := enc) (C := Tryf.checked) false ⟨#[], #[.int .u32 1, .int .u32 1], []⟩ 8 (by kernel_rfl) (by kernel_rfl) (by kernel_rfl) (by kernel_rfl)) ?_
  intro F W base args ds gs before _ hF hval0 hW _ _ hsz _ _
  have hval : ∀ (j : Nat) t v, Tryf.f4.params[j]? = some t → args[j]? = some v → Value.okWide Tryf.prog W .any base t v := hval0
  have hW' := hW
  obtain ⟨p, q, hA0, hV, rfl, hfz, hnd⟩ := hW
  have hA : DataW.TrodAll enc Tryf.prog W 0 (fun _ => true) true Tryf.f4.params.toList args.toList ds p := hA0
  rw [Tryf.params4] at hA hval
  obtain ⟨v0, v1, d0, d1, p0, p1, rfl, rfl, rfl, h0, h1⟩ := trodAll_two hA
  obtain ⟨rfl, rfl⟩ := trodVars_none hV
  obtain ⟨m1, rfl, rfl, rfl, w1⟩ := open_int Tryf.underlying22 (hval 0 22 v0 rfl rfl) h0
  obtain ⟨m2, rfl, rfl, rfl, w2⟩ := open_int Tryf.underlying22 (hval 1 22 v1 rfl rfl) h1
  clear hA0 hval0
  obtain ⟨c1, i1, hc1, hi1, e1⟩ := halves m1 w1
  obtain ⟨c2, i2, hc2, hi2, e2⟩ := halves m2 w2
  subst e1; subst e2
  refine (walk4 F c1 i1 c2 i2 W hc1 hi1 hc2 hi2 hF).mono fun e W' ⟨he, hb⟩ => ?_
  subst he
  refine ⟨_, rfl, _, _, _, [], [], [], hW', ?_, ?_, rfl, hb.frame _, fun h => by cases h⟩
  · exact trodAll_mk1 (shut_bool Tryf.underlying4 _)
  · exact trodAll_mk2 (shut_int Tryf.underlying22 w1) (shut_int Tryf.underlying22 w2)

theorem laidOut : laidOutB Tryf.pinned.checked.prog = true := by kernel_rfl
theorem stops : Tryf.pinned.checked.prog.stops = Rows.fnMethodStringOrderAndInjectiveRow.stops := by kernel_rfl
theorem stopKnobs : Tryf.pinned.checked.prog.stopKnobs = [] := by kernel_rfl
theorem quiet (os : Os) : Stop.quiet Tryf.pinned.checked.prog os := by
  intro k hk
  rw [stopKnobs] at hk
  cases hk

theorem order_holds : Rows.FnMethodStringOrderAndInjectiveToldSaid :=
  Claim7.holds_of_told_any 4 Tryf.f4 _ [] [] _ _ _ (by kernel_rfl) rfl rfl rfl laidOut (by kernel_rfl) rfl ⟨rfl, rfl, rfl, rfl, rfl, rfl, rfl⟩ rfl rfl (by kernel_rfl) (by kernel_rfl) Tryf.func4 (by kernel_rfl)
    (of_decide_eq_true (by kernel_rfl)) (of_decide_eq_true (by kernel_rfl)) stops.symm rfl stopKnobs.symm (by kernel_rfl)
    (by kernel_rfl) (by kernel_rfl) (by kernel_rfl) (by kernel_rfl) (by kernel_rfl) (by kernel_rfl) (by kernel_rfl) (by kernel_rfl) (by kernel_rfl) rfl (by kernel_rfl) rfl rfl
    rfl rfl
    rfl (by kernel_rfl) (by kernel_rfl) (by kernel_rfl) (by decide) (by kernel_rfl)
    (OpenClaim.moreEntering_of (by kernel_rfl) (by kernel_rfl) (by kernel_rfl) (by kernel_rfl) (by kernel_rfl) (by kernel_rfl) (by kernel_rfl) (by kernel_rfl) (by kernel_rfl) (by kernel_rfl))
    ⟨_, WideRow.started_initial, quiet _⟩
    (fun os started _ H enc _ => lifted4 os started H enc)

end Go.Proofs.Qxb6618496aFmt
