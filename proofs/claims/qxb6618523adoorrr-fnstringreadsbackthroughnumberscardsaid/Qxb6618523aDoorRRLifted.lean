/-
  THE ROW OF 'FnStringReadsBackThroughNumbers', PROVED: from 'laid' to what the walk wants; the witness; the row.
-/
import Derived.Test.Qxb6618523aDoorRRWl
import Derived.Test.Qxb6618523aDoorRRRows
import Derived.ProofKit
import Derived.LaidMore
import Derived.OpenShut
import Derived.ShutString
import Derived.OpenVars
import Derived.Stop.LaidErr
import Derived.Stop.LaidTwo
import Derived.Stop.Joined
namespace Go.Proofs.Qxb6618523aDoorRR
open Go.ChangeShapes Go.WideShapes Go.ChangeAt Go.RowKit
open Go.ChangeMaps (open_string shut_string)

theorem own : ownKnob Tryd.prog.godebug = none := by kernel_rfl
theorem laidOut : laidOutB Tryd.prog = true := by kernel_rfl
theorem gEof : Tryd.prog.globalNamed "io.EOF" = some 3 := by kernel_rfl
theorem gUne : Tryd.prog.globalNamed "io.ErrUnexpectedEOF" = some 4 := by kernel_rfl
theorem gEofT : (Tryd.prog.globals[3]?).map (·.type) = some 35 := by kernel_rfl
theorem gUneT : (Tryd.prog.globals[4]?).map (·.type) = some 35 := by kernel_rfl
theorem gTopT : (Tryd.prog.globals[1]?).map (·.type) = some 57 := by kernel_rfl
theorem cells89 : Tryd.prog.cellsOf 89 = 1 := by kernel_rfl
theorem cells9 : Tryd.prog.cellsOf 9 = 1 := by kernel_rfl
theorem cells33 : Tryd.prog.cellsOf 33 = 1 := by kernel_rfl
theorem star : "*" ++ "errors.errorString" = "*errors.errorString" := by decide
theorem row69 (u : TypeId) (h : Tryd.prog.typeName? 3 u = some "*errors.errorString") : u = 69 :=
  typeName_ptr_named (nm := "errors.errorString") (by rw [star]; kernel_rfl) (by kernel_rfl) (by decide) u (by rw [star]; exact h)

/-- The list. -/
abbrev laid5 : List (String × DataW Unit) := Rows.fnStringReadsBackThroughNumbersRow.laid

/-- The door's own heap meets the condition. -/
theorem door_met (os : Os) (args : Array Value) : laidMetH Tryd.prog laid5 ((World.doorLaid Tryd.prog 90 os).forCall (fun _ _ => 0) ⟨#[], args, []⟩).memory :=
  laidMetH_of_parts3 (fuel := 8) (laidMet_of_run' 8 (by kernel_rfl) (by kernel_rfl)) (by kernel_rfl) (by kernel_rfl)

theorem block_lt {W : World} {b : Nat} {o : Obj} (h : W.heap[b]? = some o) : b < W.heap.size := (Array.getElem?_eq_some_iff.1 h).1

/-- The table's second cell. -/
theorem of_top {W : World} {n : String} (hg : Tryd.prog.globalNamed n = some 1) (h : laidMet Tryd.prog [(n, Rows.laid_coppice_example_coppice_internal_tree_topBits)] W) : W.cell? ⟨1, 1, none⟩ = some (.int .u64 128) := by
  obtain ⟨ps, ⟨g1, t1, cs1, f1, p1, q1, hg1, ht1, hv1, hd1, _, _⟩, _, _⟩ := h
  obtain rfl := Option.some.inj (hg.symm.trans hg1)
  obtain rfl := Option.some.inj (gTopT.symm.trans ht1)
  obtain ⟨xs, m1, rfl, hx1, hlen, hn3, hel⟩ := DataW.trod_array Tryd.underlying57 hd1
  have h1 := hel 1 (by decide)
  simp only [Prod.mk.injEq, Rows.laid_coppice_example_coppice_internal_tree_topBits, DataW.agg.injEq] at hx1
  match xs, hn3, hx1, h1 with
  | [x0, x1, x2, x3, x4, x5, x6, x7, x8], _, hx1, h1 =>
    simp only [List.map_cons, List.map_nil, List.cons.injEq] at hx1
    obtain ⟨k, e1, e2, _⟩ := DataW.trod_int Tryd.underlying33 (show DataW.trod _ Tryd.prog W 0 _ false m1 33 _ = some x1 from h1)
    have hk : k = 128 := by rw [e2] at hx1; simpa using hx1.1.2.1.symm
    subst hk
    have := World.var?_cell hg1 hv1 1
    obtain ⟨l1⟩ := cs1
    rw [cells33] at e1
    match l1, e1 with
    | c :: c1 :: _, e1 =>
      simp at e1
      subst e1
      simpa using this

theorem gTop : Tryd.prog.globalNamed (Rows.fnStringReadsBackThroughNumbersSpec.vars.headD "") = some 1 := by kernel_rfl

/-- WHAT THE CONDITION GIVES THE WALK. -/
theorem of_laid {W : World} (h : laidMetH Tryd.prog laid5 W) : ∃ aE aU, Gl W W.heap.size aE aU := by
  rw [MakeChecks.laidMetH_plain _ _ _ (by kernel_rfl)] at h
  have h1 := h.tail
  obtain ⟨a0, a1, s0, s1, c0, c1, t0, t1, hv0, hv1, hc0, hs0, hz0, hc1, hs1, hz1, hne, hb0, hb1⟩ := laid_sentinels2 h1 gEof gEofT gUne gUneT Tryd.underlying35 row69 Tryd.underlying69 Tryd.underlying89 rfl rfl Tryd.underlying9 cells89 cells9
  have ht := of_top gTop h1.tail.tail.tail
  have hg0 : W.cell? ⟨3, 0, none⟩ = some (.iface 69 (.pointer (some a0))) := by simpa using World.var?_cell gEof hv0 0
  have hg1 : W.cell? ⟨4, 0, none⟩ = some (.iface 69 (.pointer (some a1))) := by simpa using World.var?_cell gUne hv1 0
  exact ⟨a0, a1, ⟨hg0, hg1, ht, ⟨_, _, hb0⟩, ⟨_, _, hb1⟩, ⟨lt_of_cell hg1, block_lt hb0, block_lt hb1, Nat.le_refl _⟩⟩⟩

set_option maxRecDepth 100000 in
theorem lifted (os : Os) (started : os.Started) (H : Type) (enc : TypeId × Value → H) :
    ReturnsInHanded {} Tryd.checked os 3 .any (fun w args => (Rows.fnStringReadsBackThroughNumbersSpec.pre enc Tryd.prog Tryd.f3 [] false w args ∧ laidMetH Tryd.prog laid5 w) ∧ sizedMet enc Tryd.prog Tryd.f3 (OpenSpec.ofChange Rows.fnStringReadsBackThroughNumbersSpec) false w args)
      (Rows.fnStringReadsBackThroughNumbersSpec.post enc Tryd.prog Tryd.f3 false true false false) := by
  refine returnsInHanded_of_change_and (C := Tryd.checked) (X := fun w _ => laidMetH Tryd.prog laid5 w) (fun _ _ _ hh h => h.of_heap hh) own started (by kernel_rfl) Tryd.func3
    (ChangeSpec.witness_shaped (enc := enc) (C := Tryd.checked) (os := os) (X := fun w _ => laidMetH Tryd.prog laid5 w) false (World.doorLaid Tryd.prog 90 os) #[.string ByteArray.empty] 8 rfl (World.shaped_of_RefB (by kernel_rfl) (by kernel_rfl)) (by kernel_rfl) (by kernel_rfl) (by kernel_rfl) (door_met os _)) ?_
  intro W base args ds gs before hval0 hW _ _ hL _
  have hval : ∀ (j : Nat) t v, Tryd.f3.params[j]? = some t → args[j]? = some v → Value.okWide Tryd.prog W .any base t v := hval0
  have hW' := hW
  obtain ⟨p, q, hA0, hV, rfl, hfz, hnd⟩ := hW
  have hA : DataW.TrodAll enc Tryd.prog W 0 (fun _ => true) true Tryd.f3.params.toList args.toList ds p := hA0
  rw [Tryd.params3] at hA hval
  obtain ⟨v0, d0, rfl, rfl, h0⟩ := trodAll_one hA
  obtain ⟨_, _, _, _, g1, _, _, _, _, _, g2, _, rfl, _⟩ := trodVars_two hV
  obtain ⟨s, rfl, rfl, rfl, hz⟩ := open_string Tryd.underlying9 (hval 0 9 v0 rfl rfl) h0
  obtain ⟨aE, aU, hgl⟩ := of_laid hL
  clear hA0 hval0
  refine (law3 s aE aU W hz hgl).mono fun e W' ⟨he, hb⟩ => ?_
  subst he
  refine ⟨_, rfl, _, _, _, [], [], q, hW', ?_, ?_, ?_, hb.frame _, fun h => by cases h⟩
  · exact trodAll_mk1 (shut_bool Tryd.underlying4 _)
  · exact trodAll_mk1 (shut_string Tryd.underlying9 hz)
  · exact Below.trodVars laidOut hb (by kernel_rfl : varsRowed Tryd.prog Rows.fnStringReadsBackThroughNumbersSpec.vars = true) hV

theorem row_holds : Rows.FnStringReadsBackThroughNumbersSaid :=
  OpenClaim.holds_of_wide 3 Tryd.f3 rfl rfl rfl rfl rfl rfl rfl ⟨rfl, rfl, rfl, rfl, rfl⟩ rfl rfl rfl rfl rfl (by kernel_rfl) Tryd.func3 (by kernel_rfl)
    (of_decide_eq_true (by kernel_rfl)) (by unfold Func.isWrapper; first | (rw [if_pos (by decide +kernel)]; kernel_rfl) | (rw [if_neg (by decide +kernel)]; exact ⟨rfl, rfl⟩))
    (fun os started H enc _ => lifted os started H enc)
end Go.Proofs.Qxb6618523aDoorRR
