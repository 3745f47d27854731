/-
  THE TIED CARD OF 'FnStringReadsBackThroughNumbers'.
-/
import Derived.Test.Qxb6618523aDoorRRLifted
import Derived.Test.Qxb6618523aDoorRRTie
import Derived.Test.Qxb6618523aDoorRRCards
import Derived.SevenTiedAt
namespace Go.Proofs.Qxb6618523aDoorRR
open Go

theorem fname : Tryd.prog.funcNamed Rows.fnStringReadsBackThroughNumbersRow.func = some 3 := by kernel_rfl

theorem card_holds : Rows.FnStringReadsBackThroughNumbersCardSaid :=
  Claim7.holds_tied_plain_at .later [] [.sentinel, .sentinel, .sentinel, .sentinel, .data] true (true, "fd0880c6c636a25d8d09ea5afad5acd2060780b01864d87d47c9b7f545b218c9") true
    row_holds (fun _ h => by cases h) (by kernel_rfl) (fun _ h => by cases h) fnStringReadsBackThroughNumbers_row_tie rfl ⟨rfl, rfl⟩ (by kernel_rfl) rfl
    (fun f fn hf hfn => by
      obtain rfl : f = 3 := Option.some.inj (fname.symm.trans hf) |>.symm
      obtain rfl : fn = Tryd.f3 := (Option.some.inj (Tryd.func3.symm.trans hfn)).symm
      exact ⟨by kernel_rfl, fun j t ht => by
        rw [Tryd.params3] at ht
        have h3 : t = 9 := by
          rcases j with _ | j
          · simpa using ht.symm
          · simp at ht
        subst h3
        exact (show Tryd.prog.wantsStandIn 9 = false by kernel_rfl)⟩)
    (by kernel_rfl)
end Go.Proofs.Qxb6618523aDoorRR
