/-
  SEAT b6616123aD: THE TIED CARD, out of the row and the given tie (after the guide's MapyCard.lean).
-/
import Derived.Test.Qxb6616123aDoorProof
import Derived.Test.Qxb6616123aDoorCards
import Derived.Test.Qxb6616123aDoorTie
import Derived.SevenTiedAt
namespace Go.Proofs.Qxb6616123aDoor
open Go
theorem proved : Rows.FnWriteCountWritesDecimalsAndCountsThemCardSaid :=
  Claim7.holds_tied_plain_at .later [] [.data, .data, .data] true (true, "dfaeee9935654ec7c8d71620405a67efb07ebe13d3b2b7c492bf3754e2ac8d40") false
    row_holds (fun _ h => by cases h) (by kernel_rfl) (fun _ h => by cases h) fnWriteCountWritesDecimalsAndCountsThem_row_tie rfl ⟨rfl, rfl⟩ (by kernel_rfl) rfl
    (fun f fn hf hfn => by
      obtain rfl : f = 3 := Option.some.inj ((show Tryd.prog.funcNamed Rows.fnWriteCountWritesDecimalsAndCountsThemRow.func = some 3 by kernel_rfl).symm.trans hf) |>.symm
      obtain rfl : fn = Tryd.f3 := (Option.some.inj (Tryd.func3.symm.trans hfn)).symm
      exact ⟨by kernel_rfl, fun j t ht => by
        rw [Tryd.params3] at ht
        have hm : t ∈ [22, 22] := by simpa using Array.mem_of_getElem? ht
        have hall : ([22, 22].all fun u => !Tryd.prog.wantsStandIn u) = true := by kernel_rfl
        exact (show Tryd.prog.wantsStandIn t = false by simpa using List.all_eq_true.1 hall t hm)⟩)
    (by kernel_rfl)
end Go.Proofs.Qxb6616123aDoor
