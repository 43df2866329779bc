/- The tied card of FnNewVariablesCaseTable, closed by the builder's one call (after the kit's MapyCard). -/
import Derived.Test.Qxb6612176aDoorProof
namespace Go.Proofs.Qxb6612176aDoor
open Go

theorem proved : Rows.FnNewVariablesCaseTableCardSaid :=
  Claim7.holds_tied_plain_at .later [] [.data, .data, .data] true (true, "b46baf937cd2f4bae09ee36dae22959e55228aa3840abfff1eff03259d1c90db") false
    row_holds (fun _ h => by cases h) (by kernel_rfl) (fun _ h => by cases h) fnNewVariablesCaseTable_row_tie rfl ⟨rfl, rfl⟩ (by kernel_rfl) rfl
    (fun f fn hf hfn => by
      obtain rfl : f = 3 := Option.some.inj ((show Tryd.prog.funcNamed Rows.fnNewVariablesCaseTableRow.func = some 3 by kernel_rfl).symm.trans hf) |>.symm
      obtain rfl : fn = Tryd.f3 := (Option.some.inj (Tryd.func3.symm.trans hfn)).symm
      exact ⟨by kernel_rfl, fun j t ht => by
        rw [Tryd.params3] at ht
        have hm : t ∈ [9, 3, 3, 9] := by simpa using Array.mem_of_getElem? ht
        have hall : ([9, 3, 3, 9].all fun u => !Tryd.prog.wantsStandIn u) = true := by kernel_rfl
        exact (show Tryd.prog.wantsStandIn t = false by simpa using List.all_eq_true.1 hall t hm)⟩)
    (by kernel_rfl)
end Go.Proofs.Qxb6612176aDoor
