/- FnBothFloat: both packages give the same nearest float of a decimal: the row and the tied card. Conditions: none beyond the row's own (the listed variables hold what the program's text lays, which the card ties). -/
import Derived.Test.YtndphemomhcjlaaGreatDoorQ30
set_option linter.all false

namespace Go.Proofs.YtndphemomhcjlaaGreatDoor
open Go.ChangeShapes Go.WideShapes Go.WideElems Go.RowKit Go.Joins

theorem fnBothFloat_holds : Rows.FnBothFloatSaid :=
  OpenClaim.holds_of_wide 3 Tryz.f3 rfl rfl rfl rfl rfl rfl rfl ⟨rfl, rfl, rfl, rfl, rfl⟩ rfl rfl rfl rfl rfl x_fn x_f3 x_closed x_inst x_wrap
    (fun os started H enc _ => lifted os started H enc)

theorem card_holds : Rows.FnBothFloatCardSaid :=
  Claim7.holds_tied_plain_at .later [] [.data, .data, .widerDeep, .widerDeep, .data, .data, .data, .data, .data, .sentinel, .sentinel, .data, .data, .data, .data, .sentinel, .sentinel, .data, .pinned, .pinned] true (true, "91140cc6d7b627952c71c9e5b7442ccd2e0a2ce79ecea91594b7a4f005993e06") true
    fnBothFloat_holds (fun _ h => by cases h) (by kernel_rfl) (fun _ h => by cases h) fnBothFloat_row_tie rfl ⟨rfl, rfl⟩ (by kernel_rfl) rfl
    (fun f fn hf hfn => by
      obtain rfl : f = 3 := Option.some.inj (x_fn.symm.trans hf) |>.symm
      obtain rfl : fn = Tryz.f3 := (Option.some.inj (Tryz.func3.symm.trans hfn)).symm
      exact ⟨by kernel_rfl, fun j t ht => by
        rw [Tryz.params3] at ht
        have hm : t ∈ [24] := by simpa using Array.mem_of_getElem? ht
        have hall : ([24].all fun u => !Tryz.prog.wantsStandIn u) = true := by kernel_rfl
        exact (show Tryz.prog.wantsStandIn t = false by simpa using List.all_eq_true.1 hall t hm)⟩)
    (by kernel_rfl)
#print axioms card_holds
end Go.Proofs.YtndphemomhcjlaaGreatDoor
