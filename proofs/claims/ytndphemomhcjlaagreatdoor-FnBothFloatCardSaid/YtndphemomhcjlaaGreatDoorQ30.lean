/- FnBothFloat: the row's closed facts, the row, the card. Conditions: none beyond the row's own (the listed variables hold what the program's text lays). -/
import Derived.Test.YtndphemomhcjlaaGreatDoorQ29
set_option linter.all false

namespace Go.Proofs.YtndphemomhcjlaaGreatDoor
open Go.ChangeShapes Go.WideShapes Go.WideElems Go.RowKit Go.Joins

theorem x_fn : Tryz.pinned.checked.prog.funcNamed Rows.fnBothFloatRow.func = some 3 := by kernel_rfl
theorem x_f3 : Tryz.pinned.checked.prog.funcs[3]? = some Tryz.f3 := Tryz.func3
theorem x_closed : joinedFacts Tryz.pinned.checked.prog 3 Tryz.f3 Rows.fnBothFloatSpec Rows.fnBothFloatRow = true := by kernel_rfl
theorem x_inst : Tryz.f3.isInstance Tryz.pinned.checked.prog Rows.fnBothFloatRow.origin Rows.fnBothFloatRow.targs := of_decide_eq_true (by kernel_rfl)
theorem x_wrap : Tryz.f3.isWrapper Tryz.pinned.checked.prog Rows.fnBothFloatRow.wrapper Rows.fnBothFloatRow.mainSum := by unfold Func.isWrapper; first | (rw [if_pos (by decide +kernel)]; kernel_rfl) | (rw [if_neg (by decide +kernel)]; exact ⟨rfl, rfl⟩)
end Go.Proofs.YtndphemomhcjlaaGreatDoor
