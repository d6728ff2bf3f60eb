/- Closed facts of the program and of the row of FnLiteralInt, by the kernel. -/
import Derived.Test.YtgpoplfgngiilaaGreatDoorCards
import Derived.ProofKit
import Derived.SevenTiedAt
set_option linter.unusedVariables false
set_option linter.unusedSimpArgs false
namespace Go.Proofs.YtgpoplfgngiilaaGreatDoor
open Go.RowKit
set_option maxHeartbeats 8000000

theorem int_named : Tryz.pinned.checked.prog.funcNamed Rows.fnLiteralIntRow.func = some 3 := by kernel_rfl
theorem int_closed : joinedFacts Tryz.prog 3 Tryz.f3 Rows.fnLiteralIntSpec Rows.fnLiteralIntRow = true := by
  unfold joinedFacts
  repeat' (with_reducible refine Bool.and_eq_true_iff.mpr ⟨?_, ?_⟩)
  all_goals as_aux_lemma => kernel_rfl
theorem int_inst : Tryz.f3.isInstance Tryz.pinned.checked.prog Rows.fnLiteralIntRow.origin Rows.fnLiteralIntRow.targs := of_decide_eq_true (by kernel_rfl)
theorem int_wrap : Tryz.f3.isWrapper Tryz.pinned.checked.prog Rows.fnLiteralIntRow.wrapper Rows.fnLiteralIntRow.mainSum := by
  unfold Func.isWrapper; first | (rw [if_pos (by decide +kernel)]; kernel_rfl) | (rw [if_neg (by decide +kernel)]; exact ⟨rfl, rfl⟩)
theorem int_wf : Rows.fnLiteralIntRow.wfByText (OpenSpec.ofChange Rows.fnLiteralIntSpec) = true := by kernel_rfl
theorem int_main : Tryz.pinned.checked.prog.mainIs = some (true, "8fffb0e42caece08a6f7f5f3c146177005e17b7e3568915d68f8fc414b808779".toList) := by kernel_rfl
theorem int_looks : true = Tryz.pinned.checked.prog.looks [] := by kernel_rfl
theorem int_stand : ([26, 5, 4, 4].all fun u => !Tryz.prog.wantsStandIn u) = true := by kernel_rfl
theorem int_goes : false = Rows.fnLiteralIntRow.goesBy Tryz.pinned.checked.prog := by kernel_rfl
end Go.Proofs.YtgpoplfgngiilaaGreatDoor
