/- Closed facts of the program and of the row of FnLiteralHexFloat, by the kernel. -/
import Derived.Test.YtgpoplfgngiilaaGreatDoorCards
import Derived.ProofKit
import Derived.SevenTiedAt
set_option linter.unusedVariables false
set_option linter.unusedSimpArgs false
namespace Go.Proofs.YtgpoplfgngiilaaGreatDoor
open Go.RowKit
set_option maxHeartbeats 8000000

theorem hexf_named : Tryz.pinned.checked.prog.funcNamed Rows.fnLiteralHexFloatRow.func = some 5 := by kernel_rfl
theorem hexf_closed : joinedFacts Tryz.prog 5 Tryz.f5 Rows.fnLiteralHexFloatSpec Rows.fnLiteralHexFloatRow = true := by
  unfold joinedFacts
  repeat' (with_reducible refine Bool.and_eq_true_iff.mpr ⟨?_, ?_⟩)
  all_goals as_aux_lemma => kernel_rfl
theorem hexf_inst : Tryz.f5.isInstance Tryz.pinned.checked.prog Rows.fnLiteralHexFloatRow.origin Rows.fnLiteralHexFloatRow.targs := of_decide_eq_true (by kernel_rfl)
theorem hexf_wrap : Tryz.f5.isWrapper Tryz.pinned.checked.prog Rows.fnLiteralHexFloatRow.wrapper Rows.fnLiteralHexFloatRow.mainSum := by
  unfold Func.isWrapper; first | (rw [if_pos (by decide +kernel)]; kernel_rfl) | (rw [if_neg (by decide +kernel)]; exact ⟨rfl, rfl⟩)
theorem hexf_wf : Rows.fnLiteralHexFloatRow.wfByText (OpenSpec.ofChange Rows.fnLiteralHexFloatSpec) = true := by kernel_rfl
theorem hexf_main : Tryz.pinned.checked.prog.mainIs = some (true, "8fffb0e42caece08a6f7f5f3c146177005e17b7e3568915d68f8fc414b808779".toList) := by kernel_rfl
theorem hexf_looks : true = Tryz.pinned.checked.prog.looks [] := by kernel_rfl
theorem hexf_stand : ([47, 5, 48, 5].all fun u => !Tryz.prog.wantsStandIn u) = true := by kernel_rfl
theorem hexf_goes : false = Rows.fnLiteralHexFloatRow.goesBy Tryz.pinned.checked.prog := by kernel_rfl
end Go.Proofs.YtgpoplfgngiilaaGreatDoor
