/- Closed facts of the program and of the row of FnLiteralChar, by the kernel. -/
import Derived.Test.YtgpoplfgngiilaaGreatDoorCards
import Derived.ProofKit
import Derived.SevenTiedAt
namespace Go.Proofs.YtgpoplfgngiilaaGreatDoor
open Go.RowKit
set_option maxHeartbeats 8000000

theorem char_named : Tryz.pinned.checked.prog.funcNamed Rows.fnLiteralCharRow.func = some 4 := by kernel_rfl
theorem char_closed : joinedFacts Tryz.prog 4 Tryz.f4 Rows.fnLiteralCharSpec Rows.fnLiteralCharRow = true := by
  unfold joinedFacts
  repeat' (with_reducible refine Bool.and_eq_true_iff.mpr ⟨?_, ?_⟩)
  all_goals as_aux_lemma => kernel_rfl
theorem char_inst : Tryz.f4.isInstance Tryz.pinned.checked.prog Rows.fnLiteralCharRow.origin Rows.fnLiteralCharRow.targs := of_decide_eq_true (by kernel_rfl)
theorem char_wrap : Tryz.f4.isWrapper Tryz.pinned.checked.prog Rows.fnLiteralCharRow.wrapper Rows.fnLiteralCharRow.mainSum := by
  unfold Func.isWrapper; first | (rw [if_pos (by decide +kernel)]; kernel_rfl) | (rw [if_neg (by decide +kernel)]; exact ⟨rfl, rfl⟩)
theorem char_wf : Rows.fnLiteralCharRow.wfByText (OpenSpec.ofChange Rows.fnLiteralCharSpec) = true := by kernel_rfl
theorem char_main : Tryz.pinned.checked.prog.mainIs = some (true, "8fffb0e42caece08a6f7f5f3c146177005e17b7e3568915d68f8fc414b808779".toList) := by kernel_rfl
theorem char_looks : true = Tryz.pinned.checked.prog.looks [] := by kernel_rfl
theorem char_stand : ([41, 5].all fun u => !Tryz.prog.wantsStandIn u) = true := by kernel_rfl
theorem char_goes : false = Rows.fnLiteralCharRow.goesBy Tryz.pinned.checked.prog := by kernel_rfl
end Go.Proofs.YtgpoplfgngiilaaGreatDoor
