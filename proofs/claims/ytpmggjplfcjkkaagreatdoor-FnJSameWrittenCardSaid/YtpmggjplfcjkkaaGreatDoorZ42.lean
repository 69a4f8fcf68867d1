/- The other closed facts of FnJSameWritten's row and card. -/
import GoSem.ClaimSeven
import Derived.Test.YtpmggjplfcjkkaaGreatDoorZ41
set_option linter.unusedVariables false
set_option linter.unusedSimpArgs false
set_option maxRecDepth 100000
namespace Go.Proofs.YtpmggjplfcjkkaaGreatDoor
open Go
namespace Facts4
theorem named : P.funcNamed c.func = some 4 := by kernel_rfl
theorem inst : fn.isInstance P c.origin c.targs := of_decide_eq_true (by kernel_rfl)
theorem wrap : fn.isWrapper P c.wrapper c.mainSum := by unfold Func.isWrapper; first | (rw [if_pos (by decide +kernel)]; kernel_rfl) | (rw [if_neg (by decide +kernel)]; exact ⟨rfl, rfl⟩)
theorem fname : P.funcNamed "given.example/pub-querent/laws.FnJSameWritten" = some 4 := by kernel_rfl
theorem looks : P.looks [] = true := by kernel_rfl
theorem stand : P.wantsStandIn 9 = false := by kernel_rfl
theorem stand3 : P.wantsStandIn 3 = false := by kernel_rfl
end Facts4
end Go.Proofs.YtpmggjplfcjkkaaGreatDoor
