/- Part of the proof: V1. -/
import Derived.Test.YtnclklfhjbkjhaaGreatDoorZa
import Derived.Test.YtnclklfhjbkjhaaGreatDoorRows
import Derived.JoinedOf
set_option maxRecDepth 1000000
set_option maxHeartbeats 40000000
set_option linter.unusedSimpArgs false
namespace Go.Proofs.YtnclklfhjbkjhaaGreatDoor
open Go
theorem k3a:Tryz.pinned.checked.prog.funcNamed Rows.fnScanRow.func=some 3:=by kernel_rfl
theorem k3b:joinedFacts Tryz.pinned.checked.prog 3 Tryz.f3 Rows.fnScanSpec Rows.fnScanRow=true:=by kernel_rfl
theorem k3c:Tryz.f3.isInstance Tryz.pinned.checked.prog Rows.fnScanRow.origin Rows.fnScanRow.targs:=of_decide_eq_true (by kernel_rfl)
theorem k3d:Tryz.f3.isWrapper Tryz.pinned.checked.prog Rows.fnScanRow.wrapper Rows.fnScanRow.mainSum:=by unfold Func.isWrapper;first|(rw[if_pos (by decide+kernel)];kernel_rfl)|(rw[if_neg (by decide+kernel)];exact⟨rfl,rfl⟩)
end Go.Proofs.YtnclklfhjbkjhaaGreatDoor
