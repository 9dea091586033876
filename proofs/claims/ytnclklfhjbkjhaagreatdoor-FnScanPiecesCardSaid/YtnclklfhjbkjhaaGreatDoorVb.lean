/- Part of the proof: V2. -/
import Derived.Test.YtnclklfhjbkjhaaGreatDoorZa
import Derived.Test.YtnclklfhjbkjhaaGreatDoorRows
import Derived.JoinedOf
set_option maxRecDepth 1000000
set_option maxHeartbeats 40000000
set_option linter.unusedSimpArgs false
namespace Go.Proofs.YtnclklfhjbkjhaaGreatDoor
open Go
theorem k4a:Tryz.pinned.checked.prog.funcNamed Rows.fnScanPiecesRow.func=some 4:=by kernel_rfl
theorem k4b:joinedFacts Tryz.pinned.checked.prog 4 Tryz.f4 Rows.fnScanPiecesSpec Rows.fnScanPiecesRow=true:=by kernel_rfl
theorem k4c:Tryz.f4.isInstance Tryz.pinned.checked.prog Rows.fnScanPiecesRow.origin Rows.fnScanPiecesRow.targs:=of_decide_eq_true (by kernel_rfl)
theorem k4d:Tryz.f4.isWrapper Tryz.pinned.checked.prog Rows.fnScanPiecesRow.wrapper Rows.fnScanPiecesRow.mainSum:=by unfold Func.isWrapper;first|(rw[if_pos (by decide+kernel)];kernel_rfl)|(rw[if_neg (by decide+kernel)];exact⟨rfl,rfl⟩)
end Go.Proofs.YtnclklfhjbkjhaaGreatDoor
