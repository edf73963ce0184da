/- Part of the proof that laws.FnSchemaAgain answers true. Conditions: none. -/
import Derived.Test.YtdpmeahgjjmdiaaGreatDoorTie
import Derived.Test.YtdpmeahgjjmdiaaGreatDoorCards
import Derived.ProofKit
import Derived.OpenShut
import Derived.LaidMore
import Derived.Stop.Joined
set_option linter.all false
namespace Go.Proofs.YtdpmeahgjjmdiaaGreatDoor
open Go Go.ChangeShapes Go.WideShapes Go.ChangeAt Go.RowKit
theorem Bi:Tryz.pinned.checked.prog.funcNamed Rows.fnSchemaAgainRow.func=some 3:=by kernel_rfl
theorem wA:Tryz.f3.isInstance Tryz.pinned.checked.prog Rows.fnSchemaAgainRow.origin Rows.fnSchemaAgainRow.targs:=of_decide_eq_true (by kernel_rfl)
theorem wq:Tryz.f3.isWrapper Tryz.pinned.checked.prog Rows.fnSchemaAgainRow.wrapper Rows.fnSchemaAgainRow.mainSum:=by unfold Func.isWrapper;first|(rw[if_pos (by decide+kernel)];kernel_rfl)|(rw[if_neg (by decide+kernel)];exact⟨rfl,rfl⟩)
theorem sS:joinedFacts Tryz.pinned.checked.prog 3 Tryz.f3 Rows.fnSchemaAgainSpec Rows.fnSchemaAgainRow=true:=by kernel_rfl
end Go.Proofs.YtdpmeahgjjmdiaaGreatDoor
