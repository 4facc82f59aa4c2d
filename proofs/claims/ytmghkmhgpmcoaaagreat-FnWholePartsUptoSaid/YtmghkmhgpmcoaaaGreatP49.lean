/- What the claim's theorem 'proved' rests on: Facts. -/
import Derived.Test.YtmghkmhgpmcoaaaGreatRows
import Derived.WalkKit
import Derived.ProofKit
import Derived.OpenShut
import Derived.JoinedCond
set_option linter.unusedVariables false
set_option linter.unusedSimpArgs false
set_option maxRecDepth 100000
set_option maxHeartbeats 10000000
namespace Go.Proofs.YtmghkmhgpmcoaaaGreat
section
open Go Go.ChangeShapes Go.WideShapes Go.ChangeAt Go.RowKit
theorem fact_named:Tryz.pinned.checked.prog.funcNamed Rows.fnWholePartsUptoRow.func=some 3:=by kernel_rfl
theorem fact_wrap:Tryz.f3.isWrapper Tryz.pinned.checked.prog Rows.fnWholePartsUptoRow.wrapper Rows.fnWholePartsUptoRow.mainSum:=by unfold Func.isWrapper;first|(rw [if_pos (by decide+kernel)];kernel_rfl)|(rw [if_neg (by decide+kernel)];exact⟨rfl,rfl⟩)
theorem fact_inst:Tryz.f3.isInstance Tryz.pinned.checked.prog Rows.fnWholePartsUptoRow.origin Rows.fnWholePartsUptoRow.targs:=of_decide_eq_true (by kernel_rfl)
theorem fact_joined:joinedFacts Tryz.pinned.checked.prog 3 Tryz.f3 (Rows.OpenSpec.upto Rows.fnWholePartsSpec).bare Rows.fnWholePartsUptoRow=true:=by kernel_rfl
end
end Go.Proofs.YtmghkmhgpmcoaaaGreat
