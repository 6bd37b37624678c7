import Derived.Test.YtlgefdfflmgocaaGreatDoorQ35
set_option linter.all false
namespace Go.Proofs.YtlgefdfflmgocaaGreatDoor
open Go Xc Go.Proofs.Tryz
theorem Gx:joinedFacts prog 3 f3 Rows.fnWholeSelectSpec Rows.fnWholeSelectRow=true:=by unfold joinedFacts;rw[Gr,Gs,Gt,Gu];kernel_rfl
theorem Gv:Tryz.pinned.checked.prog.funcNamed Rows.fnWholeSelectRow.func=some 3:=by kernel_rfl
theorem Gw:Tryz.f3.isInstance Tryz.pinned.checked.prog Rows.fnWholeSelectRow.origin Rows.fnWholeSelectRow.targs:=of_decide_eq_true (by kernel_rfl)
theorem Gy:Tryz.f3.isWrapper Tryz.pinned.checked.prog Rows.fnWholeSelectRow.wrapper Rows.fnWholeSelectRow.mainSum:=by unfold Func.isWrapper;rw[if_neg (of_decide_eq_false (by kernel_rfl))];exact⟨rfl,rfl⟩
end Go.Proofs.YtlgefdfflmgocaaGreatDoor
