import Derived.Test.YtlgefdfflmgocaaGreatDoorQ34
import Derived.Test.YtlgefdfflmgocaaGreatDoorRows
import Derived.JoinedOf
set_option linter.all false
namespace Go.Proofs.YtlgefdfflmgocaaGreatDoor
open Go Xc Go.Proofs.Tryz
theorem Gr:(Rows.fnWholeSelectRow.inPlace==Tryz.prog.inPlace 3)=true:=by kernel_rfl
theorem Gs:(Rows.fnWholeSelectRow.unfollowed==Tryz.prog.unfollowed 3)=true:=by kernel_rfl
theorem Gt:(Rows.fnWholeSelectRow.recurses==Tryz.prog.recurses 3)=true:=by kernel_rfl
theorem Gu:(Rows.fnWholeSelectRow.named==Tryz.prog.varsNamed 3)=true:=by kernel_rfl
end Go.Proofs.YtlgefdfflmgocaaGreatDoor
