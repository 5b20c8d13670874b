import Derived.Test.YteifpcnphnhaoaaGreatMg12
import Derived.MapKept
namespace Go.Proofs.YteifpcnphnhaoaaGreat
open Go.RowKit
section
variable {P:Program} {F:Fr} {Q:Exit ->AS ->Prop} {ops:Array Oper} {rest:List Oper} {n:Nat} {env env1:List (Nat×AV)} {hp hp1 hp':Hp}
end
theorem AN.byX (l:List (Nat×Nat)) {P:Program} {f:FuncId} {args:List AV} {H:Hp} {R:AV ->Hp ->Prop} (h:AN P f args H R) (hl:Nt l=true):
  AN P f (I9 (Bj l) args) (E2 (Bj l) H) fun r H'=>∃r0 H0,R r0 H0∧r=r0.ren (Bj l)∧H'=E2 (Bj l) H0:=
 (h.ren (DE hl)).mono fun r H' h=>⟨_,_,h,by rw [AV.ren_ren (DE hl)],by rw [GD (DE hl)]⟩
end Go.Proofs.YteifpcnphnhaoaaGreat
