import Derived.Test.YteifpcnphnhaoaaGreatMg12
import Derived.MapKept
namespace Go.Proofs.YteifpcnphnhaoaaGreat
open Go.RowKit
section
variable {P:Program} {F:Fr} {Q:Exit ->AS ->Prop} {ops:Array Oper} {rest:List Oper} {n:Nat} {env env1:List (Nat×AV)} {hp hp1 hp':Hp}
end
theorem AM.byX (l:List (Nat×Nat)) {P:Program} {f:FuncId} {args:List AV} {H:Hp} {R:AV ->Hp ->Prop} (h:AM P f args H R) (hl:Nl l=true):
  AM P f (I6 (Bj l) args) (ET (Bj l) H) fun r H'=>∃r0 H0,R r0 H0∧r=r0.ren (Bj l)∧H'=ET (Bj l) H0:=
 (h.ren (DF hl)).mono fun r H' h=>⟨_,_,h,by rw [AV.ren_ren (DF hl)],by rw [GE (DF hl)]⟩
end Go.Proofs.YteifpcnphnhaoaaGreat
