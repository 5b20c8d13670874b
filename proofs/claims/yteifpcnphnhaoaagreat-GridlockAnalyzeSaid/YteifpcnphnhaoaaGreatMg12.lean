import Derived.Test.YteifpcnphnhaoaaGreatMg11
import Derived.MapKept
namespace Go.Proofs.YteifpcnphnhaoaaGreat
open Go.RowKit
section
variable{P:Program}{F:Fr}{Q:Exit->AS->Prop}{ops:Array Oper}{rest:List Oper}{n:Nat}{env env1:List (Nat×AV)}{hp hp1 hp':Hp}
end
theorem AO.byX(l:List (Nat×Nat)){P:Program}{f:FuncId}{a:List AV}{H:Hp}{R:AV->Hp->Prop}(h:AO P f a H R)(b:QF l=true):
  AO P f (Js (EF l) a) (FH (EF l) H) λr i=>∃c g,R c g/\r=c.ren (EF l)/\i=FH (EF l) g:=
 (h.ren (Dg b)).mono λr i h=>⟨_,_,h,by rw[AV.ren_ren (Dg b)],by rw[HI (Dg b)]⟩
end Go.Proofs.YteifpcnphnhaoaaGreat
