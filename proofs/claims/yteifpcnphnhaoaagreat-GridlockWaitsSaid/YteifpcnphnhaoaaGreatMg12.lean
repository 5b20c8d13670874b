import Derived.Test.YteifpcnphnhaoaaGreatMg11
import Derived.MapKept
namespace Go.Proofs.YteifpcnphnhaoaaGreat
open Go.RowKit
section
variable{P:Program}{F:Fr}{Q:Exit->AS->Prop}{ops:Array Oper}{rest:List Oper}{n:Nat}{env env1:List (Nat×AV)}{hp hp1 hp':Hp}
end
theorem AO.byX(l:List (Nat×Nat)){P:Program}{f:FuncId}{a:List AV}{H:Hp}{R:AV->Hp->Prop}(h:AO P f a H R)(b:QJ l=true):
  AO P f (Jw (EC l) a) (FG (EC l) H) λr i=>∃c g,R c g/\r=c.ren (EC l)/\i=FG (EC l) g:=
 (h.ren (Dc b)).mono λr i h=>⟨_,_,h,by rw[AV.ren_ren (Dc b)],by rw[HO (Dc b)]⟩
end Go.Proofs.YteifpcnphnhaoaaGreat
