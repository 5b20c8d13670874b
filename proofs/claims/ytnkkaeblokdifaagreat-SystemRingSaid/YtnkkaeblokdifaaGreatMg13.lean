import Derived.Test.YtnkkaeblokdifaaGreatMg12
import Derived.MapKept
namespace Go.Proofs.YtnkkaeblokdifaaGreat
open Go.RowKit
section
variable {P:Program} {F:Fr} {Q:Exit ->AS ->Prop} {ops:Array Oper} {rest:List Oper} {n:Nat} {env env1:List (Nat×AV)} {hp hp1 hp':Hp}
end
theorem AK.byX (l:List (Nat×Nat)) {P:Program} {f:FuncId} {a:List AV} {H:Hp} {R:AV ->Hp ->Prop} (h:AK P f a H R) (b:Ni l=true):
  AK P f (IZ (Cz l) a) (EK (Cz l) H) λr i=>∃c g,R c g/\r=c.ren (Cz l)/\i=EK (Cz l) g:=
 (h.ren (Ch b)).mono λr i h=>⟨_,_,h,by rw [AV.ren_ren (Ch b)],by rw [Fy (Ch b)]⟩
end Go.Proofs.YtnkkaeblokdifaaGreat
