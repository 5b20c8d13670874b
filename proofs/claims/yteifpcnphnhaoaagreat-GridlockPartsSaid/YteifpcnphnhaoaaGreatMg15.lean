import Derived.Test.YteifpcnphnhaoaaGreatMg14
import Derived.Test.YteifpcnphnhaoaaGreatRows
import Derived.ProofKit
import Derived.Deep.Slices
open Go.Proofs.Tryz
namespace Go.Proofs.YteifpcnphnhaoaaGreat
open Go.ChangeShapes Go.WideShapes Go.ChangeAt Go.RowKit Go.Deep
section
variable {H:Type} {enc:TypeId×Value ->H} {P:Program} {w:World} {B:Nat}
theorem list_of {c:Type} {Q:Nat ->c ->Prop} (n:Nat) (h:∀i,i<n ->∃a,Q i a):∃l:List c,l.length=n/\∀(i:Nat) a,l[i]? =some a ->Q i a:=by
 induction n with
 | zero=>exact ⟨[],Z,λi a h=>by simp at h⟩
 | succ n d=>
  obtain ⟨l,e,f⟩:=d (λi g=>h i (by omega));obtain ⟨a,k⟩:=h n (by omega);refine ⟨l++ [a],by simp [e],λi b j=>?_⟩
  grind
end
section
variable {H:Type} {enc:TypeId×Value ->H} {P:Program}
theorem Jh (k:laidOutB P=true) {W m:World} (l:Below W.heap.size W m):∀{c:List TypeId} {g:List Value} {j:List (DataW H)} {e:List MemPlace},
  (c.all λt=>P.readableRec t && decide (t<P.types.size))=true ->DataW.TrodAll enc P W 0 (λ_=>true) true c g j e ->(∀x∈e,x.block<W.heap.size)→
  DataW.TrodAll enc P m 0 (λb=>decide (b<W.heap.size)) true c g j e
 | [],[],[],_,_,h,_=>h
 | t::c,v::g,d::j,e,f,h,a=>by
  obtain ⟨p,q,o,n,rfl⟩:=h;simp only [List.all_cons,ωd,ψv] at f;exact ⟨p,q,Below.trod k f.1.1 f.1.2 o l (λx i=>a x (ψo _ i)),Jh k l (by simpa using f.2) n (λx i=>a x (ψe _ i)),Z⟩
 | [],[],_::_,_,_,h,_=>h.elim
 | [],_::_,_,_,_,h,_=>h.elim
 | _::_,[],_,_,_,h,_=>h.elim
 | _::_,_::_,[],_,_,h,_=>h.elim
theorem dh {f:Func} {s:ChangeSpec} {W n:World} {d:Array Value} {e i:List (DataW H)} {c:List MemPlace} {tb:TypeId} (u:laidOutB P=true)
  (r:(f.params.toList.all λt=>P.readableRec t && decide (t<P.types.size))=true) (b:s.vars=[]) (k:f.resultTypes= #[tb]) (j:P.underlying tb=some .bool)
  (m:DataW.Whole enc P f.params.toList s.vars false W d.toList e i c) (a:(s.fn H (e++i)).results=[.lit (.bool true)]/\(s.fn H (e++i)).args=e/\(s.fn H (e++i)).vars=[])
  (l:Below W.heap.size W n):s.post enc P f false true false false W d (.bool true) n:=by
 have g:=m;obtain ⟨p,q,v,hV,rfl,_,_⟩:=m;rw [b] at hV;obtain ⟨rfl,rfl⟩:=trodVars_none hV;refine ⟨e,[],p++ [],[],p,[],g,?_,?_,?_,l.frame _,λh=>by cases h⟩
 .rw [a.1,k];exact trodAll_mk1 (shut_bool j true)
 .rw [a.2.1];exact Jh u l r v (λx o=>g.lt x (by simpa using o))
 .rw [a.2.2,b];rfl
end
theorem Tryz.own:ownKnob prog.godebug=none:=by kernel_rfl
theorem Tryz.laidOut:laidOutB prog=true:=by kernel_rfl
end Go.Proofs.YteifpcnphnhaoaaGreat
