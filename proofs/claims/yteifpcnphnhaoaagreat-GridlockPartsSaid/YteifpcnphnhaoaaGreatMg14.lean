import Derived.Test.YteifpcnphnhaoaaGreatMg13
import Derived.Test.YteifpcnphnhaoaaGreatRows
import Derived.ProofKit
import Derived.Deep.Slices
open Go.Proofs.Tryz
namespace Go.Proofs.YteifpcnphnhaoaaGreat
open Go.ChangeShapes Go.WideShapes Go.ChangeAt Go.RowKit Go.Deep
section
variable{H:Type}{enc:TypeId×Value->H}{P:Program}{w:World}{B:Nat}
theorem lk{c:Type}{Q:Nat->c->Prop}(n:Nat)(h:∀i,i<n->∃a,Q i a):∃l:List c,l.length=n/\∀(i:Nat) a,l[i]? =some a->Q i a:=by
 induction n with
 | zero=>exact ⟨[],Z,λi a h=>by simp at h⟩
 | succ n f=>
  obtain ⟨l,g,j⟩:=f (λi k=>h i (by omega));obtain ⟨a,r⟩:=h n (by omega);refine ⟨l++ [a],by simp[g],λi b o=>?_⟩
  grind
end
section
variable{H:Type}{enc:TypeId×Value->H}{P:Program}
theorem Jg(l:laidOutB P=true){W r:World}(o:Below W.heap.size W r):∀{c:List TypeId} {i:List Value} {k:List (DataW H)} {f:List MemPlace},
  (c.all λt=>P.readableRec t && decide (t<P.types.size))=true->DataW.TrodAll enc P W 0 (λ_=>true) true c i k f->(∀x∈f,x.block<W.heap.size)→
  DataW.TrodAll enc P r 0 (λb=>decide (b<W.heap.size)) true c i k f
 | [],[],[],_,_,h,_=>h
 | t::c,v::i,d::k,f,g,h,a=>by
  obtain ⟨p,q,u,s,rfl⟩:=h;simp only[List.all_cons,gq,jP] at g;exact ⟨p,q,Below.trod l g.1.1 g.1.2 u o (λx j=>a x (j7 _ j)),Jg l o (by simpa using g.2) s (λx j=>a x (jN _ j)),Z⟩
 | [],[],_::_,_,_,h,_=>h.elim
 | [],_::_,_,_,_,h,_=>h.elim
 | _::_,[],_,_,_,h,_=>h.elim
 | _::_,_::_,[],_,_,h,_=>h.elim
theorem dX{f:Func}{s:ChangeSpec}{W v:World}{g:Array Value}{i k:List (DataW H)}{c:List MemPlace}{tb:TypeId}(z:laidOutB P=true)(y:(f.params.toList.all λt=>P.readableRec t && decide (t<P.types.size))=true)(b:s.vars=[])(o:f.resultTypes= #[tb])(l:P.underlying tb=some .bool)(u:DataW.Whole enc P f.params.toList s.vars false W g.toList i k c)(a:(s.fn H (i++k)).results=[.lit (.bool true)]/\(s.fn H (i++k)).args=i/\(s.fn H (i++k)).vars=[])(r:Below W.heap.size W v):s.post enc P f false true false false W g (.bool true) v:=by
 have j:=u;obtain ⟨p,q,A,hV,rfl,_,_⟩:=u;rw[b] at hV;obtain ⟨rfl,rfl⟩:=trodVars_none hV;refine ⟨i,[],p++ [],[],p,[],j,?_,?_,?_,r.frame _,λh=>by cases h⟩
 .rw[a.1,o];exact trodAll_mk1 (shut_bool l true)
 .rw[a.2.1];exact Jg z r y A (λx w=>j.lt x (by simpa using w))
 .rw[a.2.2,b];rfl
end
theorem Tryz.own:ownKnob prog.godebug=none:=by kernel_rfl
theorem Tryz.laidOut:laidOutB prog=true:=by kernel_rfl
end Go.Proofs.YteifpcnphnhaoaaGreat
