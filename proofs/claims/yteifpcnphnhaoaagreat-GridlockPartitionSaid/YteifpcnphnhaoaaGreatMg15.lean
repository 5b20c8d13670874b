import Derived.Test.YteifpcnphnhaoaaGreatMg14
import Derived.Test.YteifpcnphnhaoaaGreatRows
import Derived.ProofKit
import Derived.Deep.Slices
namespace Go.Proofs.YteifpcnphnhaoaaGreat
open Go.ChangeShapes Go.WideShapes Go.ChangeAt Go.RowKit Go.Deep
section
variable {H:Type} {enc:TypeId×Value ->H} {P:Program} {w:World} {B:Nat}
theorem list_of {α:Type} {Q:Nat ->α ->Prop} (n:Nat) (h:∀i,i<n ->∃a,Q i a):∃l:List α,l.length=n∧∀(i:Nat) a,l[i]? =some a ->Q i a:=by
 induction n with
 | zero=>exact ⟨[],Z,fun i a h=>by simp at h⟩
 | succ n ih=>
  obtain ⟨l,hl,hq⟩:=ih (fun i hi=>h i (by omega));obtain ⟨a,ha⟩:=h n (by omega);refine ⟨l++ [a],by simp [hl],fun i b hb=>?_⟩;rw [List.getElem?_append] at hb
  by_cases hi:i<l.length
  ·rw [κ hi] at hb;exact hq i b hb
  ·rw [ϑ hi] at hb
   match hk:i - l.length,hb with
   | 0,hb=>
    simp at hb;subst hb
    rw [show i=n by omega];exact ha
   | k+1,hb=>simp at hb
end
section
variable {H:Type} {enc:TypeId×Value ->H} {P:Program}
theorem Ig (hl:laidOutB P=true) {W W':World} (hb:Below W.heap.size W W'):∀{ts:List TypeId} {vs:List Value} {ds:List (DataW H)} {ps:List MemPlace},
  (ts.all fun t=>P.readableRec t && decide (t<P.types.size))=true ->DataW.TrodAll enc P W 0 (fun _=>true) true ts vs ds ps ->(∀x∈ps,x.block<W.heap.size)→
  DataW.TrodAll enc P W' 0 (fun b=>decide (b<W.heap.size)) true ts vs ds ps
 | [],[],[],_,_,h,_=>h
 | t::ts,v::vs,d::ds,ps,hr,h,hlt=>by
  obtain ⟨p,q,h1,h2,rfl⟩:=h;simp only [List.all_cons,ωb,ψe] at hr;exact ⟨p,q,Below.trod hl hr.1.1 hr.1.2 h1 hb (fun x hx=>hlt x (ψp _ hx)),Ig hl hb (by simpa using hr.2) h2 (fun x hx=>hlt x (ψl _ hx)),Z⟩
 | [],[],_::_,_,_,h,_=>h.elim
 | [],_::_,_,_,_,h,_=>h.elim
 | _::_,[],_,_,_,h,_=>h.elim
 | _::_,_::_,[],_,_,h,_=>h.elim
theorem ac {f:Func} {s:ChangeSpec} {W W':World} {args:Array Value} {ds gs:List (DataW H)} {before:List MemPlace} {tb:TypeId} (hl:laidOutB P=true)
  (hr:(f.params.toList.all fun t=>P.readableRec t && decide (t<P.types.size))=true) (hvars:s.vars=[]) (hrt:f.resultTypes= #[tb]) (htb:P.underlying tb=some .bool)
  (hW:DataW.Whole enc P f.params.toList s.vars false W args.toList ds gs before) (hspec:(s.fn H (ds++gs)).results=[.lit (.bool true)]∧(s.fn H (ds++gs)).args=ds∧(s.fn H (ds++gs)).vars=[])
  (hb:Below W.heap.size W W'):s.post enc P f false true false false W args (.bool true) W':=by
 have hW':=hW;obtain ⟨p,q,hA,hV,rfl,_,_⟩:=hW;rw [hvars] at hV;obtain ⟨rfl,rfl⟩:=trodVars_none hV;refine ⟨ds,[],p++ [],[],p,[],hW',?_,?_,?_,hb.frame _,fun h=>by cases h⟩
 ·rw [hspec.1,hrt];exact trodAll_mk1 (shut_bool htb true)
 ·rw [hspec.2.1];exact Ig hl hb hr hA (fun x hx=>hW'.lt x (by simpa using hx))
 ·rw [hspec.2.2,hvars];rfl
end
theorem Tryz.own:ownKnob Tryz.prog.godebug=none:=by kernel_rfl
theorem Tryz.laidOut:laidOutB Tryz.prog=true:=by kernel_rfl
end Go.Proofs.YteifpcnphnhaoaaGreat
