import Derived.Test.YteifpcnphnhaoaaGreatMg11
import Derived.MapKept
namespace Go.Proofs.YteifpcnphnhaoaaGreat
open Go.RowKit
section
variable{P:Program}{F:Fr}{Q:Exit->AS->Prop}{ops:Array Oper}{rest:List Oper}{n:Nat}{env env1:List (Nat×AV)}{hp hp1 hp':Hp}
end
variable{w:World}{a:Value}{c:Nat->Prop}
theorem AP.byX(l:List (Nat×Nat)){P:Program}{f:FuncId}{a:List AV}{H:Hp}{R:AV->Hp->Prop}(h:AP P f a H R)(b:PX l=true):
  AP P f (J8 (Di l) a) (Ew (Di l) H) λr i=>∃c g,R c g/\r=c.ren (Di l)/\i=Ew (Di l) g:=
 (h.ren (D1 b)).mono λr i h=>⟨_,_,h,by rw[AV.ren_ren (D1 b)],by rw[Gx (D1 b)]⟩
def D.rawB:D->Bool
 | .raw _=>true
 | _=>false
def D.flatF:D->Bool
 | .fn _ fs caps=>fs.all D.rawB && caps.all D.rawB
 | x=>x.flat
theorem AY.unflatF{O:Nat->Prop}{x:D}(h:AY w O x a)(f:x.flatF=true):AY w c x a:=by
 cases x with
 | fn g z l=>
  cases h with
  | fn y u t s=>
   have f:(z.all D.rawB && l.all D.rawB)=true:=f;rw[gq] at f
   have k:∀b a,b.rawB=true->AY w O b a->AY w c b a:=λb a j r=>by
    cases b with
    | raw _=>exact R6 r
    | _=>cases j
   exact .fn y u (λi b a j o=>k b a (j9.1 f.1 b (ξ j)) (t i b a j o)) λi b a j o=>k b a (j9.1 f.2 b (ξ j)) (s i b a j o)
 | raw _=>exact h.unflat f
 | agg _=>exact h.unflat f
 | sl _ _=>exact h.unflat f
 | tup _=>exact h.unflat f
 | ptr _=>exact h.unflat f
def Al.FlatM:Al->Prop
 | .cells _ cs=>∀c∈cs,c.flatF=true
 | .row _ _ _ _=>False
 | .map _ es=>∀e∈es,e.1.flatF=true/\e.2.flatF=true
theorem Al.unflat{O:Nat->Prop}{A:Nat->Nat->Value}{m:Al}{b:Nat}(h:At w O A (m.at_ b) a)(k:m.FlatM):At w c A (m.at_ b) a:=by
 cases m with
 | cells t G=>
  obtain ⟨y,D,s,r,l,o⟩:=h;exact ⟨y,D,s,r,λj f u C E=>(l j f u C E).unflatF (k f (ξ C)),o⟩
 | row _ _ _ _=>exact k.elim
 | map H F=>
  obtain ⟨y,z,f,s,r,l,o⟩:=h;exact ⟨y,z,f,s,r,λi e x B g=>⟨(l i e x B g).1.unflatF (k x (ξ g)).1,(l i e x B g).2.unflatF (k x (ξ g)).2⟩,o⟩
section
variable{P:Program}{F:Fr}{s:AS}{d:Nat}{ty:TypeId}{pos:String}{aft:Array Edge}{g:Option (Nat×Bool)}{at_:Array TypeId}
theorem QP{f j:FuncId}{xs:List Operand}{args:List AV}{N:MF}{V:AV}(U:List Nat)(hc:AP P f args [(j,[.multi N])] λr H'=>r=V/\H'=[(j,[.multi N])])(J:RO s U xs args)(hbl:gA j U=false)(hN:∀b m,N b=some m->m.FlatM)(H:CO s.hp [(j,[.multi N])] [j]){x y:Hp}{A:List (Nat×AV)}(Y:C5 [j] s.hp=some x)(hE:Bt (Bv [(j,[.multi N])] [j]) s.env=some A)(hH:CT (Bv [(j,[.multi N])] [j]) x=some y)(hR3:V.ok (Jb [j])=true)(hfr:V.flat=true)(hd:Nat.blt d s.n=true){O:Hp}(G:some ([(j,[.multi N])]++y)=some O):
  AG P F ⟨some d,.call {callee:= .value (.func f),args:=xs.toArray,argTypes:=at_},ty,pos,aft,g⟩ s ⟨s.n,(d,V)::A,O⟩ (Bv [(j,[.multi N])] [j]):=by
 injection G with G
 subst G;intro u act w C;obtain ⟨fn,h1,h2,h3⟩:=hc.1;obtain ⟨h4,h5⟩:=J.rep C;unfold Oper.wp;rw[DG h1 h2 h3,Oper.upon_enter];have I:A5 [j] [(j,[AM.multi N])]=true:=by simp[A5,gA]
 have hpi:Fv [j] [(j,[AM.multi N])]=true:=rfl;obtain ⟨R,c,hO⟩:=F3 (.marks w.heap.size) C.heap [j] H I
 have z:∀W i o,ey [(j,[AM.multi N])] W i=some o->W=j/\∃m,N i=some m/\o=m.at_ i:=λW i o l=>by
  by_cases e:W=j
  .subst e;rw[Gj (M:=N) (by simp[fl])] at l
   cases Q:N i with
   | none=>rw[Q] at l;cases l
   | some m=>rw[Q] at l;injection l with l;exact ⟨Z,m,Z,l.symm⟩
  .simp[ey,fl,IU (Ne.symm e)] at l
 have hCl:∀b,BG u [(j,[AM.multi N])] b->Ii F s.hp u U b:=λb ⟨f1,i,o,T,h7⟩=>by
  obtain ⟨rfl,m,Q,rfl⟩:=z f1 i o T;have h8:ey s.hp f1 i=some (m.at_ i):=by rw[H.hget (θ.2 Z)];exact T
  refine ⟨.inr ⟨f1,i,_,h8,h7⟩,λ⟨f2,i2,o2,h9,h10,h11⟩=>?_⟩;have:=(C.heap.inj f2 i2 f1 i o2 _ b h10 h8 h11 h7).1
  grind
 let B:Hp:=[(j,[AM.multi N])]
 let F':Fr:=Fr.mk none (.marks w.heap.size) w (λb=>Ii F s.hp u U b/\¬BG u B b) (BG u B) (Ck u B) (λb E=>⟨by
  rcases E.1.1 with E | E
  .exact jB (F.hOf b E).1 C.heap.size0
  .exact (C.heap.mine b E).1,E.2⟩) (iZ B) (λ_ _ _ h=>D5 h)
 have S:F'.O u B=Ii F s.hp u U:=funext λb=>propext ⟨λh=>h.elim (λh=>h.1) (hCl b),λh=>(Classical.em (BG u B b)).elim .inr λhn=> .inl ⟨h,hn⟩⟩
 have D:B9 F' B u w:=⟨λf i o l=>by
  have T:=c.sim f i o l;rw[hO] at T;rw[S]
  exact T.mono (Γ _) (λ_ _ _=>rfl) (λb _ E=>E.1) (λ_ _=>rfl) (λ_ _ _=>rfl),c.inj,c.mine,c.os,c.tape,c.output,c.size0,c.keep,c.pins,c.drawn⟩
 refine (hc.2 F' u _ Z Z ⟨Z,Z,Z⟩ D h4 (λi a v ha hv=>by rw[S];exact h5 i a v ha hv)).mono λe w' ⟨v,r,H',X,e1,⟨e2,e3⟩,L,k⟩=>?_;subst e1 e2 e3
 have hh2:B9 (Bq F (.marks w.heap.size) s.hp B u w R) B X w':=⟨λf i o l=>by
  obtain ⟨rfl,m,Q,rfl⟩:=z f i o l
  exact Al.unflat (k.sim _ _ _ l) (hN i m Q),k.inj,k.mine,k.os,k.tape,k.output,k.size0,k.keep,k.pins,k.drawn⟩
 obtain ⟨K,g1,g2,g3,g4,g5,g6,g7⟩:=KA C.heap [j] H I Y hH R c hh2 I hpi;refine ⟨K,SR.put (s:=⟨s.n,A,B++y⟩) ⟨C.size,C.defs.mono g5 g6 g7,λt a ha=>?_,g1⟩ (IW hd) (g2 r v (λf i hf=>G5.1 (AV.ok_spec hR3 hf)) (L.unflat hfr)),g4⟩;rcases D9 hE ha with rfl | ⟨a1,a2⟩
 .exact .top
 .exact g3 _ _ a2 (C.env t a a1)
end
end Go.Proofs.YteifpcnphnhaoaaGreat
