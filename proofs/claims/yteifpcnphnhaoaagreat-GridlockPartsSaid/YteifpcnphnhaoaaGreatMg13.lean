import Derived.Test.YteifpcnphnhaoaaGreatMg12
import Derived.MapKept
namespace Go.Proofs.YteifpcnphnhaoaaGreat
open Go.RowKit
section
variable {P:Program} {F:Fr} {Q:Exit ->AS ->Prop} {ops:Array Oper} {rest:List Oper} {n:Nat} {env env1:List (Nat×AV)} {hp hp1 hp':Hp}
end
variable {a:Value} {w:World} {c:Nat ->Prop}
theorem AT.byX (l:List (Nat×Nat)) {P:Program} {f:FuncId} {a:List AV} {H:Hp} {R:AV ->Hp ->Prop} (h:AT P f a H R) (b:Pc l=true):
  AT P f (J9 (Dm l) a) (Ev (Dm l) H) λr e=>∃c d,R c d/\r=c.ren (Dm l)/\e=Ev (Dm l) d:=
 (h.ren (D5 b)).mono λr e h=>⟨_,_,h,by rw [AV.ren_ren (D5 b)],by rw [Gw (D5 b)]⟩
def D.rawB:D ->Bool
 | .raw _=>true
 | _=>false
def D.flatF:D ->Bool
 | .fn _ fs caps=>fs.all D.rawB && caps.all D.rawB
 | x=>x.flat
theorem A1.unflatF {O:Nat ->Prop} {x:D} (h:A1 w O x a) (d:x.flatF=true):A1 w c x a:=by
 cases x with
 | fn g q j=>
  cases h with
  | fn p o n m=>
   have d:(q.all D.rawB && j.all D.rawB)=true:=d;rw [ωd] at d
   have f:∀b a,b.rawB=true ->A1 w O b a ->A1 w c b a:=λb a e l=>by
    cases b with
    | raw _=>exact Rl l
    | _=>cases e
   exact .fn p o (λi b a e k=>f b a (χm.1 d.1 b (ξ e)) (n i b a e k)) λi b a e k=>f b a (χm.1 d.2 b (ξ e)) (m i b a e k)
 | raw _=>exact h.unflat d
 | agg _=>exact h.unflat d
 | sl _ _=>exact h.unflat d
 | tup _=>exact h.unflat d
 | ptr _=>exact h.unflat d
def Ap.FlatM:Ap ->Prop
 | .cells _ cs=>∀c∈cs,c.flatF=true
 | .row _ _ _ _=>False
 | .map _ es=>∀e∈es,e.1.flatF=true/\e.2.flatF=true
theorem Ap.unflat {O:Nat ->Prop} {r:Nat ->Nat ->Value} {m:Ap} {b:Nat} (h:Av w O r (m.at_ b) a) (g:m.FlatM):Av w c r (m.at_ b) a:=by
 cases m with
 | cells t C=>
  obtain ⟨p,z,o,n,k,l⟩:=h;exact ⟨p,z,o,n,λj d u y A=>(k j d u y A).unflatF (g d (ξ y)),l⟩
 | row _ _ _ _=>exact g.elim
 | map D B=>
  obtain ⟨p,q,d,o,n,k,l⟩:=h;exact ⟨p,q,d,o,n,λi e x s f=>⟨(k i e x s f).1.unflatF (g x (ξ f)).1,(k i e x s f).2.unflatF (g x (ξ f)).2⟩,l⟩
section
variable {P:Program} {F:Fr} {s:AS} {d:Nat} {ty:TypeId} {pos:String} {aft:Array Edge} {g:Option (Nat×Bool)} {at_:Array TypeId}
theorem Q3 {f j:FuncId} {xs:List Operand} {args:List AV} {N:MF} {S:AV} (R:List Nat) (hc:AT P f args [(j,[.multi N])] λr H'=>r=S/\H'=[(j,[.multi N])]) (G:R2 s R xs args) (hbl:memB j R=false) (hN:∀b m,N b=some m ->m.FlatM)
  (D:CP s.hp [(j,[.multi N])] [j]) {p q:Hp} {x:List (Nat×AV)} (V:C9 [j] s.hp=some p) (hE:Bw (By [(j,[.multi N])] [j]) s.env=some x) (hH:CV (By [(j,[.multi N])] [j]) p=some q)
  (hR3:S.ok (Jc [j])=true) (Y:S.flat=true) (hd:Nat.blt d s.n=true) {J:Hp} (C:some ([(j,[.multi N])]++q)=some J):
  AG P F ⟨some d,.call {callee:= .value (.func f),args:=xs.toArray,argTypes:=at_},ty,pos,aft,g⟩ s ⟨s.n,(d,S)::x,J⟩ (By [(j,[.multi N])] [j]):=by
 injection C with C
 subst C;intro n act w z;obtain ⟨fn,h1,h2,h3⟩:=hc.1;obtain ⟨h4,h5⟩:=G.rep z;unfold Oper.wp;rw [DJ h1 h2 h3,Oper.upon_enter];have E:A6 [j] [(j,[AN.multi N])]=true:=by simp [A6,memB]
 have W:Fu [j] [(j,[AN.multi N])]=true:=rfl;obtain ⟨L,c,hO⟩:=F1 (.marks w.heap.size) z.heap [j] D E
 have u:∀T i o,hget [(j,[AN.multi N])] T i=some o ->T=j/\∃m,N i=some m/\o=m.at_ i:=λT i o l=>by
  by_cases e:T=j
  .subst e;rw [Gj (M:=N) (by simp [hfam])] at l
   cases K:N i with
   | none=>rw [K] at l;cases l
   | some m=>rw [K] at l;injection l with l;exact ⟨Z,m,Z,l.symm⟩
  .simp [hget,hfam,IP (Ne.symm e)] at l
 have hCl:∀b,BK n [(j,[AN.multi N])] b ->Ig F s.hp n R b:=λb ⟨f1,i,o,Q,h7⟩=>by
  obtain ⟨rfl,m,K,rfl⟩:=u f1 i o Q;have h8:hget s.hp f1 i=some (m.at_ i):=by rw [D.hget (κ.2 Z)];exact Q
  refine ⟨.inr ⟨f1,i,_,h8,h7⟩,λ⟨f2,i2,o2,h9,h10,h11⟩=>?_⟩;have:=(z.heap.inj f2 i2 f1 i o2 _ b h10 h8 h11 h7).1
  grind
 let y:Hp:=[(j,[AN.multi N])]
 let F':Fr:=Fr.mk none (.marks w.heap.size) w (λb=>Ig F s.hp n R b/\¬BK n y b) (BK n y) (Cp n y) (λb B=>⟨by
  rcases B.1.1 with B | B
  .exact ψf (F.hOf b B).1 z.heap.size0
  .exact (z.heap.mine b B).1,B.2⟩) (hpN y) (λ_ _ _ h=>D9 h)
 have O:F'.O n y=Ig F s.hp n R:=funext λb=>propext ⟨λh=>h.elim (λh=>h.1) (hCl b),λh=>(Classical.em (BK n y b)).elim .inr λhn=> .inl ⟨h,hn⟩⟩
 have A:Ba F' y n w:=⟨λf i o l=>by
  have Q:=c.sim f i o l;rw [hO] at Q;rw [O]
  exact Q.mono (Γ _) (λ_ _ _=>rfl) (λb _ B=>B.1) (λ_ _=>rfl) (λ_ _ _=>rfl),c.inj,c.mine,c.os,c.tape,c.output,c.size0,c.keep,c.pins,c.drawn⟩
 refine (hc.2 F' n _ Z Z ⟨Z,Z,Z⟩ A h4 (λi a v ha hv=>by rw [O];exact h5 i a v ha hv)).mono λe w' ⟨v,r,H',U,e1,⟨e2,e3⟩,I,k⟩=>?_;subst e1 e2 e3
 have X:Ba (Bs F (.marks w.heap.size) s.hp y n w L) y U w':=⟨λf i o l=>by
  obtain ⟨rfl,m,K,rfl⟩:=u f i o l
  exact Ap.unflat (k.sim _ _ _ l) (hN i m K),k.inj,k.mine,k.os,k.tape,k.output,k.size0,k.keep,k.pins,k.drawn⟩
 obtain ⟨H,g1,g2,g3,g4,g5,g6,g7⟩:=KD z.heap [j] D E V hH L c X E W;refine ⟨H,SR.put (s:=⟨s.n,x,y++q⟩) ⟨z.size,z.defs.mono g5 g6 g7,λt a ha=>?_,g1⟩ (IS hd) (g2 r v (λf i hf=>G4.1 (AV.ok_spec hR3 hf)) (I.unflat Y)),g4⟩;rcases De hE ha with rfl | ⟨a1,a2⟩
 .exact .top
 .exact g3 _ _ a2 (z.env t a a1)
end
end Go.Proofs.YteifpcnphnhaoaaGreat
