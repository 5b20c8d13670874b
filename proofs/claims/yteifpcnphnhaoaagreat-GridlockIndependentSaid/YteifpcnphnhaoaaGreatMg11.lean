import Derived.Test.YteifpcnphnhaoaaGreatMg10
import Derived.Lib.SliceRun
namespace Go.Proofs.YteifpcnphnhaoaaGreat
open Go.RowKit
variable {F:Fr}
theorem L5 {P:Program} {Q:Exit ->AS ->Prop} {n:Nat} {B:List (Nat×AV)} {X W:Hp} {ops:Array Oper} {L:List Oper} {d K:Nat} {T E ty S:TypeId} {pos M:String} {aft R:Array Edge} {x lo:Operand} {α:Type} {emb:α ->D}
  (l:List α) (k:Nat) {z:Value} {zd:α} {f j m:Nat} {t:TypeId} {xs:List D} {kl:IntKind} {il:Int}
  (hx:AS.ev ⟨n,B,X⟩ x=some (.own f j m)) (hlo:AS.ev ⟨n,B,X⟩ lo=some (.d (.raw (.int kl il)))) (ho:dr X f j=some (.rowD t 1 xs)) (hl:xs=l.map emb) (hm:m=l.length) (hk:il=(k:Int)) (hkl:k<l.length)
  (hT:P.underlying T=some (.slice E)) (hE:AW P E 1=true) (hz:∀w,(zeroValue E).run P w= .ok z w) (U:z.oneCell'=true) (hzc:z.cells= #[z]) (H:emb zd= .raw z)
  (hh:BL X f j (.rowD t 1 ((l.take k++List.replicate (l.length - k) zd).map emb))=some W) (hd:Nat.blt d n=true) (hd':K=d)
  (hK:A8 P F ops L Q ⟨n,(d,.top)::B,W⟩):
  A8 P F ops (⟨some d,.slice T x (some lo) none none,ty,pos,aft,none⟩::⟨none,.call {callee:= .builtin .clear,args:= #[.tmp K],argTypes:= #[T]},S,M,R,none⟩::L) Q ⟨n,B,X⟩:=λρ C w hs=>by
 subst hl hm hk hd';have hr:=hs.ev hx
 generalize hv:C.eval x=u at hr
 obtain ⟨G,a,o,e1,h1,h2,h3,h4,h5⟩:=hs.rowD ho
 cases hr with
 | own hρ hn'=>
  rw [e1] at hρ;injection hρ with e2 e3 e4
  subst e2 e3 e4;have A:(l.map emb).length=l.length:=ψ _;obtain ⟨b,e5,s,h6,h7,h8⟩:=h5 (by omega);have e5:a=some ⟨b,0,none⟩:=e5;subst e5;have hcap:=h4.1;have hne:¬o=k:=by omega
  have I:G.length=l.length*1:=by rw [<-A];exact h2.1
  have hcl:G.length<=s.toList.length:=by rw [<-h8,Ξ];omega
  have h6':w.heap[b]? =some (.cells s.toList.toArray t (0,0)):=by simpa using h6
  refine wpListIn_plain Z λK1 hk1=>Em Z ?_;unfold Oper.wp
  have hex:(execOp C.eval ⟨some K,.slice T x (some lo) none none,ty,pos,aft,none⟩).run P w= .ok (.value (.slice (some ⟨b,k*1,none⟩) (l.length - k) (o - k))) w:=by
   simp only [execOp,hv,gs,jA,hs.raw hlo,Sem.run_bind,QV hT (ZW hE) (Nat.le_of_lt hkl),Result.andThen_ok,Sem.run_pure,θ hne,Addr.add,gf]
   by_cases h0:k*1=0
   .rw [ϱ h0,h0]
   .rw [θ h0]
  rw [hex];refine hk1 _ _ ?_;have hs1:SR F ⟨n,(K,.top)::B,X⟩ ρ (C.put (some K) (.slice (some ⟨b,k*1,none⟩) (l.length - k) (o - k))) w:=hs.put (IB hd) .top;have hev:(C.put (some K) (.slice (some ⟨b,k*1,none⟩) (l.length - k) (o - k))).eval (.tmp K)= .slice (some ⟨b,k*1,none⟩) (l.length - k) (o - k):=If (by rw [hs.size];exact IB hd);refine wpListIn_plain Z λK2 hk2=>Em Z ?_;unfold Oper.wp
  have Y:∀j,j<l.length - k ->(w.cell? ⟨b,k*1+j,none⟩).isSome=true:=λj hj=>by
   have hjl:k*1+j<G.length:=by omega
   rw [DT h6 h8 (ω hjl)];rfl
  have hfr:∀j,j<l.length - k ->w.frozen? ⟨b,k*1+j,none⟩=false:=λj hj=>by
   simp only [World.frozen?,h6];simp
  have N:=Lib.run_clear_slice (P:=P) w T E S z hT hz hzc U b (k*1) (l.length - k) (o - k) (by omega) Y hfr
  have hex2:(execOp (C.put (some K) (.slice (some ⟨b,k*1,none⟩) (l.length - k) (o - k))).eval ⟨none,.call {callee:= .builtin .clear,args:= #[.tmp K],argTypes:= #[T]},S,M,R,none⟩).run P w= .ok (.value (.tuple #[])) (w.setCells b (k*1) (List.replicate (l.length - k) z)):=by
   have O:=hev
   generalize hV:(Value.slice (some ⟨b,k*1,none⟩) (l.length - k) (o - k))=Qqq at O N
   simp [execOp,resolve,invoke,builtin,hV,O,N]
  rw [hex2];refine hk2 _ _ ?_;obtain ⟨g1,g2,g3,g4⟩:=qo (b:=b) (List.replicate (l.length - k) z) (k*1) w;refine hK ρ _ _ ?_;have hlz:(List.replicate (l.length - k) z).length=l.length - k:=List.length_replicate;refine hs1.write f j _ _ ho (Ai hh) g1 g2 g3 g4 (λb' hb'=>qq _ _ _ _ (λe=>hb' (by rw [e1,e];rfl))) (λ_ _ e=>by cases e) (λhrep=>?_) (Nat.le_of_eq (DR _ _ _ _).symm)
  have V:∀c u,AN w (F.O ρ X) c u ->AN (w.setCells b (k*1) (List.replicate (l.length - k) z)) (F.O ρ W) c u:=λc u hr=>by
   have:=hrep (.d c) u (.d hr)
   cases this with | d h=>exact h
  have v:((l.take k++List.replicate (l.length - k) zd).map emb).length=l.length:=by simp;omega
  have hset:FT G (k*1) (List.replicate (l.length - k) z)=G.take k++List.replicate (l.length - k) z:=by
   apply i8
   intro i;rw [Ch _ _ _ (by omega),hlz,List.getElem?_append,Ξ]
   by_cases hi:i<k
   .rw [θ (by omega),ϱ (by omega),ii hi]
   .rw [θ (c:=i<min k G.length) (by omega)]
    by_cases hi2:i<l.length
    .rw [ϱ (by omega)];congr 1;omega
    .rw [θ (by omega),iM (by omega),iM (by rw [hlz];omega)]
  rw [e1];refine ⟨FT G (k*1) (List.replicate (l.length - k) z),?_,⟨?_,λx' g=>?_,λi' x' g q c J=>?_⟩,λx' g c J=>?_⟩
  .refine ⟨by rw [ZV,v,I],.inr ⟨b,o,(FT s.toList (k*1) (List.replicate (l.length - k) z)).toArray,by rw [v,A],by omega,?_,by rw [v];omega,h4.2.1,by simp [ZV,h7],?_⟩⟩
   .simpa using qp (fr:=(0,0)) (List.replicate (l.length - k) z) s.toList (k*1) w h6'
   .rw [v];show (FT s.toList (k*1) (List.replicate (l.length - k) z)).take (l.length*1)=_;rw [<-I,K9 _ _ _ _ (by omega) hcl];have:s.toList.take G.length=G:=by rw [I,<-A];exact h8
    rw [this]
  .rw [ZV,v,I]
  .obtain ⟨y,r,rfl⟩:=κ.1 g;rcases ν.1 r with r | r
   .exact h2.2.1 _ (κ.2 ⟨y,gk r,Z⟩)
   .rw [List.eq_of_mem_replicate r,H];rfl
  .have hc1:x'.cells.length=1:=by
    obtain ⟨y,r,rfl⟩:=κ.1 (ϑ g);rcases ν.1 r with r | r
    .exact h2.2.1 _ (κ.2 ⟨y,gk r,Z⟩)
    .rw [List.eq_of_mem_replicate r,H];rfl
   have hq0:q=0:=by have:=(φ.1 J).1;omega
   subst hq0;rw [hset];rw [η] at g
   by_cases hi:i'<k
   .rw [m5 (by rw [Ξ];omega),ii hi] at g;have hx2:(l.map emb)[i']? =some x':=by rw [η];exact g
    obtain ⟨u,a1,a2,a3⟩:=h2.2.2 i' x' hx2 0 c J;refine ⟨u,?_,a2,V _ _ a3⟩;rw [m5 (by rw [Ξ];omega),ii (by omega)];exact a1
   .rw [m6 (by rw [Ξ];omega),Ξ,Nat.min_eq_left (by omega)] at g
    have hir:i' - k<l.length - k:=by
     have:((List.replicate (l.length - k) zd)[i' - k]?).isSome:=by
      cases hq:(List.replicate (l.length - k) zd)[i' - k]? with
      | none=>rw [hq] at g;cases g
      | some _=>rfl
     simpa using this
    rw [List.getElem?_replicate,ϱ hir] at g;injection g with g
    rw [H] at g;subst g;simp only [D.cells,List.getElem?_cons_zero,Option.some.injEq] at J;subst J;refine ⟨z,?_,U,.raw U⟩;rw [m6 (by rw [Ξ];omega),Ξ,List.getElem?_replicate,ϱ (by omega)]
  .obtain ⟨y,r,rfl⟩:=κ.1 g;rcases ν.1 r with r | r
   .exact h3 _ (κ.2 ⟨y,gk r,Z⟩) c J
   .rw [List.eq_of_mem_replicate r,H] at J;simp only [D.cells,ζ] at J;subst J;rfl
theorem SR.ghost {s:AS} {l:Nat ->Nat ->Value} {k:Act} {w:World} (h:SR F s l k w) (g f i:Nat) (o:Nat.beq f g=false) {a:List (Nat×AV)} {c j:Hp} (x:AX g s.env=some a) (v:AT g s.hp=some c) (r:CP c g (.addr f i (l f i))=some j):
  SR F ⟨s.n,a,j⟩ (upd l g 0 .nilFunc) k w:=by
 obtain ⟨y,A⟩:=Gl r
 refine h.set g 0 (.addr f i (l f i)) .nilFunc x v y (λt B z=>?_) (λb u=>by cases u) Z Z Z (ϖ _) (λ_ _ _=>rfl) λ_=>⟨Z,MX λe=>(iB o) e.1⟩
 grind [Ak]
section
variable {P:Program} {F:Fr} {Q:Exit ->AS ->Prop} {c:Code} {ops:Array Oper} {l:List Oper} {n:Nat} {env env':List (Nat×AV)} {hp hp1:Hp}
variable {a:Option (List Nat×Nat)} {f:Nat ->Nat ->Value} {g:List (D×D)} {h:Value} {i j:Nat} {k:Act} {w:World} {s:AS}
theorem UL (b f i:Nat) (s:dr hp f i=some (.map a g)) (j:Nat.beq f b=false) (u:AX b env=some env') (t:AT b hp=some hp1) (r:eQ hp1 b=none)
  (h:∀m:Nat,Bl P F c Q ⟨n,env',(b,[.addr f i (.map (some m))])::hp1⟩):Bl P F c Q ⟨n,env,hp⟩:=λv k w o=>by
 obtain ⟨m,_,_,e,_⟩:=o.heap.sim f i _ s;exact h m _ k w (o.ghost b f i j u t (by rw [e];unfold CP;rw [r];rfl))
theorem b6 (b f i:Nat) (s:dr hp f i=some (.map a g)) (j:Nat.beq f b=false) (u:AX b env=some env') (t:AT b hp=some hp1) (r:eQ hp1 b=none)
  (h:∀m:Nat,A8 P F ops l Q ⟨n,env',(b,[.addr f i (.map (some m))])::hp1⟩):A8 P F ops l Q ⟨n,env,hp⟩:=λv k w o=>by
 obtain ⟨m,_,_,e,_⟩:=o.heap.sim f i _ s;exact h m _ k w (o.ghost b f i j u t (by rw [e];unfold CP;rw [r];rfl))
theorem SR.toRaw (r:SR F s f k w) (t g b:Nat) (u:get s.env t=some (.map i j)\/get s.env t=some (.ptr i j 0)) (C:dr s.hp g b=some (.addr i j h)):SR F ⟨s.n,(t,.d (.raw h))::s.env,s.hp⟩ f k w:=by
 obtain ⟨_,z⟩:=r.heap.sim g b _ C;refine ⟨r.size,r.defs,λB a A=>?_,r.heap⟩;rcases LR A with ⟨rfl,rfl⟩ | ⟨_,A⟩
 .rcases u with u | u
  .have y:=r.env t _ u
   generalize k.tmps.getD t undef=x at y
   cases y with
   | map o=>rw [o] at z;subst z;exact .d (.raw Z)
  .have y:=r.env t _ u
   generalize k.tmps.getD t undef=x at y
   cases y with
   | ptr o=>rw [o] at z;subst z;exact .d (.raw Z)
 .exact r.env B a A
theorem SR.rawMap (o:SR F s f k w) (t g b:Nat) {m:Nat} (z:get s.env t=some (.d (.raw (.map (some m))))) (A:dr s.hp g b=some (.addr i j (.map (some m)))):SR F ⟨s.n,(t,.map i j)::s.env,s.hp⟩ f k w:=by
 obtain ⟨_,y⟩:=o.heap.sim g b _ A;refine ⟨o.size,o.defs,λv a r=>?_,o.heap⟩;rcases LR r with ⟨rfl,rfl⟩ | ⟨_,r⟩
 .have u:=o.env t _ z
  generalize k.tmps.getD t undef=x at u
  cases u with
  | d h=>cases h with | raw _=>exact .map y
 .exact o.env v a r
theorem XO (t g a:Nat) (k:get env t=some (.map i j)\/get env t=some (.ptr i j 0)) (r:dr hp g a=some (.addr i j h)) (b:Bl P F c Q ⟨n,(t,.d (.raw h))::env,hp⟩):Bl P F c Q ⟨n,env,hp⟩:=λ_ _ _ o=>b _ _ _ (o.toRaw t g a k r)
theorem kU (t g a:Nat) (k:get env t=some (.map i j)\/get env t=some (.ptr i j 0)) (r:dr hp g a=some (.addr i j h)) (b:A8 P F ops l Q ⟨n,(t,.d (.raw h))::env,hp⟩):A8 P F ops l Q ⟨n,env,hp⟩:=λ_ _ _ o=>b _ _ _ (o.toRaw t g a k r)
theorem DY (t g a:Nat) {m:Nat} (b:get env t=some (.d (.raw (.map (some m))))) (o:dr hp g a=some (.addr i j (.map (some m)))) (h:A8 P F ops l Q ⟨n,(t,.map i j)::env,hp⟩):A8 P F ops l Q ⟨n,env,hp⟩:=λ_ _ _ k=>h _ _ _ (k.rawMap t g a b o)
end
variable {a:Nat ->Nat ->Value} {c:Act} {w:World} {F:Fr} {s:AS} {f:Nat} {g:Hp} {t:TypeId} {h:Nat} {i:A7} {j:Hp} {k:World} {o:A7}
abbrev pV (b off:Nat):Value:= .pointer (some ⟨b,off,none⟩)
abbrev pD (b off:Nat):D:= .raw (pV b off)
abbrev sV (b n cap:Nat):Value:= .slice (some ⟨b,0,none⟩) n cap
abbrev MF:=Nat ->Option A7
def BJ (M:MF) (b:Nat) (m:A7):MF:=λi=>if i=b then some m else M i
def E2 (M:MF) (b:Nat):MF:=λi=>if i=b then none else M i
theorem EB (M:MF) (b:Nat) (m:A7):BJ M b m b=some m:=by unfold BJ;rw [ϱ rfl]
variable {M:MF}
theorem Ft {a:Nat} (c:a≠h):BJ M h i a=M a:=by unfold BJ;rw [θ c]
theorem Pb (M:MF) (b:Nat):E2 M b b=none:=by unfold E2;rw [ϱ rfl]
theorem Gd {i:Nat} (a:i≠h):E2 M h i=M i:=by unfold E2;rw [θ a]
def B4:Hp ->Nat ->MF ->Option Hp
 | [],_,_=>none
 | (k,l)::r,f,M=>match Nat.beq k f with
  | true=>match gV l with
   | some _=>some ((k,[.multi M])::r)
   | none=>none
  | false=>match B4 r f M with
   | none=>none
   | some r'=>some ((k,l)::r')
theorem Fq {M:MF} (h:eQ j f=some [.multi M]) (b:Nat):dr j f b=(M b).map (A7.at_ b):=by unfold dr;rw [h];rfl
theorem Cx {b:MF} (h:B4 j f b=some g):∀a i,dr g a i=if a=f then (b i).map (A7.at_ i) else dr j a i:=by
 induction j generalizing g with
 | nil=>simp [B4] at h
 | cons p r c=>
  obtain ⟨k,l⟩:=p;simp only [B4] at h
  split at h
  .grind [dr,eQ,gl,gV,HV]
  .rename_i t
   have s:=iB t
   split at h
   .cases h
   .rename_i u o
    injection h with h;subst h
    intro a i
    by_cases e:k=a
    .grind [dr,eQ,gh]
    .have:=c o a i
     grind [dr,eQ]
theorem SR.writeM (h:SR F s a c w) (f b:Nat) (I:eQ s.hp f=some [.multi M]) (H:M b=some i) (G:B4 s.hp f (BJ M b o)=some g) (z:k.os=w.os) (r:k.tape=w.tape) (x:k.output=w.output) (D:k.heap.size=w.heap.size)
  (E:∀y,y≠b ->k.heap[y]? =w.heap[y]?) (C:B6 (a f b)=some b) (u:(∀A v,AR w (F.O a s.hp) a A v ->AR k (F.O a g) a A v) ->Ae k (F.O a g) a (o.at_ b) (a f b)) (fE:w.drawn<=k.drawn:=by exact ϖ _):SR F ⟨s.n,s.env,g⟩ a c k:=by
 refine h.write f b (i.at_ b) (o.at_ b) (by rw [Fq I,H];rfl) (λl j=>?_) z r x D (λy B=>E y λe=>B (by rw [C,e])) (λt J e=>absurd e A7.notBlk) u fE;rw [Cx G]
 grind [Fq,EB,Ft]
theorem SR.writeN (h:SR F s a c w) (f b:Nat) (D:eQ s.hp f=some [.multi M]) (C:M b=some i) (B:B4 s.hp f (BJ M b o)=some g) (t:k.os=w.os) (j:k.tape=w.tape) (r:k.output=w.output) (y:k.heap.size=w.heap.size)
  (z:∀u,u≠b ->k.heap[u]? =w.heap[u]?) (x:a f b=pV b 0) (l:(∀A v,AR w (F.O a s.hp) a A v ->AR k (F.O a g) a A v) ->Ae k (F.O a g) a (o.at_ b) (a f b)) (fE:w.drawn<=k.drawn:=by exact ϖ _):SR F ⟨s.n,s.env,g⟩ a c k:=
 h.writeM f b D C B t j r y z (by rw [x];rfl) l fE
theorem SR.cellsN {F:Fr} {s:AS} {i:Nat ->Nat ->Value} {k:Act} {w:World} (h:SR F s i k w) {f b:Nat} {M:MF} {t:TypeId} {g:List D} (o:eQ s.hp f=some [.multi M]) (l:M b=some (.cells t g)):i f b=pV b 0/\∃a:List Value,w.heap[b]? =some (.cells a.toArray t (0,0))/\a.length=g.length/\(∀(j:Nat) c u,g[j]? =some c ->a[j]? =some u ->AN w (F.O i s.hp) c u)/\∀u∈a,u.oneCell'=true:=
 h.heap.sim f b (.nb b t g) (by rw [Fq o,l];rfl)
theorem SR.rowN (g:SR F s a c w) {k j:Nat} {l:List D} (u:eQ s.hp f=some [.multi M]) (r:M h=some (.row t k j l)):a f h=pV h 0/\∃o:List Value,w.ownsRow 0 t k (sV h l.length j) l.length o/\FQ D.cells k (AN w (F.O a s.hp)) l o/\∀x∈l,∀i∈x.cells,i.one=true:=
 g.heap.sim f h (.nr h t k j l) (by rw [Fq u,r];rfl)
section
variable {P:Program} {F:Fr} {s:AS} {d:Nat} {x y:Operand} {T E:TypeId} {ty:TypeId} {pos:String} {aft:Array Edge} {g:Option (Nat×Bool)} {k:IntKind} {i:Int}
variable {t:TypeId} {a:List D} {M:MF} {c:Nat} {f:List D} {h j o u w:Nat} {z:D}
theorem DN (a:s.ev x=some (.d (pD c h))) (j:Nat.blt d s.n=true):AA P F ⟨some d,.nilCheck x,ty,pos,aft,g⟩ s d (.d (pD c h)):=
 Cd _ j λ_ l w f=>⟨pV c h,by simp [execOp,f.raw a],.d (.raw Z)⟩
theorem CM {f o i:Nat} {r:Bool} (j:s.ev x=some (.d (pD c h))) (z:AG P T i=some (o,u,r)) (v:Nat.blt 0 u=true) (t:h+o=f) (A:Nat.blt d s.n=true):
  AA P F ⟨some d,.fieldAddr T x i,ty,pos,aft,g⟩ s d (.d (pD c f)):=
 Cd _ A λC B w l=>by
  have a:=l.raw j;subst t;exact ⟨pV c (h+o),by simp [execOp,a,EF z v],.d (.raw Z)⟩
theorem D4 {f:Nat} (A:s.ev x=some (.d (pD c h))) (G:eQ s.hp f=some [.multi M]) (C:M c=some (.cells t a)) (v:a[h]? =some z) (D:Ay P T=true) (B:Nat.blt d s.n=true):
  AA P F ⟨some d,.load T x,ty,pos,aft,g⟩ s d (.d z):=
 Cd _ B λL K w u=>by
  have r:=u.raw A;obtain ⟨_,o,J,I,H,N⟩:=u.cellsN G C;have l:h<o.length:=by rw [I];exact (φ.1 v).1
  have j:w.cell? ⟨c,h,none⟩=some o[h]:=by
   rw [cell_of_row w c h o.toArray t (0,0) J];simp [l]
  exact ⟨o[h],by simp [execOp,r,Instr.loadAt,Instr.sureAddr,loadVar,Di D,j],.d (H h z _ v (ω l))⟩
theorem DE {f n:Nat} {l:List D} (N:s.ev x=some (.d (pD c h))) (V:eQ s.hp f=some [.multi M]) (S:M c=some (.cells t a)) (U:Bm P T n=true) (L:(a.drop h).take n=l) (C:l.length=n) (h1:∀o∈l,o.one=true) (R:Nat.blt d s.n=true):
  AA P F ⟨some d,.load T x,ty,pos,aft,g⟩ s d (.d (.agg l)):=
 Cd _ R λρ act w J=>by
  have B:=J.raw N;obtain ⟨_,A,H,h2,Z,h4⟩:=J.cellsN V S;obtain ⟨⟨ds,Y,X⟩,W⟩:=Ez U
  have Q:h+n<=a.length\/n=0:=by
   rw [<-L,Ξ,List.length_drop] at C;omega
  have r:((A.drop h).take n).length=n:=by rw [Ξ,List.length_drop];omega
  have O:=run_loadAt_mid (P:=P) w c h T ((A.drop h).take n) ds (λj v z=>by
   rw [cell_of_row w c (h+j) A.toArray t (0,0) H];rw [ia] at z
   split at z
   .rw [i9] at z;simpa using z
   .cases z) Y X (by rw [r];exact W)
  refine ⟨.agg ((A.drop h).take n).toArray,by simp [execOp,B,O],.d (.agg (by rw [r,C]) h1 λm o u G I=>?_)⟩;have K:m<n:=by rw [<-C];exact (φ.1 G).1
  rw [<-L,ia,ϱ K,i9] at G;rw [ia,ϱ K,i9] at I;exact Z _ o u G I
theorem WI {a:Option Addr} {n cap:Nat} (b:s.ev x=some (.d (.raw (.slice a n cap)))) (h:P.underlying T=some (.slice E)) (f:Nat.blt d s.n=true):
  AA P F ⟨some d,.call {callee:= .builtin .len,args:= #[x],argTypes:= #[T]},ty,pos,aft,g⟩ s d (.d (.raw (.int .i64 (n:Int)))):=
 Cd _ f λ_ j w c=>⟨_,by simp [execOp,resolve,invoke,builtin,Builtin.len_,run_underlying h,c.raw b,goInt],.d (.raw Z)⟩
theorem Xn (m:Nat) (l:s.ev x=some (.d (.raw (sV c u o)))) (j:s.ev y=some (.d (.raw (.int k i)))) (t:i=(m:Int)) (r:m<u) (z:P.underlying T=some (.slice E)) (A:AW P E w=true) (v:Nat.blt d s.n=true):
  AA P F ⟨some d,.indexAddr T x y,ty,pos,aft,g⟩ s d (.d (pD c (m*w))):=
 Cd _ v λC B a h=>by
  have f:=h.raw l;subst t;exact ⟨pV c (m*w),by simp [execOp,Instr.indexAt,asIntOf,h.raw j,f,run_underlying z,r,mN (ZW A),Addr.add_mid],.d (.raw Z)⟩
theorem mJ {f b off B e A:Nat} {M:MF} {t:TypeId} {h:List D} {z c:D} {p:Nat} (I:s.ev x=some (.d (pD b p))) (J:p=e*B+off) (R:eQ s.hp f=some [.multi M]) (O:M b=some (.row t B A h)) (C:h[e]? =some z) (N:z.cells[off]? =some c) (Q:Ay P T=true) (L:Nat.blt d s.n=true):
  AA P F ⟨some d,.load T x,ty,pos,aft,g⟩ s d (.d c):=
 Cd _ L λρ Z w G=>by
  subst J;have j:=G.raw I;obtain ⟨_,us,W,U,h3⟩:=G.rowN R O;obtain ⟨g1,X⟩:=W;have K:e<h.length:=(φ.1 C).1;rcases X with ⟨v,_⟩ | ⟨b',H,Y,v,_,S,h7,h8,h9,r⟩
  .cases v
  .injection v with e2 e3 e4;injection e2 with e2;injection e2 with e2;subst e2
   obtain ⟨u,o,V,l⟩:=U.2.2 e z C off c N;have a:=DT S r o;exact ⟨u,by simp [execOp,j,Instr.loadAt,Instr.sureAddr,loadVar,Di Q,a],.d l⟩
theorem Dc {f b o e N:Nat} {M:MF} {t:TypeId} {O:List D} {h:List D} {p:Nat} (Y:s.ev x=some (.d (pD b p))) (hp:p=e*o) (hM:eQ s.hp f=some [.multi M]) (hb:M b=some (.row t o N O)) (S:O[e]? =some (.agg h)) {R:Nat} (J:h.length=R) (hT:Bm P T R=true) (hd:Nat.blt d s.n=true):
  AA P F ⟨some d,.load T x,ty,pos,aft,g⟩ s d (.d (.agg h)):=
 Cd _ hd λX act w U=>by
  subst hp J;have G:=U.raw Y;obtain ⟨_,Q,h1,h2,h3⟩:=U.rowN hM hb;obtain ⟨g1',K⟩:=h1;rcases K with ⟨L,_⟩ | ⟨b',W,cur,L,_,h6,h7,h8',h9,h8⟩
  .cases L
  .injection L with e2 e3 e4;injection e2 with e2;injection e2 with e2;subst e2
   obtain ⟨⟨ds,g1,g2⟩,g3⟩:=Ez hT;obtain ⟨l,I,H⟩:=NT (n:=h.length) λq=>(Q[e*o+q]?).getD undef
   have j:∀q,q<h.length ->∃u,Q[e*o+q]? =some u/\l[q]? =some u/\AN w (F.O X s.hp) (h[q]?.getD (.raw undef)) u:=λq j=>by
    obtain ⟨u,z,C,B⟩:=h2.2.2 e _ S q h[q] (ω j);refine ⟨u,z,by rw [H q j,z];rfl,?_⟩;rw [ω j];exact B
   have Z:=run_loadAt_mid (P:=P) w b (e*o) T l ds (λq v r=>by
    have a:q<h.length:=by rw [<-I];exact (φ.1 r).1
    obtain ⟨u,z,C,_⟩:=j q a;rw [C] at r;injection r with r;subst r
    exact DT h6 h8 z) g1 g2 (by rw [I];exact g3)
   refine ⟨.agg l.toArray,by simp [execOp,G,Z],.d (.agg I (h3 _ (ϑ S)) λq c u V A=>?_)⟩;have a:q<h.length:=(φ.1 V).1;obtain ⟨u',z,C,B⟩:=j q a;rw [C] at A;injection A with A;subst A
   rw [V] at B;exact B
theorem Or {I:List (Nat×AV)} {N K:Hp} {f off:Nat} {v:D} (hx:AS.ev ⟨u,I,N⟩ x=some (.d (pD c off))) (hy:AS.ev ⟨u,I,N⟩ y=some (.d v)) (hv:v.one=true) (hM:eQ N f=some [.multi M]) (hb:M c=some (.cells t a)) (S:off<a.length)
  (hh:B4 N f (BJ M c (.cells t (a.set off v)))=some K) (hT:AW P T 1=true):AH P F ⟨none,.store T x y,ty,pos,aft,g⟩ ⟨u,I,N⟩ ⟨u,I,K⟩ (λ_ _=>true):=λW U w V=>by
 have Y:=V.raw hx;have J:=V.repD hy;obtain ⟨O,us,h1,h2,h3,h4⟩:=V.cellsN hM hb
 generalize X:U.eval y=G at J
 have B:=J.oneCell hv;have z:G.cells.toList=[G]:=by cases G<;>first | rfl | cases B
 have Q:=Fh (P:=P) (T:=T) (o:=off) (v:=G) h1 (by rw [z];exact ZW hT) (by rw [z];simp only [Φ];omega) (by rw [z];intro l C;rw [ζ.1 C];exact B)
 have hex:(execOp U.eval ⟨none,.store T x y,ty,pos,aft,g⟩).run P w= .ok .skip (w.setCells c off G.cells.toList):=by
  simp [execOp,Y,X,Q]
 unfold Oper.wp;rw [hex];obtain ⟨g1,g2,g3,g4⟩:=qo (b:=c) G.cells.toList off w;refine ⟨W,V.writeN f c hM hb hh g1 g2 g3 g4 (λb' hb'=>qq _ _ _ _ hb') O (λR=>?_) (Nat.le_of_eq (DR _ _ _ _).symm),λ_ _ _=>rfl⟩;rw [O]
 have A:∀(r:D) l,AN w (F.O W N) r l ->AN (w.setCells c off G.cells.toList) (F.O W K) r l:=λr l h=>by
  have:=R (.d r) l (.d h)
  cases this with | d h=>exact h
 refine ⟨Z,FT us off G.cells.toList,qp _ _ _ _ h1,by rw [ZV,fq];exact h2,λj r l L C=>?_,λl C=>?_⟩
 .rw [Ch _ _ _ (by rw [z];simp only [Φ];omega),z] at C;rw [jB] at L
  by_cases e:off=j
  .subst e;rw [ϱ Z,ϱ S] at L;rw [ϱ (by simp only [Φ];omega),Nat.sub_self] at C;injection L with L;subst L
   simp at C;subst C
   exact A _ _ J
  .rw [θ e] at L;rw [θ (by simp only [Φ];omega)] at C;exact A _ _ (h3 j r l L C)
 .obtain ⟨j,hj,rfl⟩:=gF C;have H:=ω hj;rw [Ch _ _ _ (by rw [z];simp only [Φ];omega)] at H
  split at H
  .have h6:∀q∈G.cells.toList,q.oneCell'=true:=by rw [z];intro q hq;rw [ζ.1 hq];exact B
   exact h6 _ (ϑ H)
  .exact h4 _ (ϑ H)
end
variable {a:Nat ->Nat ->Value} {c:Act} {w:World} {F:Fr} {f:List (Nat×AV)} {s:AS} {M:MF} {g:List Nat} {h:List (Nat×AV)} {T:TypeId} {j:List D} {k:Hp} {o t u x:Nat} {y z A:Hp} {B:AI}
theorem SR.move (u:SR F s a c w) (f1 z f2 l:Nat) {o1 o2:AI} {v2:Value} {env':List (Nat×AV)} {hp':Hp}
  (W:dr s.hp f1 z=some o1) (I:dr s.hp f2 l=none) (M:B6 v2=B6 (a f1 z)) (R:F.pin f1 z=none)
  (N:∀f i r,dr hp' f i=some r ->(f=f2/\i=l/\r=o2)\/(¬(f=f2/\i=l)/\¬(f=f1/\i=z)/\∃o,dr s.hp f i=some o/\(∀w O a v,Ae w O a o v ->Ae w O a r v)/\¬r.Refs f2 l))
  (hb:dr hp' f2 l=some o2) (hc:∀f i t Y,dr s.hp f i=some (.blk t Y) ->¬(f=f1/\i=z) ->∃E,dr hp' f i=some (.blk t E))
  (T:∀f i o,dr s.hp f i=some o ->¬(f=f1/\i=z) ->∃r,dr hp' f i=some r)
  (hE:∀t g,get env' t=some g ->AR w (F.O a s.hp) a g (c.tmps.getD t undef)/\¬g.Refs f2 l)
  (H:Ae w (F.O a s.hp) (upd a f2 l v2) o2 v2):SR F ⟨s.n,env',hp'⟩ (upd a f2 l v2) c w:=by
 have B:∀b,Am (upd a f2 l v2) hp' b↔Am a s.hp b:=λb=>by
  constructor
  .rintro ⟨f,i,r,C,j⟩;rcases N f i r C with ⟨rfl,rfl,rfl⟩ | ⟨x,_,o,y,_⟩
   .rw [Oq,M] at j;exact ⟨f1,z,o1,W,j⟩
   .rw [MX x] at j;exact ⟨f,i,o,y,j⟩
  .rintro ⟨f,i,o,C,j⟩
   by_cases e:f=f1/\i=z
   .obtain ⟨rfl,rfl⟩:=e;exact ⟨f2,l,o2,hb,by rw [Oq,M];exact j⟩
   .have x:¬(f=f2/\i=l):=λx=>by rw [x.1,x.2,I] at C;cases C
    obtain ⟨r,y⟩:=T f i o C e;exact ⟨f,i,r,y,by rw [MX x];exact j⟩
 have U:F.O (upd a f2 l v2) hp'=F.O a s.hp:=funext λb=>propext ⟨λh=>h.imp id (B b).1,λh=>h.imp id (B b).2⟩;have D:∀(f i:Nat),¬(f=f2/\i=l) ->upd a f2 l v2 f i=a f i:=λf i e=>MX e;refine ⟨u.size,U▸u.defs,λt g P=>?_,?_⟩
 .obtain ⟨y,V⟩:=hE t g P;show AR w (F.O (upd a f2 l v2) hp') _ _ _;rw [U];exact y.mono (ϖ _) (λ_ _ _=>rfl) (λ_ _ h=>h) λf i Q=>D f i λe=>V (by rw [<-e.1,<-e.2];exact Q)
 .refine ⟨λf i r C=>?_,λf i K G o r b C S j k=>?_,λb j=>u.heap.mine b ((B b).1 j),u.heap.os,u.heap.tape,u.heap.output,u.heap.size0,u.heap.keep,λf i b A=>?_,u.heap.drawn⟩
  .show Ae w (F.O (upd a f2 l v2) hp') _ _ _;rw [U];rcases N f i r C with ⟨rfl,rfl,rfl⟩ | ⟨x,_,o,y,V,h5⟩
   .rw [Oq];exact H
   .rw [MX x];exact (V _ _ _ _ (u.heap.sim f i o y)).mono (ϖ _) (λ_ _ _=>rfl) (λ_ _ h=>h) (λ_ _=>rfl) λK G Q=>D K G λe=>h5 (by rw [<-e.1,<-e.2];exact Q)
  .rcases N f i o C with ⟨rfl,rfl,_⟩ | ⟨x,e3,q,y,_⟩<;>rcases N K G r S with ⟨rfl,rfl,_⟩ | ⟨L,X,q',J,_⟩
   .exact ⟨Z,Z⟩
   .rw [Oq,M] at j;rw [MX L] at k;exact absurd (u.heap.inj K G f1 z q' o1 b J W k j) X
   .rw [Oq,M] at k;rw [MX x] at j;exact absurd (u.heap.inj f i f1 z q o1 b y W j k) e3
   .rw [MX x] at j;rw [MX L] at k;exact u.heap.inj f i K G q q' b y J j k
  .obtain ⟨a1,t,Y,a2⟩:=u.heap.pins f i b A;have e1:¬(f=f1/\i=z):=λe=>by rw [e.1,e.2,R] at A;cases A
   have x:¬(f=f2/\i=l):=λe=>by rw [e.1,e.2,I] at a2;cases a2
   obtain ⟨E,y⟩:=hc f i t Y a2 e1;exact ⟨by rw [MX x];exact a1,t,E,y⟩
theorem J1 (a:F.pn=g) (h:ed t g=false):F.pin t o=none:=by
 cases hh:F.pin t o with
 | none=>rfl
 | some b=>
  have:=Fd.2 (a▸F.hpn t o b hh)
  grind
theorem SR.absorb (P:SR F s a c w) (t r A:Nat) {cs:List AV} {ds:List D} {V:Nat ->Hp} (hF:F.pn=g) (hpn:ed r g=false) (hne:Nat.beq r A=false)
  (ht:get s.env t=some (.ptr r 0 0)) (H:eQ s.hp r=some [.blk T cs]) (hcs:cs=ds.map .d) (Q:eQ s.hp A=some [.multi M]) (hE:AX r s.env=some h) (hE2:AX A h=some f) (hH:AT r s.hp=some k) (hH2:AT A k=some z) (hh:CA r z=some y) (hm:∀b,B4 y A (BJ M b (.cells T ds))=some (V b)):
  ∃b,M b=none/\SR F ⟨s.n,(t,.d (pD b 0))::f,V b⟩ (upd a A b (pV b 0)) c w:=by
 subst hcs;have L:r≠A:=iB hne;have ho:dr s.hp r 0=some (.blk T (ds.map .d)):=by unfold dr;rw [H];rfl
 obtain ⟨b,us,K,k1,k2,k3,k4⟩:=P.heap.sim r 0 _ ho
 have N:M b=none:=by
  cases hmb:M b with
  | none=>rfl
  | some m=>
   have h2:dr s.hp A b=some (m.at_ b):=by rw [Fq Q,hmb];rfl
   have hv:B6 (a A b)=some b:=by
    have:=P.heap.sim A b _ h2
    cases m with
    | cells _ _=>rw [this.1];rfl
    | row _ _ _ _=>rw [this.1];rfl
    | map _ _=>rw [this.1];rfl
   exact absurd (P.heap.inj r 0 A b _ _ b ho h2 (by rw [K];rfl) hv).1 L
 refine ⟨b,N,?_⟩;obtain ⟨a1,a2⟩:=Ak hH;obtain ⟨c1,c2⟩:=Ak hH2;have hd:=Gm hh;have J:=Cx (hm b);have hfam3:∀i,dr y A i=dr z A i:=λi=>by rw [hd,θ (λe=>L e.symm)]
 refine P.move r 0 A b ho (by simp only [Fq Q,N,jA]) (by rw [K]) (J1 hF hpn) (λW i o' E=>?_) (by rw [J,ϱ Z,EB];rfl) (λW i t' cs' E I=>?_) (λW i o E I=>?_) (λt' C ha=>?_) ?_
 .rw [J] at E
  by_cases e:W=A
  .subst e;rw [ϱ rfl] at E
   by_cases X:i=b
   .grind [EB]
   .rw [Ft X] at E;refine .inr ⟨λl=>X l.2,λl=>L l.1.symm,o',by rw [Fq Q];exact E,λ_ _ _ _ l=>l,?_⟩
    cases hmi:M i with
    | none=>rw [hmi] at E;cases E
    | some m=>rw [hmi] at E;injection E with E;subst E;exact A7.norefs
  .rw [θ e,hd] at E
   split at E
   .cases E
   .rename_i e3
    obtain ⟨o2,U,S⟩:=c1 _ _ _ E;obtain ⟨o3,R,Y⟩:=a1 _ _ _ U;exact .inr ⟨λl=>e l.1,λl=>e3 l.1,o3,R,λw O a v l=>S.1 _ _ _ _ (Y.1 _ _ _ _ l),λhr=>RU (S.2.1 _ _ hr) Z⟩
 .have e1:W≠A:=λe=>by
   subst e;rw [Fq Q] at E
   cases hmi:M i with
   | none=>rw [hmi] at E;cases E
   | some m=>rw [hmi] at E;injection E with E;exact A7.notBlk E
  obtain ⟨o2,U,S⟩:=a2 _ _ _ E;obtain ⟨cs2,rfl⟩:=S.2.2.1 _ _ rfl;obtain ⟨o3,R,Y⟩:=c2 _ _ _ U;obtain ⟨cs3,rfl⟩:=Y.2.2.1 _ _ rfl;refine ⟨cs3,?_⟩;rw [J,θ e1,hd,θ]
  .exact R
  .rintro rfl
   have:i=0:=by
    unfold dr at E;rw [H] at E
    match i,E with
    | 0,_=>rfl
    | i+1,E=>cases E
   exact I ⟨Z,this⟩
 .by_cases e:W=A
  .subst e
   by_cases X:i=b
   .subst X;rw [Fq Q,N] at E;cases E
   .exact ⟨o,by rw [J,ϱ Z,Ft X,<-Fq Q];exact E⟩
  .obtain ⟨o2,U,S⟩:=a2 _ _ _ E;obtain ⟨o3,R,Y⟩:=c2 _ _ _ U;refine ⟨o3,?_⟩;rw [J,θ e,hd,θ]
   .exact R
   .rintro rfl
    have:i=0:=by
     unfold dr at E;rw [H] at E
     match i,E with
     | 0,_=>rfl
     | i+1,E=>cases E
    exact I ⟨Z,this⟩
 .rcases LR ha with ⟨rfl,rfl⟩ | ⟨_,ha⟩
  .have hr:=P.env t _ ht
   generalize c.tmps.getD t undef=x at hr
   cases hr with
   | @ptr _ _ _ b' G=>
    rw [K] at G;injection G with G;injection G with G;injection G with G;subst G
    exact ⟨.d (.raw Z),λl=>by cases l⟩
  .rcases BR hE2 ha with rfl | ⟨h3,h4⟩
   .exact ⟨.top,λl=>by cases l⟩
   .rcases BR hE h3 with rfl | ⟨h5,_⟩
    .exact ⟨.top,λl=>by cases l⟩
    .exact ⟨P.env t' _ h5,h4 b⟩
 .refine ⟨Z,us,k1,by rw [k2,ψ],λj B u hc hu=>?_,k4⟩;have:=k3 j (.d B) u (by rw [η,hc];rfl) hu
  cases this with | d l=>exact l
variable {i:A7}
theorem A7.val (g:SR F s a c w) (j:eQ s.hp x=some [.multi M]) (h:M u=some i):B6 (a x u)=some u:=by
 have k:dr s.hp x u=some (i.at_ u):=by rw [Fq j,h];rfl
 have:=g.heap.sim x u _ k
 cases i with
 | cells _ _=>rw [this.1];rfl
 | row _ _ _ _=>rw [this.1];rfl
 | map _ _=>rw [this.1];rfl
def A7.v (i:Nat):A7 ->Value
 | .map _ _=> .map (some i)
 | _=>pV i 0
theorem A7.v_blk:B6 (i.v o)=some o:=by cases i<;>rfl
theorem A7.valE (g:SR F s a c w) (j:eQ s.hp x=some [.multi M]) (h:M u=some i):a x u=i.v u:=by
 have k:dr s.hp x u=some (i.at_ u):=by rw [Fq j,h];rfl
 have:=g.heap.sim x u _ k
 cases i with
 | cells _ _=>exact this.1
 | row _ _ _ _=>exact this.1
 | map _ _=>exact this.1
theorem sa {q:AI} (a:eQ A t=some [B]) (b:S9 B=true) (h:dr A t o=some q):o=0:=by grind [dr,Ky]
theorem bw {r:Hp} (R:t≠x) (G:eQ A t=some [B]) (Q:S9 B=true) (N:eQ A x=some [.multi M]) (S:M u=none) (hH:AT t A=some k) (T:AT x k=some z) (hh:CA t z=some y) (hm:B4 y x (BJ M u i)=some r):
  (∀l c C,dr r l c=some C ->(l=x/\c=u/\C=i.at_ u)\/(¬(l=x/\c=u)/\¬(l=t/\c=0)/\∃B,dr A l c=some B/\(∀w O P v,Ae w O P B v ->Ae w O P C v)/\¬C.Refs x u))/\dr r x u=some (i.at_ u)/\
  (∀l c a cs,dr A l c=some (.blk a cs) ->¬(l=t/\c=0) ->∃I,dr r l c=some (.blk a I))/\(∀l c B,dr A l c=some B ->¬(l=t/\c=0) ->∃C,dr r l c=some C):=by
 obtain ⟨a1,X⟩:=Ak hH;obtain ⟨c1,W⟩:=Ak T;have V:=Gm hh;have s:=Cx hm;refine ⟨λl c C j=>?_,by rw [s,ϱ Z,EB];rfl,λl c t' I j D=>?_,λl c B j D=>?_⟩
 .rw [s] at j
  by_cases e:l=x
  .subst e;rw [ϱ rfl] at j
   by_cases H:c=u
   .grind [EB]
   .rw [Ft H] at j;refine .inr ⟨λh=>H h.2,λh=>R h.1.symm,C,by rw [Fq N];exact j,λ_ _ _ _ h=>h,?_⟩
    cases hmi:M c with
    | none=>rw [hmi] at j;cases j
    | some i=>rw [hmi] at j;injection j with j;subst j;exact A7.norefs
  .rw [θ e,V] at j
   split at j
   .cases j
   .rename_i e3
    obtain ⟨U,F,E⟩:=c1 _ _ _ j;obtain ⟨L,K,J⟩:=a1 _ _ _ F;exact .inr ⟨λh=>e h.1,λh=>e3 h.1,L,K,λw O P v h=>E.1 _ _ _ _ (J.1 _ _ _ _ h),λY=>RU (E.2.1 _ _ Y) Z⟩
 .have e1:l≠x:=λe=>by
   subst e;rw [Fq N] at j
   cases hmi:M c with
   | none=>rw [hmi] at j;cases j
   | some i=>rw [hmi] at j;injection j with j;exact A7.notBlk j
  obtain ⟨U,F,E⟩:=X _ _ _ j;obtain ⟨cs2,rfl⟩:=E.2.2.1 _ _ rfl;obtain ⟨L,K,J⟩:=W _ _ _ F;obtain ⟨cs3,rfl⟩:=J.2.2.1 _ _ rfl
  grind [sa]
 .by_cases e:l=x
  .subst e
   by_cases H:c=u
   .subst H;rw [Fq N,S] at j;cases j
   .exact ⟨B,by rw [s,ϱ Z,Ft H,<-Fq N];exact j⟩
  .obtain ⟨U,F,E⟩:=X _ _ _ j;obtain ⟨L,K,J⟩:=W _ _ _ F;refine ⟨L,?_⟩;rw [s,θ e,V,θ]
   .exact K
   .rintro rfl;exact D ⟨Z,sa G Q j⟩
theorem H8 (z:SR F s a c w) {i:Nat} {v:Value} (A:AX t s.env=some h) (r:AX x h=some f) (y:c.tmps.getD i undef=v) (E:v.oneCell'=true):
  ∀l k,get ((i,.d (.raw v))::f) l=some k ->AR w (F.O a s.hp) a k (c.tmps.getD l undef)/\¬k.Refs x u:=λl k o=>by
 rcases LR o with ⟨rfl,rfl⟩ | ⟨_,o⟩
 .rw [y];exact ⟨.d (.raw E),λj=>by cases j⟩
 .rcases BR r o with rfl | ⟨D,C⟩
  .exact ⟨.top,λj=>by cases j⟩
  .rcases BR A D with rfl | ⟨B,_⟩
   .exact ⟨.top,λj=>by cases j⟩
   .exact ⟨z.env l _ B,C u⟩
theorem SR.absorbR (B:SR F s a c w) (t i l:Nat) {I n:Nat} {D:Nat ->Nat ->Hp} (hF:F.pn=g) (J:ed i g=false) (L:Nat.beq i l=false)
  (ht:get s.env t=some (.own i 0 n)) (hn:n=j.length) (hxs:j≠ []) (u:eQ s.hp i=some [.rowD T I j]) (G:eQ s.hp l=some [.multi M]) (hE:AX i s.env=some h) (O:AX l h=some f) (hH:AT i s.hp=some k) (N:AT l k=some z) (hh:CA i z=some y) (hm:∀b r,B4 y l (BJ M b (.row T I r j))=some (D b r)):
  ∃b r,M b=none/\j.length<=r/\SR F ⟨s.n,(t,.d (.raw (sV b n r)))::f,D b r⟩ (upd a l b (pV b 0)) c w:=by
 subst hn;have E:i≠l:=iB L;have K:dr s.hp i 0=some (.rowD T I j):=by unfold dr;rw [u];rfl
 obtain ⟨R,o,r,v,k1,k2,k3,Y,X⟩:=B.rowD K
 have C:0<j.length:=by
  grind
 obtain ⟨b,rfl,_⟩:=X C
 have A:M b=none:=by
  cases hmb:M b with
  | none=>rfl
  | some m=>
   have Q:dr s.hp l b=some (m.at_ b):=by rw [Fq G,hmb];rfl
   exact absurd (B.heap.inj i 0 l b _ _ b K Q (by rw [v];rfl) (A7.val B G hmb)).1 E
 obtain ⟨W,V,U,S⟩:=bw E u Z G A hH N hh (hm b r);refine ⟨b,r,A,Y.1,B.move i 0 l b K (by simp only [Fq G,A,jA]) (by rw [v];rfl) (J1 hF J) W V U S (H8 B hE O ?_ Z) ⟨Z,R,k1,k2,k3⟩⟩;have P:=B.env t _ ht
 generalize c.tmps.getD t undef=x at P⊢
 cases P with
 | own H Q=>
  rw [v] at H;injection H with H h3 h4;subst H h4;rfl
theorem SR.splitR (J:SR F s a c w) (t g l:Nat) {C n cap b:Nat} {hp':Hp} (U:Nat.beq g l=false)
  (ht:get s.env t=some (.d (.raw (sV b n cap)))) (hn:n=j.length) (H:eQ s.hp l=some [.multi M]) (V:M b=some (.row T C cap j)) (hE:AX g s.env=some f) (hH:AT g s.hp=some k) (hz:eQ k g=none) (hm:B4 k l (E2 M b)=some hp'):
  SR F ⟨s.n,(t,.own g 0 n)::f,(g,[.rowD T C j])::hp'⟩ (upd a g 0 (sV b n cap)) c w:=by
 subst hn;have hgf:g≠l:=iB U;obtain ⟨S,us,k1,k2,k3⟩:=J.rowN H V;obtain ⟨a1,a2⟩:=Ak hH;have B:=Cx hm
 have G:∀i,dr s.hp g i=none:=λi=>by
  cases u:dr s.hp g i with
  | none=>rfl
  | some o=>
   grind [dr]
 have y:∀z i,dr ((g,[.rowD T C j])::hp') z i=if z=g then [AI.rowD T C j][i]? else dr hp' z i:=λz i=>by
  by_cases e:z=g
  .subst e;rw [ϱ rfl];simp only [dr,eQ,gh,i7,Ky (o:= .rowD T C j) rfl]
  grind [dr,eQ,HV]
 have A:=J.move l b g 0 (o1:= .nr b T C cap j) (o2:= .rowD T C j) (v2:=sV b j.length cap) (env':=f) (hp':=(g,[.rowD T C j])::hp') (by rw [Fq H,V];rfl) (G 0) (by rw [S];rfl) (by
  cases K:F.pin l b with
  | none=>rfl
  | some b'=>
   obtain ⟨_,I,X,h⟩:=J.heap.pins l b b' K
   rw [Fq H,V] at h;injection h with h;cases h)
  (λz i o' u=>by
   rw [y] at u
   split at u
   .rename_i e
    subst e
    match i,u with
    | 0,u=>injection u with u;exact .inl ⟨Z,Z,u.symm⟩
    | i+1,u=>cases u
   .rename_i e
    rw [B] at u
    split at u
    .rename_i E
     subst E
     by_cases N:i=b
     .subst N;rw [Pb] at u;cases u
     .rw [Gd N] at u;refine .inr ⟨λh=>e h.1,λh=>N h.2,o',by rw [Fq H];exact u,λ_ _ _ _ h=>h,?_⟩
      cases hmi:M i with
      | none=>rw [hmi] at u;cases u
      | some m=>rw [hmi] at u;injection u with u;subst u;exact A7.norefs
    .rename_i E
     obtain ⟨o3,q3,Y⟩:=a1 _ _ _ u
     exact .inr ⟨λh=>e h.1,λh=>E h.1,o3,q3,λw O a v h=>Y.1 _ _ _ _ h,λP=>RU (Y.2.1 _ _ P) Z⟩)
  (by rw [y,ϱ rfl];rfl)
  (λz i I X u D=>by
   have Q:z≠l:=λe=>by
    subst e;rw [Fq H] at u
    cases hmi:M i with
    | none=>rw [hmi] at u;cases u
    | some m=>rw [hmi] at u;injection u with u;exact A7.notBlk u
   have E:z≠g:=λe=>by subst e;rw [G] at u;cases u
   obtain ⟨o2,R,q2⟩:=a2 _ _ _ u;obtain ⟨W,rfl⟩:=q2.2.2.1 _ _ rfl
   exact ⟨W,by rw [y,θ E,B,θ Q];exact R⟩)
  (λz i o u D=>by
   have E:z≠g:=λe=>by subst e;rw [G] at u;cases u
   by_cases Q:z=l
   .subst Q;have N:i≠b:=λe=>D ⟨Z,e⟩;exact ⟨o,by rw [y,θ E,B,ϱ Z,Gd N,<-Fq H];exact u⟩
   .obtain ⟨o2,R,q2⟩:=a2 _ _ _ u
    exact ⟨o2,by rw [y,θ E,B,θ Q];exact R⟩)
  (λI r L=>by
   rcases BR hE L with rfl | ⟨h3,h4⟩
   .exact ⟨.top,λh=>by cases h⟩
   .exact ⟨J.env I _ h3,h4 0⟩)
  ⟨us,k1,k2,k3⟩
 refine ⟨A.size,A.defs,λI r L=>?_,A.heap⟩;rcases LR L with ⟨rfl,rfl⟩ | ⟨_,L⟩
 .have P:=J.env t _ ht
  generalize c.tmps.getD t undef=x at P⊢
  cases P with
  | d h=>cases h with | raw _=>exact .own Oq (ϖ _)
 .exact A.env I r L
section
variable {P:Program} {F:Fr} {Q:Exit ->AS ->Prop} {c:Code} {ops:Array Oper} {l:List Oper} {n:Nat} {env env1 env':List (Nat×AV)} {hp hp1 hp2 hp3:Hp}
variable {a:List Nat} {T:TypeId} {f:Nat ->Hp} {g:List AV} {M:MF}
theorem XX (t i j:Nat) {ds:List D} (I:F.pn=a) (r:ed i a=false) (s:Nat.beq i j=false) (z:get env t=some (.ptr i 0 0)) (k:eQ hp i=some [.blk T g]) (u:g=ds.map .d) (G:eQ hp j=some [.multi M]) (J:AX i env=some env1) (x:AX j env1=some env') (H:AT i hp=some hp1) (v:AT j hp1=some hp2) (C:CA i hp2=some hp3) (B:∀b,B4 hp3 j (BJ M b (.cells T ds))=some (f b))
  (h:∀b,M b=none ->Bl P F c Q ⟨n,(t,.d (pD b 0))::env',f b⟩):Bl P F c Q ⟨n,env,hp⟩:=λK y w A=>by
 obtain ⟨b,E,o⟩:=A.absorb t i j I r s z k u G J x H v C B;exact h b E _ y w o
theorem ba (t i j:Nat) {ds:List D} (I:F.pn=a) (r:ed i a=false) (s:Nat.beq i j=false) (z:get env t=some (.ptr i 0 0)) (k:eQ hp i=some [.blk T g]) (u:g=ds.map .d) (G:eQ hp j=some [.multi M]) (J:AX i env=some env1) (x:AX j env1=some env') (H:AT i hp=some hp1) (v:AT j hp1=some hp2) (C:CA i hp2=some hp3) (B:∀b,B4 hp3 j (BJ M b (.cells T ds))=some (f b))
  (h:∀b,M b=none ->A8 P F ops l Q ⟨n,(t,.d (pD b 0))::env',f b⟩):A8 P F ops l Q ⟨n,env,hp⟩:=λK y w A=>by
 obtain ⟨b,E,o⟩:=A.absorb t i j I r s z k u G J x H v C B;exact h b E _ y w o
theorem Ei (t g f:Nat) {A m:Nat} {j:List D} {k:Nat ->Nat ->Hp} (N:F.pn=a) (u:ed g a=false) (v:Nat.beq g f=false) (B:get env t=some (.own g 0 m)) (E:m=j.length) (r:j≠ []) (o:eQ hp g=some [.rowD T A j]) (K:eQ hp f=some [.multi M]) (O:AX g env=some env1) (y:AX f env1=some env') (L:AT g hp=some hp1) (x:AT f hp1=some hp2) (H:CA g hp2=some hp3) (G:∀b i,B4 hp3 f (BJ M b (.row T A i j))=some (k b i))
  (h:∀b i,M b=none ->j.length<=i ->A8 P F ops l Q ⟨n,(t,.d (.raw (sV b m i)))::env',k b i⟩):A8 P F ops l Q ⟨n,env,hp⟩:=λR z w C=>by
 obtain ⟨b,i,J,I,s⟩:=C.absorbR t g f N u v B E r o K O y L x H G;exact h b i J I _ z w s
theorem Fc (f:Nat) (K:AX f env=some env') (J:AT f hp=some hp1) (C:eQ hp1 f=none) (h:Bl P F c Q ⟨n,env',(f,[.multi λ_=>none])::hp1⟩):Bl P F c Q ⟨n,env,hp⟩:=λu B w A=>by
 refine h u B w ?_;obtain ⟨G,E⟩:=Ak J
 have j:∀z i,dr ((f,[.multi λ_=>none])::hp1) z i=if z=f then none else dr hp1 z i:=λz i=>by
  by_cases e:z=f
  .subst e;rw [ϱ rfl];simp only [dr,eQ,gh,i7,gl,gV,jA]
  .rw [θ e];simp only [dr,eQ,HV (λh=>e h.symm)]
 have H:BP F ((f,[.multi λ_=>none])::hp1) u w:=A.heap.less (λg i x y=>by
  rw [j] at y
  split at y
  .cases y
  .obtain ⟨o,k,s⟩:=G _ _ _ y
   exact ⟨o,k,λw O v h=>s.1 _ _ _ _ h⟩) λg i o y=>by
  obtain ⟨x,k,s⟩:=E _ _ _ y
  have e:g≠f:=λe=>by
   subst e;unfold dr at k;rw [C] at k;cases k
  exact ⟨x,by rw [j,θ e];exact k,λt L e=>by subst e;exact s.2.2.1 _ _ Z⟩
 have D:F.O u ((f,[.multi λ_=>none])::hp1)=F.O u hp:=funext λb=>propext ⟨λh=>h.imp id λ⟨g,i,o,k,s⟩=>by
  rw [j] at k
  split at k
  .cases k
  .obtain ⟨x,r,_⟩:=G _ _ _ k
   exact ⟨g,i,x,r,s⟩,λh=>h.imp id λ⟨g,i,o,k,s⟩=>by
  obtain ⟨x,r,_⟩:=E _ _ _ k
  have e:g≠f:=λe=>by
   subst e;unfold dr at r;rw [C] at r;cases r
  exact ⟨g,i,x,by rw [j,θ e];exact r,s⟩⟩
 refine ⟨A.size,D▸A.defs,λt a I=>?_,H⟩;show AR w (F.O u ((f,[.multi λ_=>none])::hp1)) u a _;rw [D];rcases BR K I with rfl | ⟨r,_⟩
 .exact .top
 .exact A.env t a r
end
theorem SR.rawC {F:Fr} {s:AS} {B:Nat ->Nat ->Value} {z:Act} {w:World} (h:SR F s B z w) (g i l:Nat) {f j n N y:Nat} {a:Option Addr} {t:TypeId} {A o:List AV} {x:Hp} (G:dr s.hp g i=some (.blk t A)) (P:A[l]? =some (.own f j n)) (K:B f j= .slice a N y)
  (C:EE A l [.d (.raw (.slice a n y))]=some o) (r:BL s.hp g i (.blk t o)=some x):SR F ⟨s.n,s.env,x⟩ B z w:=by
 refine h.write g i (.blk t A) (.blk t o) G (Ai r) Z Z Z Z (λ_ _=>rfl) (λ_ _ _=>⟨_,_,Z⟩) λv=>?_;obtain ⟨b,H,U,T,S,R,Q⟩:=h.heap.sim g i _ G;obtain ⟨V,J,I⟩:=Cu _ _ _ _ C;refine ⟨b,H,U,T,by rw [S,J],λE c u k L=>?_,Q⟩;rw [I] at k
 split at k
 .rename_i O
  have D:E=l:=by simp at O;omega
  subst D
  simp at k;subst k
  have M:=R E _ u P L
  cases M with
  | own h _=>
   rw [K] at h;injection h with h1 h2 h3;subst h1 h3
   exact v _ _ (.d (.raw Z))
 grind
section
variable {P:Program} {F:Fr} {Q:Exit ->AS ->Prop} {c:Code} {ops:Array Oper} {l:List Oper} {n:Nat} {env env':List (Nat×AV)} {hp hp1:Hp}
end
section
variable {P:Program} {F:Fr} {s:AS} {d:Nat} {ty T:TypeId} {pos:String} {aft:Array Edge} {g:Option (Nat×Bool)} {x:Operand}
end
theorem SR.split {F:Fr} {s:AS} {U:Nat ->Nat ->Value} {I:Act} {w:World} (L:SR F s U I w) (t g f:Nat) {M:MF} {T:TypeId} {b:Nat} {A:List D} {env':List (Nat×AV)} {G hp':Hp} (X:Nat.beq g f=false)
  (ht:get s.env t=some (.d (pD b 0))) (J:eQ s.hp f=some [.multi M]) (Y:M b=some (.cells T A)) (hE:AX g s.env=some env') (hH:AT g s.hp=some G) (hz:eQ G g=none) (hm:B4 G f (E2 M b)=some hp'):
  SR F ⟨s.n,(t,.ptr g 0 0)::env',(g,[.blk T (A.map .d)])::hp'⟩ (upd U g 0 (pV b 0)) I w:=by
 have hgf:g≠f:=iB X;obtain ⟨W,us,k1,k2,k3,k4⟩:=L.cellsN J Y;obtain ⟨a1,a2⟩:=Ak hH;have z:=Cx hm
 have E:∀i,dr s.hp g i=none:=λi=>by
  cases k:dr s.hp g i with
  | none=>rfl
  | some o=>
   grind [dr]
 have l:∀r i,dr ((g,[.blk T (A.map .d)])::hp') r i=if r=g then [AI.blk T (A.map .d)][i]? else dr hp' r i:=λr i=>by
  by_cases e:r=g
  .subst e;rw [ϱ rfl];simp only [dr,eQ,gh,i7,Ky (o:= .blk T (A.map .d)) rfl]
  grind [dr,eQ,HV]
 have y:=L.move f b g 0 (o1:= .nb b T A) (o2:= .blk T (A.map .d)) (v2:=pV b 0) (env':=env') (hp':=(g,[.blk T (A.map .d)])::hp') (by rw [Fq J,Y];rfl) (E 0) (by rw [W]) (by
  cases N:F.pin f b with
  | none=>rfl
  | some b'=>
   obtain ⟨_,K,cs',h⟩:=L.heap.pins f b b' N
   rw [Fq J,Y] at h;injection h with h;cases h)
  (λr i o' k=>by
   rw [l] at k
   split at k
   .rename_i e
    subst e
    match i,k with
    | 0,k=>injection k with k;exact .inl ⟨Z,Z,k.symm⟩
    | i+1,k=>cases k
   .rename_i e
    rw [z] at k
    split at k
    .rename_i C
     subst C
     by_cases Q:i=b
     .subst Q;rw [Pb] at k;cases k
     .rw [Gd Q] at k;refine .inr ⟨λh=>e h.1,λh=>Q h.2,o',by rw [Fq J];exact k,λ_ _ _ _ h=>h,?_⟩
      cases hmi:M i with
      | none=>rw [hmi] at k;cases k
      | some m=>rw [hmi] at k;injection k with k;subst k;exact A7.norefs
    .rename_i C
     obtain ⟨o3,q3,q4⟩:=a1 _ _ _ k
     exact .inr ⟨λh=>e h.1,λh=>C h.1,o3,q3,λw O U v h=>q4.1 _ _ _ _ h,λR=>RU (q4.2.1 _ _ R) Z⟩)
  (by rw [l,ϱ rfl];rfl)
  (λr i K cs' k B=>by
   have S:r≠f:=λe=>by
    subst e;rw [Fq J] at k
    cases hmi:M i with
    | none=>rw [hmi] at k;cases k
    | some m=>rw [hmi] at k;injection k with k;exact A7.notBlk k
   have C:r≠g:=λe=>by subst e;rw [E] at k;cases k
   obtain ⟨o2,V,q2⟩:=a2 _ _ _ k;obtain ⟨cs2,rfl⟩:=q2.2.2.1 _ _ rfl
   exact ⟨cs2,by rw [l,θ C,z,θ S];exact V⟩)
  (λr i o k B=>by
   have C:r≠g:=λe=>by subst e;rw [E] at k;cases k
   by_cases S:r=f
   .subst S;have Q:i≠b:=λe=>B ⟨Z,e⟩;exact ⟨o,by rw [l,θ C,z,ϱ Z,Gd Q,<-Fq J];exact k⟩
   .obtain ⟨o2,V,q2⟩:=a2 _ _ _ k
    exact ⟨o2,by rw [l,θ C,z,θ S];exact V⟩)
  (λK a P=>by
   rcases BR hE P with rfl | ⟨h3,h4⟩
   .exact ⟨.top,λh=>by cases h⟩
   .exact ⟨L.env K _ h3,h4 0⟩)
  ⟨b,us,Z,k1,by rw [ψ];exact k2,λj c u H hu=>by
   rw [η] at H
   cases hj:A[j]? with
   | none=>rw [hj] at H;cases H
   | some d=>
    rw [hj] at H;injection H with H;subst H
    exact .d (k3 j d u hj hu),k4⟩
 refine ⟨y.size,y.defs,λK a P=>?_,y.heap⟩;rcases LR P with ⟨rfl,rfl⟩ | ⟨_,P⟩
 .have R:=L.env t _ ht
  generalize I.tmps.getD t undef=x at R⊢
  cases R with
  | d h=>cases h with | raw _=>exact .ptr Oq
 .exact y.env K a P
section
variable {P:Program} {F:Fr} {Q:Exit ->AS ->Prop} {c:Code} {n:Nat} {env env1 env':List (Nat×AV)} {hp hp1:Hp}
variable {T:TypeId} {M:MF}
theorem mB (t g f:Nat) {b:Nat} {k:List D} {a:Hp} (i:Nat.beq g f=false) (o:get env t=some (.d (pD b 0))) (v:eQ hp f=some [.multi M]) (u:M b=some (.cells T k)) (y:AX g env=some env') (x:AT g hp=some hp1) (l:eQ hp1 g=none) (s:B4 hp1 f (E2 M b)=some a)
  (h:Bl P F c Q ⟨n,(t,.ptr g 0 0)::env',(g,[.blk T (k.map .d)])::a⟩):Bl P F c Q ⟨n,env,hp⟩:=λz j w r=>h _ j w (r.split t g f i o v u y x l s)
theorem Vh (t g f g0 E:Nat) {t0:TypeId} {I m:Nat} {y:List D} {cs:List AV} {pn:List Nat} {U:Nat ->Nat ->List AV} {s hp1 L K N:Nat ->Nat ->Hp} (hF:F.pn=pn) (hpn:ed g pn=false) (hne:Nat.beq g f=false) (ht:get env t=some (.own g 0 m)) (hn:m=y.length) (hxs:y≠ [])
  (ho:dr hp g0 0=some (.blk t0 cs)) (hc:cs[E]? =some (.own g 0 m)) (hs':∀b l,EE cs E [.d (.raw (sV b m l))]=some (U b l)) (B:∀b l,BL hp g0 0 (.blk t0 (U b l))=some (s b l))
  (O:dr hp g 0=some (.rowD T I y)) (v:∀b l,eQ (s b l) g=some [.rowD T I y]) (X:∀b l,eQ (s b l) f=some [.multi M]) (hE:AX g env=some env1) (hE2:AX f env1=some env') (hH:∀b l,AT g (s b l)=some (hp1 b l)) (hH2:∀b l,AT f (hp1 b l)=some (L b l)) (hh:∀b l,CA g (L b l)=some (K b l)) (hm:∀b l,B4 (K b l) f (BJ M b (.row T I l y))=some (N b l))
  (h:∀b l,M b=none ->y.length<=l ->Bl P F c Q ⟨n,(t,.d (.raw (sV b m l)))::env',N b l⟩):Bl P F c Q ⟨n,env,hp⟩:=λρ V w hs=>by
 subst hn;obtain ⟨us,a,k,z,k1,Y,k3,k4,k5⟩:=hs.rowD O
 have J:0<y.length:=by
  cases y with
  | nil=>exact absurd Z hxs
  | cons _ _=>simp
 obtain ⟨r,rfl,_⟩:=k5 J;have A:=hs.rawC g0 0 E ho hc z (hs' r k) (B r k)
 -- the row's new place is told for every place; here it is b0
 have R:g≠f:=iB hne
 have H:M r=none:=by
  cases hmb:M r with
  | none=>rfl
  | some m=>
   have S:dr (s r k) f r=some (m.at_ r):=by rw [Fq (X r k),hmb];rfl
   have G:dr (s r k) g 0=some (.rowD T I y):=by unfold dr;rw [v];rfl
   exact absurd (A.heap.inj g 0 f r _ _ r G S (by rw [z];rfl) (A7.val A (X r k) hmb)).1 R
 have G:dr (s r k) g 0=some (.rowD T I y):=by unfold dr;rw [v];rfl
 obtain ⟨m1,m2,m3,m4⟩:=bw R (v r k) Z (X r k) H (hH r k) (hH2 r k) (hh r k) (hm r k);refine h r k H k4.1 _ V w (A.move g 0 f r G (by simp only [Fq (X r k),H,jA]) (by rw [z];rfl) (J1 hF hpn) m1 m2 m3 m4 (H8 A hE hE2 ?_ Z) ⟨Z,us,k1,⟨Y.1,Y.2.1,λi x hx j c hc=>?_⟩,k3⟩)
 .have W:=hs.env t _ ht
  generalize V.tmps.getD t undef=x at W⊢
  cases W with
  | own C S=>
   rw [z] at C;injection C with C h3 h4;subst C h4;rfl
 .obtain ⟨u,hu,hu1,W⟩:=Y.2.2 i x hx j c hc;refine ⟨u,hu,hu1,?_⟩
  have hO:∀b,F.O ρ (s r k) b ->F.O ρ hp b:=λb hb=>by
   rcases hb with hb | ⟨f',i',o,C,S⟩
   .exact .inl hb
   .refine .inr ?_;rw [Ai (B r k)] at C
    split at C
    .rename_i e;obtain ⟨rfl,rfl⟩:=e;exact ⟨_,_,_,ho,S⟩
    .exact ⟨_,_,_,C,S⟩
  exact W.mono (ϖ _) (λ_ _ _=>rfl) λb _=>hO b
end
end Go.Proofs.YteifpcnphnhaoaaGreat
namespace Go.Proofs.YteifpcnphnhaoaaGreat
open Go.RowKit Go.ChangeMaps
def od {α β:Type} [DecidableEq α] (m:List (α×β)) (a:α):List (α×β):=m.eraseIdx (fJ m a)
theorem Wg {b c:Type} (f:b ->c):∀(l:List b) (i:Nat),(l.eraseIdx i).map f=(l.map f).eraseIdx i
 | [],i=>by simp
 | a::l,0=>rfl
 | a::l,i+1=>by simp [Wg f l i]
section
variable {α β:Type} [DecidableEq α]
variable {P:Program} {F:Fr} {s:AS} {K:TypeId} {eK:α ->D} {kv:α ->Value} {eV:β ->D}
variable {ty T T2 E:TypeId} {pos:String} {aft:Array Edge} {g:Option (Nat×Bool)} {x y:Operand} {bs:Option (List Nat×Nat)}
omit [DecidableEq α] in
end
variable {a:Option (List Nat×Nat)} {c:List (D×D)} {f:Nat}
abbrev mV (b:Nat):Value:= .map (some b)
abbrev mD (b:Nat):D:= .raw (mV b)
theorem Nk {h:Hp} {g:Nat} {M:MF} (j:eQ h g=some [.multi M]) (i:M f=some (.map a c)):dr h g f=some (.nm f a c):=by rw [Fq j,i];rfl
theorem tW {w:World} {O:Nat ->Prop} {g:Nat ->Nat ->Value}:Ae w O g (.map a c) (mV f)↔Ae w O g (.nm f a c) (mV f):=by grind [Ae]
section
variable {α β:Type} [DecidableEq α]
variable {P:Program} {F:Fr} {s:AS} {K:TypeId} {eK:α ->D} {kv:α ->Value} {eV:β ->D}
variable {d:Nat} {ty T T2 E:TypeId} {pos:String} {aft:Array Edge} {g:Option (Nat×Bool)} {x y z:Operand} {bs:Option (List Nat×Nat)}
variable {a:List (D×D)} {c:List (Nat×AV)} {M:MF} {Q:Exit ->AS ->Prop} {f:Nat ->Nat ->Value} {h:Nat} {i:Array Oper} {j:Nat} {k:Act} {w:World} {o:Hp} {B:List Nat} {t:Hp} {u:Code} {A C:Nat}
theorem SR.mapVN (c:SR F s f k w) (h:s.ev x=some (.d (mD j))) (l:eQ s.hp A=some [.multi M]) (i:M j=some (.map bs a)):k.eval x=f A j:=
 (c.raw h).trans (A7.valE c l i).symm
theorem SA (m:List (α×β)) (a:α) (c v:β) {f:Nat} (o:s.ev x=some (.d (mD j))) (i:eQ s.hp f=some [.multi M]) (h:M j=some (.map bs (BK eK eV m))) (l:s.ev y=some (.d (eK a))) (w:B3 P T K E=true) (A:B7 P K eK kv) (k:Ca P E=some (.d (eV c))) (r:A1 m a c=v) (u:Nat.blt d s.n=true):
  AA P F ⟨some d,.lookup T x y false,ty,pos,aft,g⟩ s d (.d (eV v)):=
 SB m a c v (λ_ _ _ t=>t.mapVN o i h) (Nk i h) Z l w A k r u
theorem K4 (i:Nat) {f:Nat} {h:List (Nat×AV)} {k l:Hp} (u:s.ev x=some (.d (mD j))) (t:eQ s.hp f=some [.multi M]) (r:M j=some (.map (some (B,C)) a)) (o:Nat.beq f i=false) (D:B3 P T K E=true)
  (H:AX i s.env=some h) (G:AT i s.hp=some k) (w:CP k i (.iter f j C [])=some l) (A:Nat.blt d s.n=true):
  AH P F ⟨some d,.range T x,ty,pos,aft,g⟩ s ⟨s.n,(d,.ptr i 0 0)::h,l⟩ (B2 i):=
 PH i (λ_ _ _ v=>v.mapVN u t r) (Nk t r) Z o D H G w A
omit [DecidableEq α] in
theorem Q5 {l:List Oper} {o:Hp} (m:List (α×β)) {t:Nat} {seen:List Nat} (w:AS.ev ⟨h,c,o⟩ x=some (.ptr t 0 0)) (D:dr o t 0=some (.iter A j C seen)) (I:eQ o A=some [.multi M]) (H:M j=some (.map (some (B,C)) (BK eK eV m))) (G:Nat.blt d h=true)
  (L:Bi m B seen=[] ->A8 P F i l Q ⟨h,(d,.tup [.d (.raw (.bool false))])::c,o⟩)
  (J:∀(a u:Nat) (k:α) (v:β),m[a]? =some (k,v) ->B[a]? =some u ->B.Nodup ->(Bi m B seen).Perm ((k,v)::Bi m B (seen++ [u])) ->∃r,BL o t 0 (.iter A j C (seen++ [u]))=some r/\A8 P F i l Q ⟨h,(d,.tup [.d (.raw (.bool true)),.d (eK k),.d (eV v)])::c,r⟩):
  A8 P F i (⟨some d,.next x false,ty,pos,aft,none⟩::l) Q ⟨h,c,o⟩:=
 W4 m w D (Nk I H) Z G L J
omit [DecidableEq α] in
theorem K5 (m:List (α×β)) (a h:Nat) {k:α} {v:β} {i:Nat} {seen:List Nat} (l:s.ev x=some (.ptr i 0 0)) (r:dr s.hp i 0=some (.iter A j C (seen++ [h]))) (w:eQ s.hp A=some [.multi M]) (u:M j=some (.map (some (B,C)) (BK eK eV m))) (o:m[a]? =some (k,v)) (D:B[a]? =some h) (t:Nat.blt d s.n=true):
  AA P F ⟨some d,.entry x,ty,pos,aft,g⟩ s d (.tup [.d (eK k),.d (eV v)]):=
 PJ m a h l r (Nk w u) Z o D t
theorem SR.birthsN (v:SR F s f k w) (D:eQ s.hp A=some [.multi M]) (C:M j=some (.map bs a)):∃B c,B.length=a.length/\B.Nodup/\∀o,B4 s.hp A (BJ M j (.map (some (B,c)) a))=some o ->SR F ⟨s.n,s.env,o⟩ f k w:=by
 obtain ⟨W,t,c,r,S,H,R,G,Q,_⟩:=(v.heap.sim A j _ (Nk D C)).mapO rfl;have u:f A j=mV j:=A7.valE v D C;rw [u] at r;injection r with r;injection r with r;subst r
 refine ⟨t.toList.map (·.born),c,by simpa using H,G,λo N=>?_⟩;refine v.writeM A j D C N Z Z Z Z (λ_ _=>rfl) (by rw [u];rfl) λl=>(⟨u,t,c,S,H,λi e x O L=>?_,G,Q,λB X e=>by injection e with e;injection e with e1 e2;exact ⟨e1.symm,e2.symm⟩⟩);obtain ⟨V,U⟩:=R i e x O L;have J:=l (.d x.1) _ (.d V);have I:=l (.d x.2) _ (.d U);exact ⟨by cases J with | d h=>exact h,by cases I with | d h=>exact h⟩
theorem LQ (f b:Nat) {k:List Nat ->Nat ->Hp} (C:eQ t f=some [.multi M]) (A:M b=some (.map bs a)) (v:∀B j,B4 t f (BJ M b (.map (some (B,j)) a))=some (k B j)) (i:∀B j,B.length=a.length ->B.Nodup ->Bl P F u Q ⟨h,c,k B j⟩):Bl P F u Q ⟨h,c,t⟩:=λo l w r=>by
 obtain ⟨B,j,H,G,D⟩:=r.birthsN C A;exact i B j H G o l w (D _ (v B j))
theorem SR.hideN (u:SR F s f k w) (C:eQ s.hp A=some [.multi M]) (v:M j=some (.map bs a)) (J:B4 s.hp A (BJ M j (.map none a))=some o):SR F ⟨s.n,s.env,o⟩ f k w:=by
 obtain ⟨W,D,c,r,S,R,Q,O,N,_⟩:=(u.heap.sim A j _ (Nk C v)).mapO rfl;have t:f A j=mV j:=A7.valE u C v;rw [t] at r;injection r with r;injection r with r;subst r
 refine u.writeM A j C v J Z Z Z Z (λ_ _=>rfl) (by rw [t];rfl) λl=>(⟨t,D,c,S,R,λi e x L I=>?_,O,N,λB X e=>by cases e⟩);obtain ⟨V,U⟩:=Q i e x L I;have H:=l (.d x.1) _ (.d V);have G:=l (.d x.2) _ (.d U);exact ⟨by cases H with | d h=>exact h,by cases G with | d h=>exact h⟩
theorem mF (f b:Nat) (A:eQ t f=some [.multi M]) (v:M b=some (.map bs a)) (r:B4 t f (BJ M b (.map none a))=some o) (i:Bl P F u Q ⟨h,c,o⟩):Bl P F u Q ⟨h,c,t⟩:=λk j w l=>i k j w (l.hideN A v r)
theorem cj {l:List Oper} (f b:Nat) (B:eQ t f=some [.multi M]) (A:M b=some (.map bs a)) (v:B4 t f (BJ M b (.map none a))=some o) (j:A8 P F i l Q ⟨h,c,o⟩):A8 P F i l Q ⟨h,c,t⟩:=λr k w u=>j r k w (u.hideN B A v)
theorem Mf (m:List (α×β)) (a:α) (b:β) {f r:Nat} (hx:AS.ev ⟨h,c,t⟩ x=some (.d (mD r))) (W:eQ t f=some [.multi M]) (V:M r=some (.map bs (BK eK eV m))) (hy:AS.ev ⟨h,c,t⟩ y=some (.d (eK a))) (hT:B3 P T K E=true) (B:B7 P K eK kv) (hz:AS.ev ⟨h,c,t⟩ z=some (.d (eV b)))
  (hh:B4 t f (BJ M r (.map none (BK eK eV (BA m a b))))=some o):AH P F ⟨none,.mapUpdate T x y z,ty,pos,aft,g⟩ ⟨h,c,t⟩ ⟨h,c,o⟩ (λ_ _=>true):=λJ A w C=>by
 obtain ⟨U,H,l,e1,G,O,Y,X,h4,h5,h6⟩:=C.mapAt0 (C.mapVN hx W V) (Nk W V) rfl;have hv:J f r=mV r:=A7.valE C W V;have em:U=r:=by rw [hv] at G;injection G with G;injection G with G;exact G.symm
 subst em;have hk:A.eval y=kv a:=(C.repD hy).val (B.val a);have hkr:AN w (F.O J t) (eK a) (kv a):=hk▸C.repD hy;have hvr:=C.ev hz
 have Q:∀u R,(execOp A.eval ⟨none,.mapUpdate T x y z,ty,pos,aft,g⟩).run P w= .ok .skip (setBlock w U (.map u R)) ->((fJ m a=m.length/\u=H.push {key:=kv a,val:=A.eval z,born:=l}/\R=l+1)\/∃e,H[fJ m a]? =some e/\fJ m a<m.length/\u=(H.modify (fJ m a) λe=>{e with key:=kv a,val:=A.eval z})/\R=l)→
   (⟨none,.mapUpdate T x y z,ty,pos,aft,g⟩:Oper).wp P A w (λS w'=>∃I,SR F ⟨h,c,o⟩ I S w'/\∀f i,(λ_ _=>true) f i=true ->I f i=J f i) (λ_ _ _=>False):=λu R L D=>by
  unfold Oper.wp;rw [L];refine ⟨J,C.writeM f U W V hh Z Z Z nU (λb' hb'=>qZ hb') (by rw [hv];rfl) λv=>?_,λ_ _ _=>rfl⟩;rw [G]
  have N:AN (setBlock w U (.map u R)) (F.O J o) (eK a) (kv a):=by
   have:=v (.d (eK a)) _ (.d hkr)
   cases this with | d k=>exact k
  exact tW.1 (G7 (bs:=none) B Y X h4 h5 (λ_ _ e=>by cases e) v (by have:=v _ _ hvr;cases this with | d k=>exact k) N D (tC O))
 rcases fY B Y X a b with ⟨g1,_,_,g4⟩ | ⟨j,e,g1,g2,g3,_,g5,g6,_⟩
 .refine Q _ _ ?_ (.inl ⟨g4,Z,Z⟩)
  simp [execOp,Instr.mapUpdate,run_underlying (Vj hT),e1,hk,MapKept.run_getObj_map O,B.check,B.find w a _ _ (XS B Y X),g1,Result.andThen,MapKept.run_setObj_map _ O,setBlock]
 .refine Q _ _ ?_ (.inr ⟨e,by rw [g5];exact g2,by rw [g5];exact g6,Z,Z⟩)
  simp [execOp,Instr.mapUpdate,run_underlying (Vj hT),e1,hk,MapKept.run_getObj_map O,B.check,B.find w a _ _ (XS B Y X),g1,g2,g3,g5,Result.andThen,MapKept.run_setObj_map _ O,setBlock,B.stays]
end
theorem SR.absorbM {F:Fr} {s:AS} {O:Nat ->Nat ->Value} {l:Act} {w:World} (o:SR F s O l w) (t g f:Nat) {M:MF} {L:Option (List Nat×Nat)} {K:List (D×D)} {P:List Nat} {h i:List (Nat×AV)} {y v u:Hp} {z:Nat ->Hp} (hF:F.pn=P) (E:ed g P=false) (H:Nat.beq g f=false)
  (W:get s.env t=some (.map g 0)) (a:eQ s.hp g=some [.map L K]) (B:eQ s.hp f=some [.multi M]) (hE:AX g s.env=some h) (J:AX f h=some i) (hH:AT g s.hp=some y) (I:AT f y=some v) (Y:CA g v=some u) (X:∀b,B4 u f (BJ M b (.map L K))=some (z b)):
  ∃b,M b=none/\SR F ⟨s.n,(t,.d (mD b))::i,z b⟩ (upd O f b (mV b)) l w:=by
 have A:g≠f:=iB H;have G:dr s.hp g 0=some (.map L K):=by unfold dr;rw [a];rfl
 have C:=o.heap.sim g 0 _ G;obtain ⟨b,N,c,j,V⟩:=C
 have k:M b=none:=by
  cases hmb:M b with
  | none=>rfl
  | some m=>
   have h2:dr s.hp f b=some (m.at_ b):=by rw [Fq B,hmb];rfl
   exact absurd (o.heap.inj g 0 f b _ _ b G h2 (by rw [j];rfl) (A7.val o B hmb)).1 A
 obtain ⟨U,T,S,R⟩:=bw A a Z B k hH I Y (X b);refine ⟨b,k,o.move g 0 f b G (by simp only [Fq B,k,jA]) (by rw [j]) (J1 hF E) U T S R (H8 o hE J ?_ Z) ⟨Z,N,c,V⟩⟩;have Q:=o.env t _ W
 generalize l.tmps.getD t undef=x at Q⊢
 cases Q with
 | map r=>rw [j] at r;injection r with r;injection r with r;subst r;rfl
section
variable {P:Program} {F:Fr} {Q:Exit ->AS ->Prop} {c:Code} {ops:Array Oper} {l:List Oper} {n:Nat} {env env1 env':List (Nat×AV)} {hp hp1 hp2 hp3:Hp}
theorem Ko (t g f:Nat) {M:MF} {y:Option (List Nat×Nat)} {x:List (D×D)} {v:List Nat} {a:Nat ->Hp} (I:F.pn=v) (k:ed g v=false) (o:Nat.beq g f=false) (z:get env t=some (.map g 0)) (i:eQ hp g=some [.map y x]) (G:eQ hp f=some [.multi M]) (J:AX g env=some env1) (s:AX f env1=some env') (H:AT g hp=some hp1) (r:AT f hp1=some hp2) (C:CA g hp2=some hp3) (B:∀b,B4 hp3 f (BJ M b (.map y x))=some (a b))
  (h:∀b,M b=none ->A8 P F ops l Q ⟨n,(t,.d (mD b))::env',a b⟩):A8 P F ops l Q ⟨n,env,hp⟩:=λK u w A=>by
 obtain ⟨b,E,j⟩:=A.absorbM t g f I k o z i G J s H r C B;exact h b E _ u w j
end
end Go.Proofs.YteifpcnphnhaoaaGreat
namespace Go.Proofs.YteifpcnphnhaoaaGreat
open Go.RowKit
variable {a:Nat} {c:A7} {M N:MF}
def fF (M N:MF):MF:=λi=>match M i with
 | some m=>some m
 | none=>N i
theorem Hg (h:M a=some c):fF M N a=some c:=by unfold fF;rw [h]
theorem Jf (f:M a=none) (h:N a=some c):fF M N a=some c:=by unfold fF;rw [f];exact h
theorem SR.merge {F:Fr} {s:AS} {D:Nat ->Nat ->Value} {act:Act} {w:World} (x:SR F s D act w) (g f:Nat) {env1 env':List (Nat×AV)} {hp1 hp2 hp3 A:Hp} (hne:Nat.beq g f=false)
  (hM:eQ s.hp f=some [.multi M]) (hN:eQ s.hp g=some [.multi N]) (hE:AX g s.env=some env1) (hE2:AX f env1=some env') (hH:AT g s.hp=some hp1) (hH2:AT f hp1=some hp2) (hh:CA g hp2=some hp3) (hm:B4 hp3 f (fF M N)=some A):
  (∀i m m',M i=some m ->N i=some m' ->False)/\∃z,SR F ⟨s.n,env',A⟩ z act w:=by
 have hgf:g≠f:=iB hne
 have K:∀i m,M i=some m ->dr s.hp f i=some (m.at_ i)/\D f i=m.v i:=λi m h=>⟨by rw [Fq hM,h];rfl,A7.valE x hM h⟩
 have J:∀i m,N i=some m ->dr s.hp g i=some (m.at_ i)/\D g i=m.v i:=λi m h=>⟨by rw [Fq hN,h];rfl,A7.valE x hN h⟩
 have hdis:∀i m m',M i=some m ->N i=some m' ->False:=λi m m' C Y=>by
  obtain ⟨y,G⟩:=K i m C;obtain ⟨e3,e4⟩:=J i m' Y;exact hgf (x.heap.inj g i f i _ _ i e3 y (by rw [e4];exact A7.v_blk) (by rw [G];exact A7.v_blk)).1
 have hMi:∀i o,dr s.hp f i=some o ->∃m,M i=some m/\o=m.at_ i:=λi o h=>by
  rw [Fq hM] at h
  cases hm:M i with
  | none=>rw [hm] at h;cases h
  | some m=>rw [hm] at h;injection h with h;exact ⟨m,Z,h.symm⟩
 have hNi:∀i o,dr s.hp g i=some o ->∃m,N i=some m/\o=m.at_ i:=λi o h=>by
  rw [Fq hN] at h
  cases hm:N i with
  | none=>rw [hm] at h;cases h
  | some m=>rw [hm] at h;injection h with h;exact ⟨m,Z,h.symm⟩
 obtain ⟨a1,a2⟩:=Ak hH;obtain ⟨c1,c2⟩:=Ak hH2;have hd:=Gm hh;have X:=Cx hm
 obtain ⟨T,hvl⟩:∃T:Nat ->Value,T=λi=>((fF M N i).map (A7.v i)).getD (pV i 0):=⟨_,Z⟩
 have hvb:∀i,B6 (T i)=some i:=λi=>by
  rw [hvl];show B6 (((fF M N i).map (A7.v i)).getD (pV i 0))=some i
  cases fF M N i with
  | none=>rfl
  | some m=>exact A7.v_blk
 have hvM:∀i m,M i=some m ->T i=m.v i:=λi m h=>by rw [hvl];show ((fF M N i).map (A7.v i)).getD (pV i 0)=_;rw [Hg h];rfl
 have hvN:∀i m,N i=some m ->T i=m.v i:=λi m h=>by
  grind [fF]
 refine ⟨hdis,λc i=>if c=f then T i else D c i,?_⟩
 obtain ⟨z,P⟩:∃z:Nat ->Nat ->Value,z=λc i=>if c=f then T i else D c i:=⟨_,Z⟩
 rw [<-P];have hf:∀i,z f i=T i:=λi=>by rw [P];exact ϱ rfl
 have S:∀c i,c≠f ->z c i=D c i:=λc i e=>by rw [P];exact θ e
 -- what lies in the new heap
 have B:∀c i I,dr A c i=some I ->(c=f/\∃m,I=m.at_ i/\((M i=some m)\/(N i=some m)))\/(c≠f/\c≠g/\∃o,dr s.hp c i=some o/\(∀w O D v,Ae w O D o v ->Ae w O D I v)/\∀j,¬I.Refs f j):=by
  intro c i I l;rw [X] at l
  by_cases e:c=f
  .subst e;rw [ϱ rfl] at l
   cases hmi:M i with
   | some m=>
    rw [Hg hmi] at l;injection l with l
    exact .inl ⟨Z,m,l.symm,.inl Z⟩
   | none=>
    cases hni:N i with
    | none=>
     have:fF M N i=none:=by unfold fF;rw [hmi];exact hni
     rw [this] at l;cases l
    | some m=>
     rw [Jf hmi hni] at l;injection l with l
     exact .inl ⟨Z,m,l.symm,.inr Z⟩
  .rw [θ e,hd] at l
   split at l
   .cases l
   .rename_i e3
    obtain ⟨o2,E,H⟩:=c1 _ _ _ l;obtain ⟨o3,q3,q4⟩:=a1 _ _ _ E;exact .inr ⟨e,e3,o3,q3,λw O D v h=>H.1 _ _ _ _ (q4.1 _ _ _ _ h),λj hr=>RU (H.2.1 _ _ hr) Z⟩
 have hold:∀c i o,dr s.hp c i=some o ->c≠f ->c≠g ->∃I,dr A c i=some I:=λc i o l y G=>by
  obtain ⟨o2,E,_⟩:=a2 _ _ _ l;obtain ⟨o3,q3,_⟩:=c2 _ _ _ E;exact ⟨o3,by rw [X,θ y,hd,θ G];exact q3⟩
 have R:∀i m,M i=some m\/N i=some m ->dr A f i=some (m.at_ i):=λi m h=>by
  rw [X,ϱ rfl];rcases h with h | h
  .rw [Hg h];rfl
  .cases hmi:M i with
   | some m'=>exact (hdis i _ _ hmi h).elim
   | none=>rw [Jf hmi h];rfl
 have Q:∀b,Am z A b↔Am D s.hp b:=λb=>by
  constructor
  .rintro ⟨c,i,I,l,k⟩;rcases B c i I l with ⟨rfl,m,rfl,h | h⟩ | ⟨y,G,o,C,_⟩
   .rw [hf,hvM i m h] at k;obtain ⟨E,H⟩:=K i m h;exact ⟨c,i,_,E,by rw [H];exact k⟩
   .rw [hf,hvN i m h] at k;obtain ⟨E,H⟩:=J i m h;exact ⟨g,i,_,E,by rw [H];exact k⟩
   .rw [S _ _ y] at k;exact ⟨c,i,o,C,k⟩
  .rintro ⟨c,i,o,l,k⟩
   by_cases y:c=f
   .subst y;obtain ⟨m,C,rfl⟩:=hMi i o l;exact ⟨c,i,_,R i m (.inl C),by rw [hf,hvM i m C];rw [(K i m C).2] at k;exact k⟩
   .by_cases G:c=g
    .subst G;obtain ⟨m,C,rfl⟩:=hNi i o l;exact ⟨f,i,_,R i m (.inr C),by rw [hf,hvN i m C];rw [(J i m C).2] at k;exact k⟩
    .obtain ⟨I,h3⟩:=hold c i o l y G;exact ⟨c,i,I,h3,by rw [S _ _ y];exact k⟩
 have hO:F.O z A=F.O D s.hp:=funext λb=>propext ⟨λh=>h.imp id (Q b).1,λh=>h.imp id (Q b).2⟩
 have hblk:∀c i t cs,dr A c i=some (.blk t cs) ->c≠f:=λc i t cs l e=>by
  rcases B c i _ l with ⟨_,m,y,_⟩ | ⟨y,_⟩
  .exact A7.notBlk y.symm
  .exact y e
 refine ⟨x.size,hO▸x.defs,λt a hta=>?_,?_⟩
 .show AR w (F.O z A) _ _ _;rw [hO];rcases BR hE2 hta with rfl | ⟨h3,h4⟩
  .exact .top
  .rcases BR hE h3 with rfl | ⟨h5,_⟩
   .exact .top
   .exact (x.env t _ h5).mono (ϖ _) (λ_ _ _=>rfl) (λ_ _ h=>h) λc i hr=>S c i λe=>h4 i (by rw [<-e];exact hr)
 .refine ⟨λc i I l=>?_,λf1 i1 f2 i2 o1 o2 b C Y u r=>?_,λb k=>x.heap.mine b ((Q b).1 k),x.heap.os,x.heap.tape,x.heap.output,x.heap.size0,x.heap.keep,λc i b hpin=>?_,x.heap.drawn⟩
  .show Ae w (F.O z A) _ _ _;rw [hO];rcases B c i I l with ⟨rfl,m,rfl,h⟩ | ⟨y,G,o,C,Y,h3⟩
   .rw [hf]
    have hsm:Ae w (F.O D s.hp) D (m.at_ i) (T i):=by
     rcases h with h | h
     .obtain ⟨E,H⟩:=K i m h;rw [hvM i m h,<-H];exact x.heap.sim _ _ _ E
     .obtain ⟨E,H⟩:=J i m h;rw [hvN i m h,<-H];exact x.heap.sim _ _ _ E
    exact hsm.mono (ϖ _) (λ_ _ _=>rfl) (λ_ _ h=>h) (λ_ _=>rfl) λf'' i' hr=>(A7.norefs hr).elim
   .rw [S _ _ y];exact (Y _ _ _ _ (x.heap.sim c i o C)).mono (ϖ _) (λ_ _ _=>rfl) (λ_ _ h=>h) (λ_ _=>rfl) λf'' i' hr=>S f'' i' λe=>h3 i' (by rw [<-e];exact hr)
  .rcases B f1 i1 o1 C with ⟨rfl,m1,rfl,W⟩ | ⟨y,e1',E,W,_⟩<;>rcases B f2 i2 o2 Y with ⟨rfl,m2,rfl,V⟩ | ⟨G,e2',H,V,_⟩
   .rw [hf,hvb] at u r;injection u with u;injection r with r
    exact ⟨Z,Eq.trans u r.symm⟩
   .rw [hf,hvb] at u;rw [S _ _ G] at r
    exfalso
    rcases W with W | W
    .obtain ⟨U,L⟩:=K i1 m1 W;exact G (x.heap.inj _ _ _ _ _ _ b V U r (by rw [L,A7.v_blk];exact u)).1
    .obtain ⟨U,L⟩:=J i1 m1 W;exact e2' (x.heap.inj _ _ _ _ _ _ b V U r (by rw [L,A7.v_blk];exact u)).1
   .rw [hf,hvb] at r;rw [S _ _ y] at u
    exfalso
    rcases V with V | V
    .obtain ⟨U,L⟩:=K i2 m2 V;exact y (x.heap.inj _ _ _ _ _ _ b W U u (by rw [L,A7.v_blk];exact r)).1
    .obtain ⟨U,L⟩:=J i2 m2 V;exact e1' (x.heap.inj _ _ _ _ _ _ b W U u (by rw [L,A7.v_blk];exact r)).1
   .rw [S _ _ y] at u;rw [S _ _ G] at r;exact x.heap.inj _ _ _ _ _ _ b W V u r
  .obtain ⟨U,t,cs,L⟩:=x.heap.pins c i b hpin;have y:c≠f:=λe=>by subst e;obtain ⟨m,_,Y⟩:=hMi i _ L;exact A7.notBlk Y.symm
   have G:c≠g:=λe=>by subst e;obtain ⟨m,_,Y⟩:=hNi i _ L;exact A7.notBlk Y.symm
   obtain ⟨o2,E,H⟩:=a2 _ _ _ L;obtain ⟨cs2,rfl⟩:=H.2.2.1 _ _ rfl;obtain ⟨o3,q3,q4⟩:=c2 _ _ _ E;obtain ⟨cs3,rfl⟩:=q4.2.2.1 _ _ rfl;exact ⟨by rw [S _ _ y];exact U,t,cs3,by rw [X,θ y,hd,θ G];exact q3⟩
section
variable {P:Program} {F:Fr} {Q:Exit ->AS ->Prop} {c:Code} {ops:Array Oper} {l:List Oper} {n:Nat} {env env1 env':List (Nat×AV)} {hp hp1 hp2 hp3 hp':Hp}
theorem mC (g f:Nat) {M N:MF} (j:Nat.beq g f=false) (z:eQ hp f=some [.multi M]) (y:eQ hp g=some [.multi N]) (B:AX g env=some env1) (o:AX f env1=some env') (A:AT g hp=some hp1) (k:AT f hp1=some hp2) (v:CA g hp2=some hp3) (u:B4 hp3 f (fF M N)=some hp')
  (h:(∀i m s,M i=some m ->N i=some s ->False) ->Bl P F c Q ⟨n,env',hp'⟩):Bl P F c Q ⟨n,env,hp⟩:=λC r w t=>by
 obtain ⟨x,a,b⟩:=t.merge g f j z y B o A k v u;exact h x a r w b
end
section
variable {P:Program} {F:Fr} {s:AS} {d:Nat} {ty T T' E:TypeId} {pos:String} {aft:Array Edge} {g:Option (Nat×Bool)} {at_:Array TypeId} {x:Operand}
variable {a:List Operand} {w:World} {c:Value} {f:List AV} {h:String} {i:FuncId} {j:Act}
def E9 (P:Program) (T:TypeId):Bool:=match P.underlying T with
 | some (.interface _)=>false
 | some _=>true
 | none=>false
theorem FY (h:E9 P T=true):(Instr.makeInterface T c).run P w= .ok (.iface T c) w:=by
 unfold E9 at h
 split at h
 .cases h
 .simp [*,Instr.makeInterface,run_underlying]
 .cases h
theorem G2 {f i:Nat} (r:E9 P T=true) (j:s.ev x=some (.ptr f i 0)) (o:Nat.blt d s.n=true):
  AA P F ⟨some d,.makeInterface T x,ty,pos,aft,g⟩ s d (.ifc T none f i):=
 Cd _ o λt a w l=>by
  have c:=l.ev j
  generalize k:a.eval x=v at c
  cases c with
  | @ptr _ _ _ b h=>exact ⟨.iface T (.pointer (some ⟨b,0,none⟩)),by simp [execOp,k,FY r],.ifc (nm:=none) h⟩
theorem Fg (i:E9 P T=true) (a:s.ev x=some (.d (.raw c))) (h:Nat.blt d s.n=true):
  AA P F ⟨some d,.makeInterface T x,ty,pos,aft,g⟩ s d (.d (.raw (.iface T c))):=
 Cd _ h λk j w b=>by
  have f:=b.raw a;exact ⟨.iface T c,by simp [execOp,f,FY i],.d (.raw Z)⟩
theorem Mk (h:E9 P T=true):(Instr.typeAssert (.iface T c) T' T false).run P w= .ok c w:=by
 unfold E9 at h
 split at h
 .cases h
 .simp [*,Instr.typeAssert,run_underlying]
 .cases h
theorem Mh (a:c.oneCell'=true) (j:E9 P T=true) (b:s.ev x=some (.d (.raw (.iface T c)))) (i:Nat.blt d s.n=true):
  AA P F ⟨some d,.typeAssert x T' T false,ty,pos,aft,g⟩ s d (.d (.raw c)):=
 Cd _ i λl k w f=>by
  have h:=f.raw b;exact ⟨c,by simp [execOp,h,Mk j],.d (.raw a)⟩
def JK (P:Program) (T:TypeId) (name:String) (f:FuncId):Prop:=∀(b:Nat) (w:World),(method (P.types.size+Made.depth) T (.pointer (some ⟨b,0,none⟩)) name).run P w= .ok (f,.pointer (some ⟨b,0,none⟩)) w
theorem Uk (v:JK P T h i) {l:Func} (A:P.funcs[i]? =some l) (k:(l.name== "runtime.NumGoroutine")=false) (r:l.body.isSome=true) {b:Nat} {o:Option Nat} (z:j.eval x= .iface T (.pointer (some ⟨b,0,none⟩))):
  (execOp j.eval ⟨o,.call {callee:= .invoke x h,args:=a.toArray,argTypes:=at_},ty,pos,aft,g⟩).run P w= .ok (.enter i (.pointer (some ⟨b,0,none⟩)::a.map j.eval).toArray) w:=by
 have y:¬l.body=none:=by intro c;rw [c] at r;cases r
 have t:¬l.name= "runtime.NumGoroutine" :=by simpa using k
 have u:=v b w
 simp [*,ς,execOp,resolve,invoke,callMethod,callFunc]
def Vg (s:AS) (x:Operand) (T:TypeId) (xs:List Operand):Option (List AV):=match s.ev x with
 | some (.ifc T' none f i)=>if Nat.beq T' T then (match KH s xs with
  | some l=>some (.ptr f i 0::l)
  | none=>none) else none
 | _=>none
theorem UB {u:Nat ->Nat ->Value} (z:SR F s u j w) (h:Vg s x T a=some f):
  ∃b:Nat,j.eval x= .iface T (.pointer (some ⟨b,0,none⟩))/\(Value.pointer (some ⟨b,0,none⟩)::a.map j.eval).length=f.length/\∀(i:Nat) o v,f[i]? =some o ->(Value.pointer (some ⟨b,0,none⟩)::a.map j.eval)[i]? =some v ->AR w (F.O u s.hp) u o v:=by
 unfold Vg at h
 split at h
 .rename_i I c i B
  split at h
  .rename_i y
   have y:=fx y;subst y
   split at h
   .rename_i l C
    injection h with h;subst h
    obtain ⟨G,H⟩:=CJ z C;have A:=z.ev B
    generalize j.eval x=v at A⊢
    cases A with
    | @ifc _ _ _ _ b D=>
     refine ⟨b,Z,by simp [G],λk o v t r=>?_⟩
     cases k with
     | zero=>
      rw [List.getElem?_cons_zero] at t r;injection t with t;injection r with r;subst t r
      exact .ptr D
     | succ k=>
      grind
   .cases h
  .cases h
 .cases h
theorem Dx {u B:Hp} {C:AV} (U:JK P T h i) (R:AJ P i f u λr O=>r=C/\O=B) (t:Vg s x T a=some f)
  (j:List Nat) (H:Bp s.hp u j) (I:AP j u=true) {c k:Hp} {l:List (Nat×AV)} (G:CE j s.hp=some c) (Y:B8 (B9 u j) s.env=some l) (X:Bv (B9 u j) c=some k)
  (L:AP j B=true) (K:FJ j B=true) (J:C.ok (I7 j)=true) (W:Nat.blt d s.n=true) {A:Hp} (o:some (B++k)=some A):
  AH P F ⟨some d,.call {callee:= .invoke x h,args:=a.toArray,argTypes:=at_},ty,pos,aft,g⟩ s ⟨s.n,(d,C)::l,A⟩ (B9 u j):=by
 injection o with o
 subst o;intro ρ act w Q;obtain ⟨fn,h1,h2,h3⟩:=R.1;obtain ⟨b,S,h4,Z⟩:=UB Q t;unfold Oper.wp;rw [Uk U h1 h2 h3 S,Oper.upon_enter];refine (El Q R h4 Z j H I G Y X (λr O ⟨N,M⟩=>by subst N M;exact ⟨L,K,J⟩)).mono λe w' ⟨v,r,O,y,N,⟨M,e3⟩,z,D,V⟩=>?_;subst N M e3;exact ⟨y,D.put (IB W) z,V⟩
end
end Go.Proofs.YteifpcnphnhaoaaGreat
namespace Go.Proofs.YteifpcnphnhaoaaGreat
variable {a:List Nat} {c:Nat ->List Nat} {K:Nat ->Nat} {g:List (List Nat)} {f i:Nat} {h:List (Nat×Nat)} {j:Option Nat} {k:Nat} {o:Type} {s:Nat} {w t u x:List Nat} {y:Nat} {z:List Nat} {A B C E:Nat}
def e9 (l:List Nat) (i:Nat):Nat:=l.getD i 0
theorem Ov (h:i<a.length):e9 a i=a[i]:=by simp [e9,h]
theorem bb (h:i<a.length):a[i]? =some (e9 a i):=by rw [Ov h,ω h]
theorem DZ (h:i<a.length):e9 a i∈a:=by rw [Ov h];exact ξ h
def LV (l:List Nat) (i j:Nat):List Nat:=(l.set i (e9 l j)).set j (e9 l i)
theorem Lt (l:List Nat) (i j:Nat):(LV l i j).length=l.length:=by simp [LV]
theorem J7 (b:i<a.length):e9 (a.set i C) E=if E=i then C else e9 a E:=by grind [e9]
theorem C3 (c:i<a.length) (b:k<a.length):e9 (LV a i k) E=if E=k then e9 a i else if E=i then e9 a k else e9 a E:=by grind [LV,J7]
theorem Ep (c:i<a.length) (b:k<a.length):(LV a i k).Perm a:=by grind [LV,Ov]
def ID (K:Nat ->Nat) (l:List Nat):Prop:=∀i,0<i ->i<l.length ->K (e9 l ((i - 1) / 2))<=K (e9 l i)
theorem ce (h:ID K a):∀i,i<a.length ->K (e9 a 0)<=K (e9 a i):=by
 intro i
 induction i using Nat.strongRecOn with
 | ind i b=>
  grind [ID]
def Rp (K:Nat ->Nat):Nat ->List Nat ->Nat ->List Nat
 | 0,l,_=>l
 | f+1,l,j=>if j=0 then l else if K (e9 l j)<K (e9 l ((j - 1) / 2)) then Rp K f (LV l ((j - 1) / 2) j) ((j - 1) / 2) else l
def OD (K:Nat ->Nat) (n:Nat):Nat ->List Nat ->Nat ->List Nat
 | 0,l,_=>l
 | f+1,l,i=>if n<=2*i+1 then l else
  let j:=if 2*i+2<n/\K (e9 l (2*i+2))<K (e9 l (2*i+1)) then 2*i+2 else 2*i+1
  if K (e9 l j)<K (e9 l i) then OD K n f (LV l i j) j else l
theorem Rn (K:Nat ->Nat):∀(f:Nat) (l:List Nat) (j:Nat),j<l.length ->(Rp K f l j).Perm l
 | 0,l,_,_=> .refl _
 | f+1,l,j,a=>by
  unfold Rp
  split
  .exact .refl _
  .split
   .exact (Rn K f _ _ (by rw [Lt];omega)).trans (Ep (by omega) a)
   .exact .refl _
theorem KK (K:Nat ->Nat) (n:Nat):∀(f:Nat) (l:List Nat) (i:Nat),i<l.length ->n<=l.length ->(OD K n f l i).Perm l
 | 0,l,_,_,_=> .refl _
 | f+1,l,i,b,a=>by
  unfold OD
  split
  .exact .refl _
  .dsimp only
   split
   .split
    .rename_i h g c;exact (KK K n f _ _ (by rw [Lt];omega) (by rw [Lt];exact a)).trans (Ep b (by omega))
    .exact .refl _
   .split
    .exact (KK K n f _ _ (by rw [Lt];omega) (by rw [Lt];exact a)).trans (Ep b (by omega))
    .exact .refl _
def tF (K:Nat ->Nat) (l:List Nat) (j:Nat):Prop:=
 (∀i,0<i ->i<l.length ->i≠j ->K (e9 l ((i - 1) / 2))<=K (e9 l i))/\(0<j ->∀i,0<i ->i<l.length ->(i - 1) / 2=j ->K (e9 l ((j - 1) / 2))<=K (e9 l i))
theorem Ro (K:Nat ->Nat):∀(f:Nat) (l:List Nat) (j:Nat),j<=f ->j<l.length ->tF K l j ->ID K (Rp K f l j)
 | 0,l,j,y,g,h=>λi b a=>h.1 i b a (by omega)
 | f+1,l,j,y,g,h=>by
  unfold Rp
  split
  .rename_i e;subst e;exact λi b a=>h.1 i b a (by omega)
  .rename_i w
   split
   .rename_i r
    refine Ro K f _ _ (by omega) (by rw [Lt];omega) ⟨λi b a o=>?_,λv i b a k=>?_⟩
    .rw [Lt] at a;rw [C3 (by omega) g,C3 (by omega) g,θ (show ¬i=(j - 1) / 2 from o)]
     by_cases c:i=j
     .subst c;rw [θ (by omega),ϱ Z,ϱ rfl];exact Nat.le_of_lt r
     .rw [θ c]
      by_cases t:(i - 1) / 2=j
      .rw [ϱ t];exact h.2 (by omega) i b a t
      .rw [θ t]
       by_cases s:(i - 1) / 2=(j - 1) / 2
       .rw [ϱ s];have:=h.1 i b a c;rw [s] at this;omega
       .rw [θ s];exact h.1 i b a c
    .rw [Lt] at a;rw [C3 (by omega) g,C3 (by omega) g,θ (by omega),θ (by omega)];have u:=h.1 ((j - 1) / 2) v (by omega) (by omega)
     by_cases c:i=j
     .subst c;rw [ϱ rfl];exact u
     .rw [θ c,θ (by omega)];have:=h.1 i b a c;rw [k] at this;omega
   .rename_i x
    intro i b a
    by_cases e:i=j
    .subst e;omega
    .exact h.1 i b a e
def tG (K:Nat ->Nat) (n:Nat) (l:List Nat) (i:Nat):Prop:=
 (∀k,0<k ->k<n ->(k - 1) / 2≠i ->K (e9 l ((k - 1) / 2))<=K (e9 l k))/\(0<i ->∀k,0<k ->k<n ->(k - 1) / 2=i ->K (e9 l ((i - 1) / 2))<=K (e9 l k))
theorem T3 (K:Nat ->Nat) (n:Nat):∀(f:Nat) (l:List Nat) (i:Nat),n<=f+i ->i<l.length ->n<=l.length ->tG K n l i→
  ∀k,0<k ->k<n ->K (e9 (OD K n f l i) ((k - 1) / 2))<=K (e9 (OD K n f l i) k)
 | 0,l,i,G,t,z,h=>λk b a=>h.1 k b a (by omega)
 | f+1,l,i,G,t,z,h=>by
  unfold OD
  split
  .exact λk b a=>h.1 k b a (by omega)
  .rename_i D
   dsimp only
   have r:∀j,(j=2*i+1\/j=2*i+2) ->j<n ->(∀k,0<k ->k<n ->(k - 1) / 2=i ->K (e9 l j)<=K (e9 l k))→
     ∀k,0<k ->k<n ->K (e9 (if K (e9 l j)<K (e9 l i) then OD K n f (LV l i j) j else l) ((k - 1) / 2))<=K (e9 (if K (e9 l j)<K (e9 l i) then OD K n f (LV l i j) j else l) k):=by
    intro j I y g;have c:j<l.length:=by omega
    have o:(j - 1) / 2=i:=by omega
    split
    .rename_i s
     refine T3 K n f _ _ (by omega) (by rw [Lt];exact c) (by rw [Lt];exact z) ⟨λk b a x=>?_,λE k b a w=>?_⟩
     .rw [C3 t c,C3 t c,θ x]
      by_cases B:k=j
      .subst B;rw [ϱ Z,ϱ o];exact Nat.le_of_lt s
      .rw [θ B]
       by_cases v:(k - 1) / 2=i
       .rw [ϱ v,θ (by omega)];exact g k b a v
       .rw [θ v]
        by_cases A:k=i
        .subst A;rw [ϱ rfl];exact h.2 b j (by omega) y o
        .rw [θ A];exact h.1 k b a v
     .rw [C3 t c,C3 t c,θ (by omega),ϱ o,θ (by omega),θ (by omega)];have:=h.1 k b a (by omega);rw [w] at this;exact this
    .rename_i F
     intro k b a
     by_cases e:(k - 1) / 2=i
     .rw [e];have:=g k b a e;omega
     .exact h.1 k b a e
   split
   .rename_i u
    refine r (2*i+2) (.inr Z) u.1 λk b a C=>?_;rcases (show k=2*i+1\/k=2*i+2 by omega) with rfl | rfl
    .exact Nat.le_of_lt u.2
    .exact ϖ _
   .rename_i u
    refine r (2*i+1) (.inl Z) (by omega) λk b a C=>?_;rcases (show k=2*i+1\/k=2*i+2 by omega) with rfl | rfl
    .exact ϖ _
    .exact Nat.le_of_not_lt λH=>u ⟨a,H⟩
theorem Z9 (K:Nat ->Nat) (f:Nat) (l:List Nat):Rp K f l 0=l:=by cases f<;>simp [Rp]
theorem Za (h:¬K (e9 a k)<K (e9 a ((k - 1) / 2))):Rp K y a k=a:=by
 cases y with
 | zero=>rfl
 | succ y=>unfold Rp;split<;>first | rfl | exact θ h
theorem na (b:k≠0) (h:K (e9 a k)<K (e9 a ((k - 1) / 2))):Rp K (y+1) a k=Rp K y (LV a ((k - 1) / 2) k) ((k - 1) / 2):=by
 rw [Rp,θ b,ϱ h]
def R6 (K:Nat ->Nat) (n:Nat) (l:List Nat) (i:Nat):Nat:=if 2*i+2<n/\K (e9 l (2*i+2))<K (e9 l (2*i+1)) then 2*i+2 else 2*i+1
theorem pu {K:Nat ->Nat} {l:List Nat} (h:¬f<=2*i+1):R6 K f l i<f/\i<R6 K f l i:=by unfold R6;split<;>omega
theorem lM (h:f<=2*i+1):OD K f y a i=a:=by
 cases y with
 | zero=>rfl
 | succ y=>rw [OD,ϱ h]
theorem dN (h:¬K (e9 a (R6 K f a i))<K (e9 a i)):OD K f y a i=a:=by
 cases y with
 | zero=>rfl
 | succ y=>
  unfold OD;split<;>first | rfl | exact θ h
theorem pw (b:¬f<=2*i+1) (h:K (e9 a (R6 K f a i))<K (e9 a i)):OD K f (y+1) a i=OD K f y (LV a i (R6 K f a i)) (R6 K f a i):=by
 rw [OD,θ b];exact ϱ h
def L6 (K:Nat ->Nat) (l:List Nat) (x:Nat):List Nat:=Rp K l.length (l++ [x]) l.length
def Jo (K:Nat ->Nat) (l:List Nat):List Nat:=OD K (l.length - 1) (l.length - 1) (LV l 0 (l.length - 1)) 0
def Oi (K:Nat ->Nat) (l:List Nat):List Nat:=(Jo K l).take (l.length - 1)
theorem W9 (h:i<a.length):e9 (a++z) i=e9 a i:=by
 unfold e9;rw [Ψ,Ψ,m5 h]
theorem S8 (h:i<f):e9 (a.take f) i=e9 a i:=by
 unfold e9;rw [Ψ,Ψ,ii h]
theorem Nh (K:Nat ->Nat) (l:List Nat) (x:Nat):(L6 K l x).Perm (x::l):=
 (Rn K _ _ _ (by simp)).trans (by simp)
theorem Ni (h:ID K a) (x:Nat):ID K (L6 K a x):=by
 refine Ro K _ _ _ (ϖ _) (by simp) ⟨λi g f b=>?_,λg i c f j=>?_⟩
 all_goals (grind [W9,ID])
theorem Gk (K:Nat ->Nat) (h:a≠ []):(Jo K a).length=a.length:=by
 have b:0<a.length:=ic.2 h;have:=(KK K (a.length - 1) (a.length - 1) (LV a 0 (a.length - 1)) 0 (by rw [Lt];exact b) (by rw [Lt];omega)).length_eq;rw [Lt] at this;exact this
theorem T0 (K:Nat ->Nat) (n:Nat):∀(f:Nat) (l:List Nat) (i k:Nat),n<=k ->i<n ->n<=l.length ->e9 (OD K n f l i) k=e9 l k
 | 0,l,_,_,_,_,_=>rfl
 | f+1,l,i,k,c,o,b=>by
  unfold OD
  split
  .rfl
  .dsimp only
   have a:∀j,j<n ->e9 (if K (e9 l j)<K (e9 l i) then OD K n f (LV l i j) j else l) k=e9 l k:=by
    intro j g
    split
    .rw [T0 K n f _ _ k c g (by rw [Lt];exact b),C3 (by omega) (by omega),θ (by omega),θ (by omega)]
    .rfl
   split
   .rename_i h;exact a _ h.1
   .exact a _ (by omega)
theorem Nj (K:Nat ->Nat) (h:a≠ []):e9 (Jo K a) (a.length - 1)=e9 a 0:=by
 have b:0<a.length:=ic.2 h;unfold Jo
 by_cases e:a.length - 1=0
 .rw [e];show e9 (LV a 0 0) 0=_;rw [C3 b b,ϱ rfl]
 grind [T0,Lt,C3]
theorem Yg (K:Nat ->Nat) (h:a≠ []):(e9 a 0::Oi K a).Perm a:=by grind [Jo,KK,Lt,Ep,Gk,Oi,Nj,Ov,jH,m0]
theorem Yh (h:ID K a) (b:a≠ []):ID K (Oi K a):=by
 have j:0<a.length:=ic.2 b;intro i f g;have s:=Gk K b;have r:(Oi K a).length=a.length - 1:=by unfold Oi;rw [Ξ,s];omega
 rw [r] at g;unfold Oi;rw [S8 (by omega),S8 g];refine T3 K (a.length - 1) (a.length - 1) _ _ (by omega) (by rw [Lt];exact j) (by rw [Lt];omega) ⟨λk c t o=>?_,λh=>by omega⟩ i f g;rw [C3 j (by omega),C3 j (by omega),θ (by omega),θ o,θ (by omega),θ (by omega)];exact h k c (by omega)
inductive Rh (suc:Nat ->List Nat):Nat ->Nat ->Prop
 | refl (a:Nat):Rh suc a a
 | step {a b c:Nat} (h:Rh suc a b) (e:c∈suc b):Rh suc a c
theorem Rh.trans {f:Nat} (h:Rh c B A) (i:Rh c A f):Rh c B f:=by
 induction i with
 | refl=>exact h
 | step _ e g=>exact .step g e
theorem Rh.one (e:A∈c B):Rh c B A:= .step (.refl B) e
theorem Rh.clos {p:Nat ->Prop} (g:∀v,p v ->∀y∈c v,p y) (h:Rh c B A) (i:p B):p A:=by
 induction h with
 | refl=>exact i
 | step _ e f=>exact g _ f _ e
def An {α:Type} (f:Nat ->α) (i:Nat) (x:α):Nat ->α:=λj=>if j=i then x else f j
theorem KW (f:Nat ->o) (i:Nat) (x:o):An f i x i=x:=ϱ rfl
theorem GY {f:Nat ->o} {x:o} (h:k≠i):An f i x k=f k:=θ h
structure TS where
 idx:Nat ->Nat
 low:Nat ->Nat
 of:Nat ->Int
 st:List Nat
 cs:List (Nat×Nat)
 cnt:Nat
 clk:Nat
structure TI (n:Nat) (suc:Nat ->List Nat) (S:TS) (p:Option Nat):Prop where
 lt:∀v,S.idx v≠0 ->v<n
 ck:∀v,S.idx v<=S.clk
 inj:∀v w,S.idx v≠0 ->S.idx v=S.idx w ->v=w
 st:∀v,v∈S.st↔S.idx v≠0/\S.of v<0
 srt:S.st.Pairwise λa b=>S.idx a<S.idx b
 ofi:∀v,0<=S.of v ->S.idx v≠0/\S.of v<S.cnt
 csm:∀f∈S.cs,f.1∈S.st
 css:S.cs.Pairwise λa b=>S.idx a.1<S.idx b.1
 r5:∀f∈S.cs,∀w∈S.st,S.idx f.1<=S.idx w ->Rh suc f.1 w
 r4:∀w∈S.st,∃f∈S.cs,S.idx f.1<=S.idx w/\Rh suc w f.1
 clo:∀v,0<=S.of v ->∀y∈suc v,0<=S.of y
 blk:∀w∈S.st,(∀f∈S.cs,f.1≠w) ->∀y∈suc w,S.idx y≠0
 gry:∀f∈S.cs,f.2<=(suc f.1).length/\∀(i:Nat) y,i<f.2 ->(suc f.1)[i]? =some y ->S.idx y≠0\/p=some y
 lw:∀v∈S.st,S.low v<=S.idx v/\∃y∈S.st,S.low v=S.idx y/\Rh suc v y
 l8:∀f∈S.cs,∀x∈S.st,x≠f.1 ->S.idx f.1<=S.idx x ->(∀f'∈S.cs,S.idx f.1<S.idx f'.1 ->S.idx x<S.idx f'.1) ->∀y∈suc x,y∈S.st ->S.low f.1<=S.idx y
 l8g:∀f∈S.cs,∀(i:Nat) y,i<f.2 ->(suc f.1)[i]? =some y ->y∈S.st ->S.low f.1<=S.idx y
 scc:∀i j,0<=S.of i ->0<=S.of j ->(S.of i=S.of j↔Rh suc i j/\Rh suc j i)
 use:∀c,c<S.cnt ->∃v,S.of v=((c:Nat):Int)
 pnd:∀v,p=some v ->v<n/\S.idx v=0/\∀f∈S.cs,Rh suc f.1 v
 num:S.cnt+S.st.length<=S.clk
 cap:∃vs:List Nat,vs.Nodup/\vs.length=S.clk/\∀v,v∈vs↔S.idx v≠0
variable {S:TS}
theorem Zg (h:TI f c S (some s)):
  TI f c ⟨An S.idx s (S.clk+1),An S.low s (S.clk+1),S.of,S.st++ [s],S.cs++ [(s,0)],S.cnt,S.clk+1⟩ none:=by
 obtain ⟨hvn,M,hvr⟩:=h.pnd s rfl;have R:∀w,S.idx w≠0 ->w≠s:=λw k e=>k (e▸M);have Y:∀w,S.idx w≠0 ->An S.idx s (S.clk+1) w=S.idx w:=λw k=>GY (R w k);have P:∀w∈S.st,S.idx w≠0:=λw k=>((h.st w).1 k).1;have o:∀w∈S.st,An S.idx s (S.clk+1) w=S.idx w:=λw k=>Y w (P w k);have u:∀g∈S.cs,An S.idx s (S.clk+1) g.1=S.idx g.1:=λg j=>o _ (h.csm g j);have T:∀g∈S.cs,g.1≠s:=λg j=>R _ (P _ (h.csm g j));have l:An S.idx s (S.clk+1) s=S.clk+1:=KW _ _ _
 have hof:S.of s<0:=by
  rcases Int.lt_or_le (S.of s) 0 with r | r
  .exact r
  .exact absurd M (h.ofi s r).1
 have C:∀w,w≠s ->An S.low s (S.clk+1) w=S.low w:=λw k=>GY k;refine ⟨?_,?_,?_,?_,?_,?_,?_,?_,?_,?_,h.clo,?_,?_,?_,?_,?_,h.scc,h.use,(λ_ e=>by cases e),?_,?_⟩<;>(try dsimp only)
 .intro w k
  by_cases e:w=s
  .omega
  .exact h.lt w (by simpa [GY e] using k)
 .intro w;show An S.idx s (S.clk+1) w<=S.clk+1
  by_cases e:w=s
  .grind
  .rw [GY e];exact Nat.le_succ_of_le (h.ck w)
 .intro a b I H;have U:An S.idx s (S.clk+1) a≠0:=I;have G:An S.idx s (S.clk+1) a=An S.idx s (S.clk+1) b:=H
  by_cases e:a=s<;>by_cases e':b=s
  .rw [e,e']
  .rw [e,l,GY e'] at G;have:=h.ck b;omega
  .rw [e',l,GY e] at G;have:=h.ck a;omega
  .rw [GY e,GY e'] at G;rw [GY e] at U;exact h.inj a b U G
 .intro w;show w∈S.st++ [s]↔An S.idx s (S.clk+1) w≠0/\S.of w<0
  by_cases e:w=s
  .rw [e,l];simp [hof]
  .rw [GY e,ν,ζ,<-h.st w];simp [e]
 .show (S.st++ [s]).Pairwise _;rw [List.pairwise_append];refine ⟨h.srt.imp_of_mem λI H O=>?_,List.pairwise_singleton _ _,λa I b H=>?_⟩
  .rw [o _ I,o _ H];exact O
  .rw [ζ.1 H,l,o a I];exact Nat.lt_succ_of_le (h.ck a)
 .intro w k;have r:=h.ofi w k;exact ⟨by show An S.idx s (S.clk+1) w≠0;rw [Y w r.1];exact r.1,r.2⟩
 .intro g j;rcases ν.1 j with j | j
  .exact iX _ (h.csm g j)
  .rw [ζ.1 j];exact iN _ (ζ.2 Z)
 .show (S.cs++ [(s,0)]).Pairwise _;rw [List.pairwise_append];refine ⟨h.css.imp_of_mem λI H O=>?_,List.pairwise_singleton _ _,λa I b H=>?_⟩
  .rw [u _ I,u _ H];exact O
  .rw [ζ.1 H];show An S.idx s (S.clk+1) a.1<An S.idx s (S.clk+1) s;rw [l,u a I];exact Nat.lt_succ_of_le (h.ck _)
 .intro g j w k hfw;have B:An S.idx s (S.clk+1) g.1<=An S.idx s (S.clk+1) w:=hfw;rcases ν.1 j with j | j
  .rcases ν.1 k with k | k
   .rw [u g j,o w k] at B;exact h.r5 g j w k B
   .rw [ζ.1 k];exact hvr g j
  .rw [ζ.1 j] at B⊢;rcases ν.1 k with k | k
   .have e1:An S.idx s (S.clk+1) ((s,0):Nat×Nat).1=S.clk+1:=l;rw [e1,o w k] at B;have:=h.ck w;omega
   .rw [ζ.1 k];exact .refl s
 .intro w k;rcases ν.1 k with k | k
  .obtain ⟨g,j,r,V⟩:=h.r4 w k;exact ⟨g,iX _ j,by show An S.idx s (S.clk+1) g.1<=An S.idx s (S.clk+1) w;rw [u g j,o w k];exact r,V⟩
  .rw [ζ.1 k];exact ⟨(s,0),iN _ (ζ.2 Z),ϖ _,.refl s⟩
 .intro w k Q y D;show An S.idx s (S.clk+1) y≠0;have hwv:w≠s:=λe=>Q (s,0) (iN _ (ζ.2 Z)) e.symm
  have F:w∈S.st:=by
   rcases ν.1 k with k | k
   .exact k
   .exact absurd (ζ.1 k) hwv
  have r:=h.blk w F (λg j=>Q g (iX _ j)) y D;rw [Y y r];exact r
 .intro g j;rcases ν.1 j with j | j
  .refine ⟨(h.gry g j).1,λi y A D=> .inl ?_⟩;show An S.idx s (S.clk+1) y≠0;rcases (h.gry g j).2 i y A D with r | r
   .rw [Y y r];exact r
   .injection r with r;rw [<-r,l];exact Nat.succ_ne_zero _
  .rw [ζ.1 j];exact ⟨υ _,λi y A=>absurd A (Nat.not_lt_zero _)⟩
 .intro w k;show An S.low s (S.clk+1) w<=An S.idx s (S.clk+1) w/\∃y∈S.st++ [s],An S.low s (S.clk+1) w=An S.idx s (S.clk+1) y/\Rh c w y
  by_cases e:w=s
  .rw [e,l,KW];exact ⟨ϖ _,s,iN _ (ζ.2 Z),l.symm,.refl s⟩
  .have F:w∈S.st:=by
    rcases ν.1 k with k | k
    .exact k
    .exact absurd (ζ.1 k) e
   obtain ⟨r,y,D,V,h3⟩:=h.lw w F;rw [C w e,o w F];exact ⟨r,y,iX _ D,by rw [o y D];exact V,h3⟩
 .intro g j x E K hfx J y D t;have z:An S.idx s (S.clk+1) g.1<=An S.idx s (S.clk+1) x:=hfx;show An S.low s (S.clk+1) g.1<=An S.idx s (S.clk+1) y;rcases ν.1 j with j | j
  .have hxv:x≠s:=λe=>by
    have r:=J (s,0) (iN _ (ζ.2 Z)) (by show An S.idx s (S.clk+1) g.1<An S.idx s (S.clk+1) s;rw [l,u g j];exact Nat.lt_succ_of_le (h.ck _));rw [e] at r;exact ir _ r
   have L:x∈S.st:=by
    rcases ν.1 E with E | E
    .exact E
    .exact absurd (ζ.1 E) hxv
   rw [C g.1 (T g j)];rcases ν.1 t with t | t
   .rw [o y t];rw [u g j,o x L] at z;refine h.l8 g j x L K z (λX N hlt=>?_) y D t;have r:=J X (iX _ N) (by show An S.idx s (S.clk+1) g.1<An S.idx s (S.clk+1) X.1;rw [u g j,u X N];exact hlt);have W:An S.idx s (S.clk+1) x<An S.idx s (S.clk+1) X.1:=r;rw [o x L,u X N] at W;exact W
   .rw [ζ.1 t,l];have:=(h.lw g.1 (h.csm g j)).1;have:=h.ck g.1;omega
  .rw [ζ.1 j] at z K
   exfalso
   have e1:An S.idx s (S.clk+1) ((s,0):Nat×Nat).1=S.clk+1:=l;rw [e1] at z;rcases ν.1 E with E | E
   .rw [o x E] at z;have:=h.ck x;omega
   .exact K (ζ.1 E)
 .intro g j i y A D t;show An S.low s (S.clk+1) g.1<=An S.idx s (S.clk+1) y;rcases ν.1 j with j | j
  .rw [C g.1 (T g j)];rcases ν.1 t with t | t
   .rw [o y t];exact h.l8g g j i y A D t
   .rw [ζ.1 t,l];have:=(h.lw g.1 (h.csm g j)).1;have:=h.ck g.1;omega
  .rw [ζ.1 j] at A;exact absurd A (Nat.not_lt_zero _)
 .have:=h.num;show S.cnt+(S.st++ [s]).length<=S.clk+1;rw [Δ];simp only [Φ];omega
 .obtain ⟨vs,r,V,h3⟩:=h.cap;refine ⟨s::vs,i5.2 ⟨λhm=>(h3 s).1 hm M,r⟩,by rw [i3,V],λw=>?_⟩;show w∈s::vs↔An S.idx s (S.clk+1) w≠0
  by_cases e:w=s
  .rw [e,l];simp
  .rw [GY e,fP,<-h3 w];simp [e]
theorem J4 {R:o ->o ->Prop} {l:List o} {a:o} (h:(l++ [a]).Pairwise R):l.Pairwise R/\∀b∈l,R b a:=by grind
theorem U7 {n:Nat} {r:Nat ->List Nat} {S:TS} {t:List (Nat×Nat)} {v k j:Nat} (h:TI n r S none) (C:S.cs=t++ [(v,k)]) (L:(r v)[k]? =some j) (W:j<n) {low':Nat ->Nat} {p:Option Nat}
  (D:∀w,low' w<=S.low w) (U:∀w∈S.st,∃y∈S.st,low' w=S.idx y/\Rh r w y) (hp:S.idx j≠0\/p=some j) (Q:∀x,p=some x ->x=j/\S.idx j=0) (hl:j∈S.st ->low' v<=S.idx j):
  TI n r {S with low:=low',cs:=t++ [(v,k+1)]} p:=by
 have E:(v,k)∈S.cs:=by rw [C];exact iN _ (ζ.2 Z)
 have B:∀f∈t,f∈S.cs:=λf c=>by rw [C];exact iX _ c
 have M:∀f∈t++ [(v,k+1)],∃g∈S.cs,g.1=f.1:=λf c=>by
  grind
 have F:∀g∈S.cs,∃f∈t++ [(v,k+1)],f.1=g.1:=λg l=>by
  rw [C] at l;rcases ν.1 l with l | l
  .grind
  simp_all
 have J:(t++ [(v,k+1)]).map (·.1)=S.cs.map (·.1):=by rw [C];simp
 refine ⟨h.lt,h.ck,h.inj,h.st,h.srt,h.ofi,?_,?_,?_,?_,h.clo,?_,?_,?_,?_,?_,h.scc,h.use,?_,h.num,h.cap⟩<;>(try dsimp only)
 .intro f c;obtain ⟨g,l,e⟩:=M f c;rw [<-e];exact h.csm g l
 .have u:(S.cs.map (·.1)).Pairwise λa b=>S.idx a<S.idx b:=fz.2 h.css;rw [<-J] at u;exact (fz (f:=λf:Nat×Nat=>f.1) (R:=λa b=>S.idx a<S.idx b)).1 u
 .intro f c;obtain ⟨g,l,e⟩:=M f c;rw [<-e];exact h.r5 g l
 .intro w G;obtain ⟨g,l,u,N⟩:=h.r4 w G;obtain ⟨f,c,e⟩:=F g l;exact ⟨f,c,by rw [e];exact u,by rw [e];exact N⟩
 .intro w G T;refine h.blk w G λg l e=>?_;obtain ⟨f,c,O⟩:=F g l;exact T f c (O.trans e)
 .intro f c;rcases ν.1 c with c | c
  .refine ⟨(h.gry f (B f c)).1,λi y o A=>?_⟩;rcases (h.gry f (B f c)).2 i y o A with u | u
   .exact .inl u
   .cases u
  .rw [ζ.1 c];refine ⟨(φ.1 L).1,λi y o A=>?_⟩;rcases Nat.lt_or_eq_of_le (Nat.le_of_lt_succ o) with o | o
   .rcases (h.gry (v,k) E).2 i y o A with u | u
    .exact .inl u
    .cases u
   .subst o;have z:(r v)[i]? =some y:=A;rw [L] at z;injection z with e;rw [<-e];exact hp
 .intro w G;exact ⟨fO (D w) (h.lw w G).1,U w G⟩
 .intro f c x P H K I y A s;obtain ⟨g,l,e⟩:=M f c;rw [<-e] at H K⊢;refine fO (D _) (h.l8 g l x P H K (λg' X V=>?_) y A s);obtain ⟨f',Y,O⟩:=F g' X;have:=I f' Y (by rw [O,<-e];exact V);rw [O] at this;exact this
 .intro f c i y o A s;rcases ν.1 c with c | c
  .exact fO (D _) (h.l8g f (B f c) i y o A s)
  .rw [ζ.1 c] at o A⊢;rcases Nat.lt_or_eq_of_le (Nat.le_of_lt_succ o) with o | o
   .exact fO (D _) (h.l8g (v,k) E i y o A s)
   .subst o;have z:(r v)[i]? =some y:=A;rw [L] at z;injection z with e;rw [<-e] at s⊢;exact hl s
 .intro x P;obtain ⟨rfl,h0⟩:=Q x P;refine ⟨W,h0,λf c=>?_⟩;obtain ⟨g,l,e⟩:=M f c;rw [<-e];refine .step (h.r5 g l v (h.csm _ E) ?_) (ϑ L);have N:=h.css;rw [C] at l N;rcases ν.1 l with l | l
  .exact Nat.le_of_lt ((J4 N).2 g l)
  .rw [ζ.1 l];exact ϖ _
theorem j1 (a:TI f c S none) (R:S.cs=h++ [(s,(c s).length)]) (hlt:S.low s<S.idx s):
  ∃E u k,h=E++ [(u,k)]/\TI f c {S with low:=An S.low u (min (S.low u) (S.low s)),cs:=h} none:=by
 have G:(s,(c s).length)∈S.cs:=by rw [R];exact iN _ (ζ.2 Z)
 have V:=a.csm _ G;have l:∀b∈h,b∈S.cs:=λb g=>by rw [R];exact iX _ g
 have t:∀b∈S.cs,b∈h\/b.1=s:=λb g=>by
  grind
 have M:=a.css;rw [R] at M;obtain ⟨z,C⟩:=J4 M;obtain ⟨_,y0,U,Y,K⟩:=a.lw s V
 -- a node that is on its way and lies below v
 have L:∃b∈h,S.idx b.1<=S.low s/\Rh c s b.1:=by
  obtain ⟨b,g,o,N⟩:=a.r4 y0 U;rcases t b g with j | j
  .exact ⟨b,j,by omega,K.trans N⟩
  grind
 have X:h≠ []:=λe=>by obtain ⟨b,g,_⟩:=L;rw [e] at g;cases g
 obtain ⟨E,⟨u,k⟩,D⟩:∃E b,h=E++ [b]:=⟨h.dropLast,h.getLast X,(List.dropLast_concat_getLast X).symm⟩
 have H:(u,k)∈h:=by rw [D];exact iN _ (ζ.2 Z)
 have W:S.idx u<S.idx s:=C _ H;have hus:=a.csm _ (l _ H);have hvu:s≠u:=λe=>by rw [e] at W;omega
 have B:∀b∈h,S.idx b.1<=S.idx u:=λb g=>by
  rw [D] at g z;rcases ν.1 g with g | g
  .exact Nat.le_of_lt ((J4 z).2 b g)
  .rw [ζ.1 g];exact ϖ _
 have O:∀w,An S.low u (min (S.low u) (S.low s)) w<=S.low w:=λw=>by
  by_cases e:w=u
  .rw [e,KW];exact Nat.min_le_left _ _
  .rw [GY e];exact ϖ _
 have hinju:∀b∈h,b.1≠u ->S.idx b.1<S.idx u:=λb g e=>by
  have:=B b g;rcases Nat.lt_or_eq_of_le this with o | o
  .exact o
  .exact absurd (a.inj b.1 u ((a.st _).1 (a.csm _ (l _ g))).1 o) e
 refine ⟨E,u,k,D,a.lt,a.ck,a.inj,a.st,a.srt,a.ofi,λb g=>a.csm b (l b g),z,λb g=>a.r5 b (l b g),?_,a.clo,?_,λb g=>a.gry b (l b g),?_,?_,?_,a.scc,a.use,(λ_ e=>by cases e),a.num,a.cap⟩<;>(try dsimp only)
 .intro w T;obtain ⟨b,g,o,N⟩:=a.r4 w T;rcases t b g with j | j
  .exact ⟨b,j,o,N⟩
  .obtain ⟨I,hf'',h3,h4⟩:=L;rw [j] at o N;exact ⟨I,hf'',by omega,N.trans h4⟩
 .intro w T hnf y F
  by_cases e:w=s
  .subst e;obtain ⟨i,Q⟩:=List.getElem?_of_mem F;rcases (a.gry _ G).2 i y (φ.1 Q).1 Q with o | o
   .exact o
   .cases o
  .refine a.blk w T (λb g e'=>?_) y F;rcases t b g with j | j
   .exact hnf b j e'
   .exact e (e'.symm.trans j)
 .intro w T;refine ⟨fO (O w) (a.lw w T).1,?_⟩
  by_cases e:w=u
  .rw [e,KW];obtain ⟨_,y,F,o,N⟩:=a.lw u hus;rcases Nat.le_total (S.low u) (S.low s) with P | P
   .rw [Nat.min_eq_left P];exact ⟨y,F,o,N⟩
   .rw [Nat.min_eq_right P];exact ⟨y0,U,Y,(a.r5 _ (l _ H) s V (Nat.le_of_lt W)).trans K⟩
  .rw [GY e];exact (a.lw w T).2
 .intro b g x hx hxf hfx J y F A
  -- x lies in the segment of f, or of v
  by_cases hxv:S.idx s<=S.idx x
  .have hfu:b.1=u:=by
    rcases Nat.lt_or_eq_of_le (B b g) with o | o
    .have:=J (u,k) H o;have:S.idx x<S.idx u:=this;omega
    .exact a.inj b.1 u ((a.st _).1 (a.csm _ (l _ g))).1 o
   rw [hfu,KW];refine fO (Nat.min_le_right _ _) ?_
   by_cases e:x=s
   .subst e;obtain ⟨i,Q⟩:=List.getElem?_of_mem F;exact a.l8g _ G i y (φ.1 Q).1 Q A
   .refine a.l8 _ G x hx e hxv (λI j r=>?_) y F A
    exfalso
    rcases t I j with o | o
    .have:=C I o;have N:S.idx s<S.idx I.1:=r;have h3:S.idx I.1<S.idx s:=this;omega
    .rw [o] at r;exact ir _ r
  .refine fO (O _) (a.l8 b (l b g) x hx hxf hfx (λI j r=>?_) y F A);rcases t I j with o | o
   .exact J I o r
   .rw [o];omega
 .intro b g i y Q F A;exact fO (O _) (a.l8g b (l b g) i y Q F A)
theorem Rh.leave {p:Nat ->Prop} (h:Rh c B A) (k:p B) (i:¬p A):∃x y,p x/\y∈c x/\¬p y/\Rh c y A:=by
 induction h with
 | refl=>exact absurd k i
 | @step A f t e j=>
  by_cases g:p A
  .exact ⟨A,f,g,e,i,.refl f⟩
  .obtain ⟨x,y,s,r,o,l⟩:=j g;exact ⟨x,y,s,r,o,l.step e⟩
theorem j0 {fI fH:List Nat} (g:TI f c S none) (M:S.cs=h++ [(s,(c s).length)]) (hlt:S.low s=S.idx s) (K:S.st=fI++s::fH):
  (∀k∈h,S.low k.1<=S.low s)/\TI f c {S with of:=λx=>if x∈s::fH then (S.cnt:Int) else S.of x,st:=fI,cs:=h,cnt:=S.cnt+1} none:=by
 have J:(s,(c s).length)∈S.cs:=by rw [M];exact iN _ (ζ.2 Z)
 have hvs:=g.csm _ J;have B:∀k∈h,k∈S.cs:=λk t=>by rw [M];exact iX _ t
 have A:∀k∈S.cs,k∈h\/k.1=s:=λk t=>by
  rw [M] at t;rcases ν.1 t with t | t
  .exact .inl t
  .rw [ζ.1 t];exact .inr rfl
 have R:=g.css;rw [M] at R;obtain ⟨X,z⟩:=J4 R;have O:=g.srt;rw [K,List.pairwise_append] at O;obtain ⟨hs1,hs2,hs12⟩:=O
 have H:∀w,w∈s::fH ->w∈S.st/\S.idx s<=S.idx w:=λw r=>by
  refine ⟨by rw [K];exact iN _ r,?_⟩;rcases fP.1 r with rfl | r
  .exact ϖ _
  .exact Nat.le_of_lt ((iK.1 hs2).1 w r)
 have E:∀w,w∈fI ->w∈S.st/\S.idx w<S.idx s:=λw r=>⟨by rw [K];exact iX _ r,hs12 w r s (fu ..)⟩
 have N:∀w∈S.st,w∈fI\/w∈s::fH:=λw r=>by rw [K] at r;exact ν.1 r
 have hdis:∀w,w∈fI ->w∉s::fH:=λw o u=>by have:=(E w o).2;have:=(H w u).2;omega
 have P:∀w∈S.st,S.of w<0:=λw r=>((g.st w).1 r).2
 have hcs1:∀k∈h,k.1∈fI:=λk t=>by
  rcases N _ (g.csm k (B k t)) with o | o
  .exact o
  .have:=(H _ o).2;have u:S.idx k.1<S.idx s:=z k t;omega
 -- all nodes of the component reach v
 have hto:∀w∈s::fH,Rh c w s:=λw r=>by
  obtain ⟨k,t,o,u⟩:=g.r4 w (H w r).1;rcases A k t with F | F
  .exact u.trans (g.r5 k t s hvs (Nat.le_of_lt (z k F)))
  .rw [F] at u;exact u
 have L:∀w∈s::fH,Rh c s w:=λw r=>g.r5 _ J w (H w r).1 (H w r).2
 -- its successors lie in it, or in components that are known
 have V:∀x∈s::fH,∀y∈c x,y∈s::fH\/0<=S.of y:=λx U y G=>by
  have hy0:S.idx y≠0:=by
   by_cases e:x=s
   .subst e;obtain ⟨i,I⟩:=List.getElem?_of_mem G;rcases (g.gry _ J).2 i y (φ.1 I).1 I with o | o
    .exact o
    .cases o
   .refine g.blk x (H x U).1 (λk t e'=>?_) y G;rcases A k t with o | o
    .have u:S.idx k.1<S.idx s:=z k o;have:=(H x U).2;rw [e'] at u;omega
    .exact e (e'.symm.trans o)
  rcases Int.lt_or_le (S.of y) 0 with o | o
  .have D:y∈S.st:=(g.st y).2 ⟨hy0,o⟩;rcases N y D with u | u
   .exfalso
    have F:=(E y u).2
    have h4:S.low s<=S.idx y:=by
     by_cases e:x=s
     .subst e;obtain ⟨i,I⟩:=List.getElem?_of_mem G;exact g.l8g _ J i y (φ.1 I).1 I D
     .refine g.l8 _ J x (H x U).1 e (H x U).2 (λY W C=>?_) y G D
      exfalso
      rcases A Y W with h5 | h5
      .have h6:S.idx Y.1<S.idx s:=z Y h5;have h7:S.idx s<S.idx Y.1:=C;omega
      .rw [h5] at C;exact ir _ C
    omega
   .exact .inl u
  .exact .inr o
 have hkn:∀a b,0<=S.of a ->Rh c a b ->0<=S.of b:=λa b ha hab=>hab.clos g.clo ha;have hnk:∀w∈s::fH,¬0<=S.of w:=λw r=>by have:=P w (H w r).1;omega
 have T:∀w,S.of w≠(S.cnt:Int):=λw e=>by
  have:=(g.ofi w (by rw [e];exact Int.natCast_nonneg _)).2;omega
 refine ⟨λk t=>?_,g.lt,g.ck,g.inj,?_,hs1,?_,hcs1,X,?_,?_,?_,?_,λk t=>g.gry k (B k t),?_,?_,?_,?_,?_,(λ_ e=>by cases e),?_,g.cap⟩<;>(try dsimp only)
 .have o:=(g.lw k.1 (g.csm k (B k t))).1;have u:S.idx k.1<S.idx s:=z k t;omega
 .intro w
  constructor
  .intro r;rw [θ (hdis w r)];exact (g.st w).1 (E w r).1
  .rintro ⟨o,u⟩
   by_cases r:w∈s::fH
   .rw [ϱ r] at u;omega
   .rw [θ r] at u;rcases N w ((g.st w).2 ⟨o,u⟩) with F | F
    .exact F
    .exact absurd F r
 .intro w r
  by_cases Q:w∈s::fH
  .rw [ϱ Q];exact ⟨((g.st w).1 (H w Q).1).1,by omega⟩
  .rw [θ Q] at r⊢;have:=g.ofi w r;exact ⟨this.1,by omega⟩
 .exact λk t w r=>g.r5 k (B k t) w (E w r).1
 .intro w r;obtain ⟨k,t,o,u⟩:=g.r4 w (E w r).1;rcases A k t with F | F
  .exact ⟨k,F,o,u⟩
  .rw [F] at o;have:=(E w r).2;omega
 .intro w r y G
  by_cases Q:w∈s::fH
  .rcases V w Q y G with o | o
   .rw [ϱ o];exact Int.natCast_nonneg _
   .split
    .exact Int.natCast_nonneg _
    .exact o
  .rw [θ Q] at r
   split
   .exact Int.natCast_nonneg _
   .exact g.clo w r y G
 .intro w r hnf;refine g.blk w (E w r).1 λk t e=>?_;rcases A k t with o | o
  .exact hnf k o e
  .have:=(E w r).2;rw [<-e,o] at this;omega
 .intro w r;obtain ⟨o,y,G,u,F⟩:=g.lw w (E w r).1;refine ⟨o,y,?_,u,F⟩;rcases N y G with h4 | h4
  .exact h4
  .have:=(H y h4).2;have:=(E w r).2;omega
 .intro k t x U hxf hfx hseg y G D;refine g.l8 k (B k t) x (E x U).1 hxf hfx (λY W C=>?_) y G (E y D).1;rcases A Y W with o | o
  .exact hseg Y o C
  .rw [o];exact (E x U).2
 .intro k t i y I G D;exact g.l8g k (B k t) i y I G (E y D).1
 .intro i j I hj
  by_cases o:i∈s::fH<;>by_cases u:j∈s::fH
  .rw [ϱ o,ϱ u];exact ⟨λ_=>⟨(hto i o).trans (L j u),(hto j u).trans (L i o)⟩,λ_=>rfl⟩
  .rw [θ u] at hj;rw [ϱ o,θ u];exact ⟨λe=>absurd e.symm (T j),λe=>absurd (hkn j i hj e.2) (hnk i o)⟩
  .rw [θ o] at I;rw [θ o,ϱ u];exact ⟨λe=>absurd e (T i),λe=>absurd (hkn i j I e.1) (hnk j u)⟩
  .rw [θ o] at I;rw [θ u] at hj;rw [θ o,θ u];exact g.scc i j I hj
 .intro l hc;rcases Nat.lt_or_eq_of_le (Nat.le_of_lt_succ hc) with o | o
  .obtain ⟨w,r⟩:=g.use l o;refine ⟨w,?_⟩;rw [θ (λQ=>by have:=P w (H w Q).1;omega)];exact r
  .exact ⟨s,by rw [ϱ (fu ..),o]⟩
 .have:=g.num;rw [K,Δ,i3] at this;omega
theorem Ck [BEq o] [LawfulBEq o] {l m:List o} (h:l.Nodup) (c:∀x∈l,x∈m):l.length<=m.length:=by
 induction l generalizing m with
 | nil=>exact υ _
 | cons a l f=>
  obtain ⟨i,g⟩:=i5.1 h;have j:=c a (fu ..);have k:=f (m:=m.erase a) g λx b=>(List.mem_erase_of_ne (λe=>by rw [e] at b;exact i b:x≠a)).2 (c x (gG _ b))
  grind
theorem jY (n:Nat) (a:Nat ->List Nat):TI n a ⟨λ_=>0,λ_=>0,λ_=> -1,[],[],0,0⟩ none where
 lt:=λ_ h=>absurd Z h
 ck:=λ_=>ϖ _
 inj:=λ_ _ h=>absurd Z h
 st:=λv=>by simp
 srt:= .nil
 ofi:=λ_ h=>absurd h (by dsimp only;decide)
 csm:=λ_ h=>by cases h
 css:= .nil
 r5:=λ_ h=>by cases h
 r4:=λ_ h=>by cases h
 clo:=λ_ h=>absurd h (by dsimp only;decide)
 blk:=λ_ h=>by cases h
 gry:=λ_ h=>by cases h
 lw:=λ_ h=>by cases h
 l8:=λ_ h=>by cases h
 l8g:=λ_ h=>by cases h
 scc:=λ_ _ h=>absurd h (by dsimp only;decide)
 use:=λ_ h=>absurd h (Nat.not_lt_zero _)
 pnd:=λ_ e=>by cases e
 num:=ϖ _
 cap:=⟨[],.nil,Z,λv=>by simp⟩
theorem jZ (h:TI f c S none) (g:S.cs=[]) (i:s<f) (j:S.idx s=0):TI f c S (some s):=
 {h with
  gry:=λa b=>by rw [g] at b;cases b
  pnd:=λw e=>by injection e with e;subst e;exact ⟨i,j,λa b=>by rw [g] at b;cases b⟩}
theorem j7 (h:TI f c S j) (b:S.cs=[]):S.st=[]:=by
 cases e:S.st with
 | nil=>rfl
 | cons w l=>
  obtain ⟨a,g,_⟩:=h.r4 w (by rw [e];exact fu ..)
  grind
theorem Rr (h:TI f c S j):S.clk<=f/\S.cs.length<=S.st.length:=by
 obtain ⟨t,s,u,r⟩:=h.cap
 constructor
 .have:=Ck (m:=List.range f) s λx i=>Θ.2 (h.lt x ((r x).1 i))
  grind
 .have o:(S.cs.map (·.1)).Nodup:=by
   refine fz.2 (h.css.imp λ{a b} l e=>?_)
   grind
  have:=Ck (m:=S.st) o λx i=>by
   obtain ⟨g,k,rfl⟩:=κ.1 i;exact h.csm g k
  grind
structure gH (n:Nat) (suc:Nat ->List Nat) (of:Nat ->Nat) (cnt:Nat):Prop where
 lt:∀v,v<n ->of v<cnt
 scc:∀i j,i<n ->j<n ->(of i=of j↔Rh suc i j/\Rh suc j i)
 use:∀c,c<cnt ->∃v,v<n/\of v=c
 le:cnt<=n
theorem Zh (h:TI f c S j) (r:S.cs=[]) (k:∀v,v<f ->S.idx v≠0):
  gH f c (λv=>(S.of v).toNat) S.cnt/\∀v,v<f ->S.of v=(((S.of v).toNat:Nat):Int):=by
 have o:=j7 h r
 have l:∀v,v<f ->0<=S.of v:=λv g=>by
  rcases Int.lt_or_le (S.of v) 0 with s | s
  .have:=(h.st v).2 ⟨k v g,s⟩;rw [o] at this;cases this
  .exact s
 refine ⟨⟨λv g=>?_,λi a u t=>?_,λb w=>?_,?_⟩,λv g=>(Int.toNat_of_nonneg (l v g)).symm⟩
 .have:=(h.ofi v (l v g)).2;have:=l v g;omega
 .rw [<-h.scc i a (l i u) (l a t)]
  grind
 .obtain ⟨v,g⟩:=h.use b w;refine ⟨v,h.lt v (h.ofi v (by omega)).1,by omega⟩
 .have:=h.num;have:=(Rr h).1;omega
def eW (g:List (List Nat)) (i:Nat):List Nat:=g.getD i []
def LJ (g:List (List Nat)) (done:List Nat) (j:Nat):Nat:=((List.range g.length).map λi=>if i∈done then 0 else (eW g i).count j).sum
theorem Zr:a.sum=0↔∀x∈a,x=0:=by
 induction a with
 | nil=>simp
 | cons b r f=>
  rw [hZ];constructor
  .intro h x c;rcases fP.1 c with rfl | c
   .omega
   .exact f.1 (by omega) x c
  .intro h;have:=h b (fu ..);have:=f.2 λx c=>h x (gG _ c);omega
def Cm (g:List (List Nat)) (done:List Nat) (i:Nat):Prop:=i<g.length/\i∉done/\∀k,k<g.length ->k∉done ->i∉eW g k
theorem Ps:LJ g t k=0↔∀a,a<g.length ->a∉t ->k∉eW g a:=by
 unfold LJ;rw [Zr]
 constructor
 .intro h a b c i;have:=h _ (κ.2 ⟨a,Θ.2 b,Z⟩);rw [θ c] at this;have:=List.count_pos_iff.2 i;omega
 .intro h x f;obtain ⟨a,b,rfl⟩:=κ.1 f
  split
  .rfl
  .rename_i c;exact List.count_eq_zero.2 (h a (Θ.1 b) c)
theorem WB {n i:Nat} {f h:Nat ->Nat} {c:Nat} (b:i<n) (g:∀k,k<n ->k≠i ->f k=h k) (j:f i=h i+c):((List.range n).map f).sum=((List.range n).map h).sum+c:=by
 induction n with
 | zero=>omega
 | succ n a=>
  rw [gT,fU,fU,i6,i6];simp only [gA,List.map_nil,hZ,List.sum_nil]
  grind [fi]
theorem Ys (a:i<g.length) (b:i∉t) (j:Nat):LJ g t j=LJ g (t++ [i]) j+(eW g i).count j:=by
 unfold LJ
 grind [WB]
def QF (g:List (List Nat)) (K:Nat ->Nat) (l:List Nat):Prop:=∀i,i<l.length ->Cm g (l.take i) (e9 l i)/\∀y,Cm g (l.take i) y ->K (e9 l i)<=K y
theorem TJ (h:QF g K a) (c:Cm g a C) (b:∀y,Cm g a y ->K C<=K y):QF g K (a++ [C]):=by grind [e9,QF]
theorem cn (k:∀c b,c<g.length ->b<g.length ->K c=K b ->c=b) (j:QF g K a) (h:QF g K z):∀i,i<=a.length ->i<=z.length ->a.take i=z.take i:=by
 intro i
 induction i with
 | zero=>intro _ _;simp
 | succ i f=>
  intro r o;have e:=f (by omega) (by omega);rw [χ (by omega),χ (by omega),e,<-Ov (by omega),<-Ov (by omega)];have c:=j i (by omega);have b:=h i (by omega);rw [e] at c;rw [k _ _ c.1.1 b.1.1 (Nat.le_antisymm (c.2 _ b.1) (b.2 _ c.1))]
theorem cm (j:∀c b,c<g.length ->b<g.length ->K c=K b ->c=b) (i:QF g K a) (f:QF g K z) (el:∀y,¬Cm g a y) (k:∀y,¬Cm g z y):a=z:=by
 rcases Nat.lt_trichotomy a.length z.length with h | h | h
 all_goals (grind [cn,fw,QF])
theorem IV (h:QF g K a):a.Nodup/\∀x∈a,x<g.length:=by
 constructor
 .rw [List.nodup_iff_pairwise_ne,gc];intro i j b c k e;have:=(h j c).1.2.1;rw [Ov c,<-e] at this;exact this (iL.2 ⟨i,by rw [Ξ];omega,by simp⟩)
 .intro x f;obtain ⟨i,b,rfl⟩:=iL.1 f;have:=(h i b).1.1
  rwa [Ov b] at this
structure OI (g:List (List Nat)) (K:Nat ->Nat) (w q out ls:List Nat):Prop where
 len:w.length=g.length
 deg:∀j,j<g.length ->e9 w j=LJ g out j+ls.count j
 nd:(out++q).Nodup
 lt:∀x∈out++q,x<g.length
 zer:∀x,x<g.length ->(x∈out++q↔e9 w x=0)
 hp:ID K q
 grd:QF g K out
theorem nE {b:List Nat} (h:OI g K w x u b):u.length+x.length<=g.length:=by
 have:=Ck h.nd (m:=List.range g.length) λa c=>Θ.2 (h.lt a c)
 grind
theorem o0 (h:OI g K w x u []) (r:x≠ []):OI g K w (Oi K x) (u++ [e9 x 0]) (eW g (e9 x 0)):=by
 have B:=Yg K r;have A:0<x.length:=ic.2 r;have s:e9 x 0∈x:=DZ A;have b:e9 x 0<g.length:=h.lt _ (ν.2 (.inr s));have l:e9 x 0∉u:=λo=>(ip.1 h.nd).2.2 _ o _ s rfl
 have c:(u++ [e9 x 0]++Oi K x).Perm (u++x):=by
  grind
 have t:∀y,y<g.length ->(e9 w y=0↔∀k,k<g.length ->k∉u ->y∉eW g k):=λy f=>by
  rw [h.deg y f,List.count_nil,gg,Ps]
 refine ⟨h.len,λj z=>?_,c.nodup_iff.2 h.nd,λa b=>h.lt a (c.mem_iff.1 b),λa b=>?_,Yh h.hp r,TJ h.grd ⟨b,l,?_⟩ λy f=>?_⟩
 .rw [h.deg j z,List.count_nil,gg,Ys b l]
 .rw [c.mem_iff];exact h.zer a b
 .exact (t _ b).1 ((h.zer _ b).1 (ν.2 (.inr s)))
 .have:=(h.zer y f.1).2 ((t _ f.1).2 f.2.2);rcases ν.1 this with o | o
  .exact (f.2.1 o).elim
  .obtain ⟨i,v,rfl⟩:=iL.1 o;rw [<-Ov v];exact ce h.hp i v
theorem o5 {l:List Nat} (h:OI g K w x u (k::l)) (o:k<g.length):1<=e9 w k/\
  (e9 w k - 1=0 ->OI g K (w.set k (e9 w k - 1)) (L6 K x k) u l)/\(e9 w k - 1≠0 ->OI g K (w.set k (e9 w k - 1)) x u l):=by
 have z:e9 w k=LJ g u k+(l.count k+1):=by rw [h.deg k o,List.count_cons_self]
 have i:k<w.length:=by rw [h.len];exact o
 have r:k∉u++x:=λv=>by have:=(h.zer k o).1 v;omega
 have c:∀a,a<g.length ->e9 (w.set k (e9 w k - 1)) a=LJ g u a+l.count a:=λa b=>by
  rw [J7 i]
  split
  .grind
  .rename_i e;rw [h.deg a b,List.count_cons_of_ne (λs=>e s.symm)]
 refine ⟨by omega,λt=>?_,λt=>?_⟩
 .have f:(u++L6 K x k).Perm (k::(u++x)):=((Nh K x k).append_left u).trans List.perm_middle;refine ⟨by simpa using h.len,c,f.nodup_iff.2 (i5.2 ⟨r,h.nd⟩),λa b=>?_,λa b=>?_,Ni h.hp k,h.grd⟩
  .rcases fP.1 (f.mem_iff.1 b) with rfl | b
   .exact o
   .exact h.lt a b
  .rw [f.mem_iff,fP,J7 i]
   split
   .omega
   .rename_i e;rw [<-h.zer a b];exact ⟨λy=>y.elim (λs=>(e s).elim) id,.inr⟩
 .refine ⟨by simpa using h.len,c,h.nd,h.lt,λa b=>?_,h.hp,h.grd⟩;rw [J7 i]
  split
  .grind
  .exact h.zer a b
theorem kS (b:w.length=g.length) (c:∀j,j<g.length ->e9 w j=LJ g [] j)
 (l:x.Nodup) (k:∀a,a∈x↔a<g.length/\e9 w a=0) (s:ID K x):OI g K w x [] []:=
 ⟨b,λj o=>by rw [c j o];rfl,l,λa f=>((k a).1 f).1,λa f=>⟨λh=>((k a).1 h).2,λh=>(k a).2 ⟨f,h⟩⟩,s,λi r=>by simp at r⟩
theorem o4 (h:OI g K w [] u []):QF g K u/\∀y,¬Cm g u y:=by
 refine ⟨h.grd,λy a=>?_⟩;have:=(h.zer y a.1).2 (by rw [h.deg y a.1,List.count_nil,gg];exact Ps.2 a.2.2);rw [gN] at this;exact a.2.1 this
end Go.Proofs.YteifpcnphnhaoaaGreat
