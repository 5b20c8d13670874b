import Derived.Test.YteifpcnphnhaoaaGreatMg10
import Derived.Lib.SliceRun
namespace Go.Proofs.YteifpcnphnhaoaaGreat
open Go.RowKit
variable {F:Fr}
theorem NC {P:Program} {Q:Exit ->AS ->Prop} {n:Nat} {A:List (Nat×AV)} {W V:List (Nat×List AN)} {ops:Array Oper} {K:List Oper} {d J:Nat} {T E ty R:TypeId} {pos L:String} {aft O:Array Edge} {x lo:Operand} {α:Type} {emb:α ->D}
  (l:List α) (k:Nat) {z:Value} {zd:α} {f j m:Nat} {t:TypeId} {xs:List D} {kl:IntKind} {il:Int}
  (hx:AS.ev ⟨n,A,W⟩ x=some (.own f j m)) (hlo:AS.ev ⟨n,A,W⟩ lo=some (.d (.raw (.int kl il)))) (ho:hget W f j=some (.rowD t 1 xs)) (hl:xs=l.map emb) (hm:m=l.length) (hk:il=(k:Int)) (hkl:k<l.length)
  (hT:P.underlying T=some (.slice E)) (hE:A5 P E 1=true) (hz:∀w,(zeroValue E).run P w= .ok z w) (S:z.oneCell'=true) (hzc:z.cells= #[z]) (G:emb zd= .raw z)
  (hh:B7 W f j (.rowD t 1 ((l.take k++List.replicate (l.length - k) zd).map emb))=some V) (hd:Nat.blt d n=true) (hd':J=d)
  (hK:Ao P F ops K Q ⟨n,(d,.top)::A,V⟩):
  Ao P F ops (⟨some d,.slice T x (some lo) none none,ty,pos,aft,none⟩::⟨none,.call {callee:= .builtin .clear,args:= #[.tmp J],argTypes:= #[T]},R,L,O,none⟩::K) Q ⟨n,A,W⟩:=λρ B w hs=>by
 subst hl hm hk hd';have hr:=hs.ev hx
 generalize hv:B.eval x=u at hr
 obtain ⟨C,a,o,e1,h1,h2,h3,h4,h5⟩:=hs.rowD ho
 cases hr with
 | own hρ hn'=>
  rw [e1] at hρ;injection hρ with e2 e3 e4
  subst e2 e3 e4;have v:(l.map emb).length=l.length:=χ _;obtain ⟨b,e5,r,h6,h7,h8⟩:=h5 (by omega);have e5:a=some ⟨b,0,none⟩:=e5;subst e5;have hcap:=h4.1;have hne:¬o=k:=by omega
  have H:C.length=l.length*1:=by rw [<-v];exact h2.1
  have hcl:C.length<=r.toList.length:=by rw [<-h8,ϱ];omega
  have h6':w.heap[b]? =some (.cells r.toList.toArray t (0,0)):=by simpa using h6
  refine wpListIn_plain Z λK1 hk1=>F7 Z ?_;unfold Oper.wp
  have hex:(execOp B.eval ⟨some J,.slice T x (some lo) none none,ty,pos,aft,none⟩).run P w= .ok (.value (.slice (some ⟨b,k*1,none⟩) (l.length - k) (o - k))) w:=by
   simp only [execOp,hv,ψl,φa,hs.raw hlo,Sem.run_bind,Ka hT (ae hE) (Nat.le_of_lt hkl),Result.andThen_ok,Sem.run_pure,η hne,Addr.add,ψu]
   by_cases h0:k*1=0
   .rw [ς h0,h0]
   .rw [η h0]
  rw [hex];refine hk1 _ _ ?_;have hs1:SR F ⟨n,(J,.top)::A,W⟩ ρ (B.put (some J) (.slice (some ⟨b,k*1,none⟩) (l.length - k) (o - k))) w:=hs.put (IS hd) .top;have hev:(B.put (some J) (.slice (some ⟨b,k*1,none⟩) (l.length - k) (o - k))).eval (.tmp J)= .slice (some ⟨b,k*1,none⟩) (l.length - k) (o - k):=Jj (by rw [hs.size];exact IS hd);refine wpListIn_plain Z λK2 hk2=>F7 Z ?_;unfold Oper.wp
  have X:∀j,j<l.length - k ->(w.cell? ⟨b,k*1+j,none⟩).isSome=true:=λj hj=>by
   have hjl:k*1+j<C.length:=by omega
   rw [Do h6 h8 (ω hjl)];rfl
  have hfr:∀j,j<l.length - k ->w.frozen? ⟨b,k*1+j,none⟩=false:=λj hj=>by
   simp only [World.frozen?,h6];simp
  have M:=Lib.run_clear_slice (P:=P) w T E R z hT hz hzc S b (k*1) (l.length - k) (o - k) (by omega) X hfr
  have hex2:(execOp (B.put (some J) (.slice (some ⟨b,k*1,none⟩) (l.length - k) (o - k))).eval ⟨none,.call {callee:= .builtin .clear,args:= #[.tmp J],argTypes:= #[T]},R,L,O,none⟩).run P w= .ok (.value (.tuple #[])) (w.setCells b (k*1) (List.replicate (l.length - k) z)):=by
   have N:=hev
   generalize hV:(Value.slice (some ⟨b,k*1,none⟩) (l.length - k) (o - k))=Qqq at N M
   simp [execOp,resolve,invoke,builtin,hV,N,M]
  rw [hex2];refine hk2 _ _ ?_;obtain ⟨g1,g2,g3,g4⟩:=ZcI (b:=b) (List.replicate (l.length - k) z) (k*1) w;refine hK ρ _ _ ?_;have hlz:(List.replicate (l.length - k) z).length=l.length - k:=List.length_replicate;refine hs1.write f j _ _ ho (BB hh) g1 g2 g3 g4 (λb' hb'=>Zca _ _ _ _ (λe=>hb' (by rw [e1,e];rfl))) (λ_ _ e=>nomatch e) (λhrep=>?_) (Nat.le_of_eq (Dn _ _ _ _).symm)
  have U:∀c u,A1 w (F.O ρ W) c u ->A1 (w.setCells b (k*1) (List.replicate (l.length - k) z)) (F.O ρ V) c u:=λc u hr=>by
   have:=hrep (.d c) u (.d hr)
   cases this with | d h=>exact h
  have s:((l.take k++List.replicate (l.length - k) zd).map emb).length=l.length:=by simp;omega
  have hset:GL C (k*1) (List.replicate (l.length - k) z)=C.take k++List.replicate (l.length - k) z:=by
   apply χn
   intro i;rw [DI _ _ _ (by omega),hlz,List.getElem?_append,ϱ]
   by_cases hi:i<k
   .rw [η (by omega),ς (by omega),ψn hi]
   .rw [η (c:=i<min k C.length) (by omega)]
    by_cases hi2:i<l.length
    .rw [ς (by omega)];congr 1;omega
    .rw [η (by omega),ψm (by omega),ψm (by rw [hlz];omega)]
  rw [e1];refine ⟨GL C (k*1) (List.replicate (l.length - k) z),?_,⟨?_,λx' g=>?_,λY x' g q c I=>?_⟩,λx' g c I=>?_⟩
  .refine ⟨by rw [aq,s,H],.inr ⟨b,o,(GL r.toList (k*1) (List.replicate (l.length - k) z)).toArray,by rw [s,v],by omega,?_,by rw [s];omega,h4.2.1,by simp [aq,h7],?_⟩⟩
   .simpa using Zcb (fr:=(0,0)) (List.replicate (l.length - k) z) r.toList (k*1) w h6'
   .rw [s];show (GL r.toList (k*1) (List.replicate (l.length - k) z)).take (l.length*1)=_;rw [<-H,Lu _ _ _ _ (by omega) hcl];have:r.toList.take C.length=C:=by rw [H,<-v];exact h8
    rw [this]
  .rw [aq,s,H]
  .obtain ⟨y,p,rfl⟩:=Ξ.1 g;rcases ϖ.1 p with p | p
   .exact h2.2.1 _ (Ξ.2 ⟨y,ωs p,Z⟩)
   .rw [List.eq_of_mem_replicate p,G];rfl
  .have hc1:x'.cells.length=1:=by
    obtain ⟨y,p,rfl⟩:=Ξ.1 (ξ g);rcases ϖ.1 p with p | p
    .exact h2.2.1 _ (Ξ.2 ⟨y,ωs p,Z⟩)
    .rw [List.eq_of_mem_replicate p,G];rfl
   have hq0:q=0:=by have:=(φ.1 I).1;omega
   subst hq0;rw [hset];rw [ν] at g
   by_cases hi:Y<k
   .rw [φb (by rw [ϱ];omega),ψn hi] at g;have hx2:(l.map emb)[Y]? =some x':=by rw [ν];exact g
    obtain ⟨u,a1,a2,a3⟩:=h2.2.2 Y x' hx2 0 c I;refine ⟨u,?_,a2,U _ _ a3⟩;rw [φb (by rw [ϱ];omega),ψn (by omega)];exact a1
   .rw [List.getElem?_append_right (by rw [ϱ];omega),ϱ,Nat.min_eq_left (by omega)] at g
    have hir:Y - k<l.length - k:=by
     have:((List.replicate (l.length - k) zd)[Y - k]?).isSome:=by
      cases hq:(List.replicate (l.length - k) zd)[Y - k]? with
      | none=>rw [hq] at g;cases g
      | some _=>rfl
     simpa using this
    rw [List.getElem?_replicate,ς hir] at g;injection g with g
    rw [G] at g;subst g;simp only [D.cells,List.getElem?_cons_zero,Option.some.injEq] at I;subst I;refine ⟨z,?_,S,.raw S⟩;rw [List.getElem?_append_right (by rw [ϱ];omega),ϱ,List.getElem?_replicate,ς (by omega)]
  .obtain ⟨y,p,rfl⟩:=Ξ.1 g;rcases ϖ.1 p with p | p
   .exact h3 _ (Ξ.2 ⟨y,ωs p,Z⟩) c I
   .rw [List.eq_of_mem_replicate p,G] at I;simp only [D.cells,κ] at I;subst I;rfl
theorem SR.ghost {s:AS} {k:Nat ->Nat ->Value} {j:Act} {w:World} (h:SR F s k j w) (g f i:Nat) (l:Nat.beq f g=false) {a:List (Nat×AV)} {c d:Hp} (p:Ac g s.env=some a) (o:Aa g s.hp=some c) (m:Cj c g (.addr f i (k f i))=some d):
  SR F ⟨s.n,a,d⟩ (upd k g 0 .nilFunc) j w:=by
 obtain ⟨q,u⟩:=Hk m
 refine h.set g 0 (.addr f i (k f i)) .nilFunc p o q (λt v r=>?_) (λb n=>by cases n) Z Z Z (Γ _) (λ_ _ _=>rfl) λ_=>⟨Z,OF λe=>(ωx l) e.1⟩
 grind [BG]
section
variable {P:Program} {F:Fr} {Q:Exit ->AS ->Prop} {c:Code} {ops:Array Oper} {l:List Oper} {n:Nat} {env env':List (Nat×AV)} {hp hp1:Hp}
variable {a:Option (List Nat×Nat)} {d:Nat ->Nat ->Value} {e:List (D×D)} {f:Value} {i g:Nat} {h:Act} {w:World} {s:AS}
theorem VW (g f i:Nat) (p:hget hp f i=some (.map a e)) (d:Nat.beq f g=false) (r:Ac g env=some env') (q:Aa g hp=some hp1) (o:hfam hp1 g=none)
  (h:∀m:Nat,CG P F c Q ⟨n,env',(g,[.addr f i (.map (some m))])::hp1⟩):CG P F c Q ⟨n,env,hp⟩:=λs j w k=>by
 obtain ⟨m,_,_,b,_⟩:=k.heap.sim f i _ p;exact h m _ j w (k.ghost g f i d r q (by rw [b];unfold Cj;rw [o];rfl))
theorem dE (g f i:Nat) (p:hget hp f i=some (.map a e)) (d:Nat.beq f g=false) (r:Ac g env=some env') (q:Aa g hp=some hp1) (o:hfam hp1 g=none)
  (h:∀m:Nat,Ao P F ops l Q ⟨n,env',(g,[.addr f i (.map (some m))])::hp1⟩):Ao P F ops l Q ⟨n,env,hp⟩:=λs j w k=>by
 obtain ⟨m,_,_,b,_⟩:=k.heap.sim f i _ p;exact h m _ j w (k.ghost g f i d r q (by rw [b];unfold Cj;rw [o];rfl))
theorem SR.toRaw (k:SR F s d h w) (t e j:Nat) (m:get s.env t=some (.map g i)\/get s.env t=some (.ptr g i 0)) (u:hget s.hp e j=some (.addr g i f)):SR F ⟨s.n,(t,.d (.raw f))::s.env,s.hp⟩ d h w:=by
 obtain ⟨_,p⟩:=k.heap.sim e j _ u;refine ⟨k.size,k.defs,λr a q=>?_,k.heap⟩;rcases Mp q with ⟨rfl,rfl⟩ | ⟨_,q⟩
 .rcases m with m | m
  .have o:=k.env t _ m
   generalize h.tmps.getD t undef=x at o
   cases o with
   | map b=>rw [b] at p;subst p;exact .d (.raw Z)
  .have o:=k.env t _ m
   generalize h.tmps.getD t undef=x at o
   cases o with
   | ptr b=>rw [b] at p;subst p;exact .d (.raw Z)
 .exact k.env r a q
theorem SR.rawMap {s:AS} {o:Nat ->Nat ->Value} {b:Act} {w:World} (e:SR F s o b w) (t g j:Nat) {f i m:Nat} (u:get s.env t=some (.d (.raw (.map (some m))))) (v:hget s.hp g j=some (.addr f i (.map (some m)))):SR F ⟨s.n,(t,.map f i)::s.env,s.hp⟩ o b w:=by
 obtain ⟨_,r⟩:=e.heap.sim g j _ v;refine ⟨e.size,e.defs,λq a k=>?_,e.heap⟩;rcases Mp k with ⟨rfl,rfl⟩ | ⟨_,k⟩
 .have p:=e.env t _ u
  generalize b.tmps.getD t undef=x at p
  cases p with
  | d h=>cases h with | raw _=>exact .map r
 .exact e.env q a k
theorem Y7 (t a j:Nat) (b:get env t=some (.map g i)\/get env t=some (.ptr g i 0)) (k:hget hp a j=some (.addr g i f)) (h:CG P F c Q ⟨n,(t,.d (.raw f))::env,hp⟩):CG P F c Q ⟨n,env,hp⟩:=λ_ _ _ e=>h _ _ _ (e.toRaw t a j b k)
theorem o_toRaw (t a j:Nat) (b:get env t=some (.map g i)\/get env t=some (.ptr g i 0)) (k:hget hp a j=some (.addr g i f)) (h:Ao P F ops l Q ⟨n,(t,.d (.raw f))::env,hp⟩):Ao P F ops l Q ⟨n,env,hp⟩:=λ_ _ _ e=>h _ _ _ (e.toRaw t a j b k)
theorem Dv (t a j:Nat) {m:Nat} (b:get env t=some (.d (.raw (.map (some m))))) (k:hget hp a j=some (.addr g i (.map (some m)))) (h:Ao P F ops l Q ⟨n,(t,.map g i)::env,hp⟩):Ao P F ops l Q ⟨n,env,hp⟩:=λ_ _ _ e=>h _ _ _ (e.rawMap t a j b k)
end
variable {a:Nat ->Nat ->Value} {c:Act} {w:World} {s:AS} {F:Fr} {f:Nat} {d:Hp} {t:TypeId} {e:Nat} {m:Ap} {g:Hp} {h:World} {i:Ap}
abbrev pV (b off:Nat):Value:= .pointer (some ⟨b,off,none⟩)
abbrev pD (b off:Nat):D:= .raw (pV b off)
abbrev sV (b n cap:Nat):Value:= .slice (some ⟨b,0,none⟩) n cap
abbrev MF:=Nat ->Option Ap
def B6 (M:MF) (b:Nat) (m:Ap):MF:=λi=>if i=b then some m else M i
def FE (M:MF) (b:Nat):MF:=λi=>if i=b then none else M i
theorem GF (M:MF) (b:Nat) (m:Ap):B6 M b m b=some m:=by unfold B6;rw [ς rfl]
variable {M:MF}
theorem IB {i:Nat} (h:i≠e):B6 M e m i=M i:=by unfold B6;rw [η h]
theorem Qt (M:MF) (b:Nat):FE M b b=none:=by unfold FE;rw [ς rfl]
theorem He {i:Nat} (h:i≠e):FE M e i=M i:=by unfold FE;rw [η h]
def Bp:Hp ->Nat ->MF ->Option Hp
 | [],_,_=>none
 | (k,l)::r,f,M=>match Nat.beq k f with
  | true=>match isM l with
   | some _=>some ((k,[.multi M])::r)
   | none=>none
  | false=>match Bp r f M with
   | none=>none
   | some r'=>some ((k,l)::r')
theorem Gj {M:MF} (h:hfam g f=some [.multi M]) (b:Nat):hget g f b=(M b).map (Ap.at_ b):=by unfold hget;rw [h];rfl
theorem DZ {b:MF} (h:Bp g f b=some d):∀a i,hget d a i=if a=f then (b i).map (Ap.at_ i) else hget g a i:=by
 induction g generalizing d with
 | nil=>simp [Bp] at h
 | cons p r c=>
  obtain ⟨k,l⟩:=p;simp only [Bp] at h
  split at h
  .grind [hget,hfam,gl,isM,IP]
  .rename_i n
   have m:=ωx n
   split at h
   .cases h
   .rename_i o j
    injection h with h;subst h
    intro a i
    by_cases e:k=a
    .grind [hget,hfam,ψw]
    .have:=c j a i
     grind [hget,hfam]
theorem SR.writeM (k:SR F s a c w) (f b:Nat) (C:hfam s.hp f=some [.multi M]) (B:M b=some m) (z:Bp s.hp f (B6 M b i)=some d) (q:h.os=w.os) (l:h.tape=w.tape) (o:h.output=w.output) (x:h.heap.size=w.heap.size)
  (y:∀p,p≠b ->h.heap[p]? =w.heap[p]?) (u:Bu (a f b)=some b) (n:(∀A v,A9 w (F.O a s.hp) a A v ->A9 h (F.O a d) a A v) ->Av h (F.O a d) a (i.at_ b) (a f b)) (hdr:w.drawn<=h.drawn:=by exact Γ _):SR F ⟨s.n,s.env,d⟩ a c h:=by
 refine k.write f b (m.at_ b) (i.at_ b) (by rw [Gj C,B];rfl) (λg j=>?_) q l o x (λp r=>y p λe=>r (by rw [u,e])) (λt D e=>absurd e Ap.notBlk) n hdr;rw [DZ z]
 grind [Gj,GF,IB]
theorem SR.writeN (e:SR F s a c w) (f b:Nat) (u:hfam s.hp f=some [.multi M]) (t:M b=some m) (r:Bp s.hp f (B6 M b i)=some d) (l:h.os=w.os) (g:h.tape=w.tape) (k:h.output=w.output) (p:h.heap.size=w.heap.size)
  (q:∀n,n≠b ->h.heap[n]? =w.heap[n]?) (o:a f b=pV b 0) (j:(∀A v,A9 w (F.O a s.hp) a A v ->A9 h (F.O a d) a A v) ->Av h (F.O a d) a (i.at_ b) (a f b)) (hdr:w.drawn<=h.drawn:=by exact Γ _):SR F ⟨s.n,s.env,d⟩ a c h:=
 e.writeM f b u t r l g k p q (by rw [o];rfl) j hdr
theorem SR.cellsN {F:Fr} {s:AS} {e:Nat ->Nat ->Value} {g:Act} {w:World} (h:SR F s e g w) {f b:Nat} {M:MF} {t:TypeId} {d:List D} (k:hfam s.hp f=some [.multi M]) (i:M b=some (.cells t d)):e f b=pV b 0/\∃a:List Value,w.heap[b]? =some (.cells a.toArray t (0,0))/\a.length=d.length/\(∀(j:Nat) c u,d[j]? =some c ->a[j]? =some u ->A1 w (F.O e s.hp) c u)/\∀u∈a,u.oneCell'=true:=
 h.heap.sim f b (.nb b t d) (by rw [Gj k,i];rfl)
theorem SR.rowN (h:SR F s a c w) {k g:Nat} {i:List D} (m:hfam s.hp f=some [.multi M]) (l:M e=some (.row t k g i)):a f e=pV e 0/\∃j:List Value,w.ownsRow 0 t k (sV e i.length g) i.length j/\GG D.cells k (A1 w (F.O a s.hp)) i j/\∀x∈i,∀d∈x.cells,d.one=true:=
 h.heap.sim f e (.nr e t k g i) (by rw [Gj m,l];rfl)
section
variable {P:Program} {F:Fr} {s:AS} {d:Nat} {x y:Operand} {T E:TypeId} {ty:TypeId} {pos:String} {aft:Array Edge} {g:Option (Nat×Bool)} {k:IntKind} {i:Int}
variable {t:TypeId} {a:List D} {M:MF} {c:Nat} {e:List D} {f p h n j:Nat} {m:D}
theorem Dk (a:s.ev x=some (.d (pD c f))) (h:Nat.blt d s.n=true):AA P F ⟨some d,.nilCheck x,ty,pos,aft,g⟩ s d (.d (pD c f)):=
 Cz _ h λ_ j w e=>⟨pV c f,by simp [execOp,e.raw a],.d (.raw Z)⟩
theorem Cg {a o i:Nat} {r:Bool} (e:s.ev x=some (.d (pD c f))) (p:AH P T i=some (o,n,r)) (m:Nat.blt 0 n=true) (l:f+o=a) (q:Nat.blt d s.n=true):
  AA P F ⟨some d,.fieldAddr T x i,ty,pos,aft,g⟩ s d (.d (pD c a)):=
 Cz _ q λu t w j=>by
  have h:=j.raw e;subst l;exact ⟨pV c (f+o),by simp [execOp,h,Ei p m],.d (.raw Z)⟩
theorem EG {f b a:Nat} {M:MF} {t:TypeId} {o:List D} {c:D} (p:s.ev x=some (.d (pD b a))) (v:hfam s.hp f=some [.multi M]) (r:M b=some (.cells t o)) (n:o[a]? =some c) (u:BW P T=true) (q:Nat.blt d s.n=true):
  AA P F ⟨some d,.load T x,ty,pos,aft,g⟩ s d (.d c):=
 Cz _ q λG C w m=>by
  have l:=m.raw p;obtain ⟨_,j,B,A,z,H⟩:=m.cellsN v r;have h:a<j.length:=by rw [A];exact (φ.1 n).1
  have e:w.cell? ⟨b,a,none⟩=some j[a]:=by
   rw [cell_of_row w b a j.toArray t (0,0) B];simp [h]
  exact ⟨j[a],by simp [execOp,l,Instr.loadAt,Instr.sureAddr,loadVar,ET u,e],.d (z a c _ n (ω h))⟩
theorem D7 {f b a n:Nat} {M:MF} {t:TypeId} {A l:List D} (I:s.ev x=some (.d (pD b a))) (Q:hfam s.hp f=some [.multi M]) (N:M b=some (.cells t A)) (O:CB P T n=true) (H:(A.drop a).take n=l) (q:l.length=n) (W:∀c∈l,c.one=true) (L:Nat.blt d s.n=true):
  AA P F ⟨some d,.load T x,ty,pos,aft,g⟩ s d (.d (.agg l)):=
 Cz _ L λZ Y w C=>by
  have p:=C.raw I;obtain ⟨_,o,z,h2,V,h4⟩:=C.cellsN Q N;obtain ⟨⟨X,U,S⟩,R⟩:=Fh O
  have K:a+n<=A.length\/n=0:=by
   rw [<-H,ϱ,χd] at q;omega
  have e:((o.drop a).take n).length=n:=by rw [ϱ,χd];omega
  have J:=run_loadAt_mid (P:=P) w b a T ((o.drop a).take n) X (λj v h=>by
   rw [cell_of_row w b (a+j) o.toArray t (0,0) z];rw [χg] at h
   split at h
   .rw [χh] at h;simpa using h
   .cases h) U S (by rw [e];exact R)
  refine ⟨.agg ((o.drop a).take n).toArray,by simp [execOp,p,J],.d (.agg (by rw [e,q]) W λm c u r B=>?_)⟩;have G:m<n:=by rw [<-q];exact (φ.1 r).1
  rw [<-H,χg,ς G,χh] at r;rw [χg,ς G,χh] at B;exact V _ c u r B
theorem XX {a:Option Addr} {n cap:Nat} (b:s.ev x=some (.d (.raw (.slice a n cap)))) (f:P.underlying T=some (.slice E)) (e:Nat.blt d s.n=true):
  AA P F ⟨some d,.call {callee:= .builtin .len,args:= #[x],argTypes:= #[T]},ty,pos,aft,g⟩ s d (.d (.raw (.int .i64 (n:Int)))):=
 Cz _ e λ_ h w c=>⟨_,by simp [execOp,resolve,invoke,builtin,Builtin.len_,run_underlying f,c.raw b,goInt],.d (.raw Z)⟩
theorem ZE (m:Nat) (l:s.ev x=some (.d (.raw (sV c n h)))) (f:s.ev y=some (.d (.raw (.int k i)))) (p:i=(m:Int)) (o:m<n) (r:P.underlying T=some (.slice E)) (t:A5 P E j=true) (q:Nat.blt d s.n=true):
  AA P F ⟨some d,.indexAddr T x y,ty,pos,aft,g⟩ s d (.d (pD c (m*j))):=
 Cz _ q λv u w e=>by
  have a:=e.raw l;subst p;exact ⟨pV c (m*j),by simp [execOp,Instr.indexAt,asIntOf,e.raw f,a,run_underlying r,o,ZcB (ae t),Addr.add_mid],.d (.raw Z)⟩
theorem ZcL {f b off r e q:Nat} {M:MF} {t:TypeId} {h:List D} {z c:D} {p:Nat} (C:s.ev x=some (.d (pD b p))) (G:p=e*r+off) (N:hfam s.hp f=some [.multi M]) (K:M b=some (.row t r q h)) (v:h[e]? =some z) (J:z.cells[off]? =some c) (L:BW P T=true) (I:Nat.blt d s.n=true):
  AA P F ⟨some d,.load T x,ty,pos,aft,g⟩ s d (.d c):=
 Cz _ I λX W w A=>by
  subst G;have j:=A.raw C;obtain ⟨_,Y,S,Q,h3⟩:=A.rowN N K;obtain ⟨g1,U⟩:=S;have H:e<h.length:=(φ.1 v).1;rcases U with ⟨o,_⟩ | ⟨b',B,V,o,_,O,h7,h8,Z,n⟩
  .cases o
  .injection o with e2 e3 e4;injection e2 with e2;injection e2 with e2;subst e2
   obtain ⟨u,m,R,l⟩:=Q.2.2 e z v off c J;have a:=Do O n m;exact ⟨u,by simp [execOp,j,Instr.loadAt,Instr.sureAddr,loadVar,ET L,a],.d l⟩
theorem EL {f b m e L:Nat} {M:MF} {t:TypeId} {N:List D} {h:List D} {p:Nat} (X:s.ev x=some (.d (pD b p))) (Z:p=e*m) (hM:hfam s.hp f=some [.multi M]) (hb:M b=some (.row t m L N)) (R:N[e]? =some (.agg h)) {Q:Nat} (I:h.length=Q) (hT:CB P T Q=true) (hd:Nat.blt d s.n=true):
  AA P F ⟨some d,.load T x,ty,pos,aft,g⟩ s d (.d (.agg h)):=
 Cz _ hd λW act w S=>by
  subst Z I;have C:=S.raw X;obtain ⟨_,O,h1,h2,h3⟩:=S.rowN hM hb;obtain ⟨g1',J⟩:=h1;rcases J with ⟨K,_⟩ | ⟨b',V,cur,K,_,h6,h7,h8',h9,h8⟩
  .cases K
  .injection K with e2 e3 e4;injection e2 with e2;injection e2 with e2;subst e2
   obtain ⟨⟨ds,g1,g2⟩,g3⟩:=Fh hT;obtain ⟨l,H,G⟩:=Ou (n:=h.length) λq=>(O[e*m+q]?).getD undef
   have j:∀q,q<h.length ->∃u,O[e*m+q]? =some u/\l[q]? =some u/\A1 w (F.O W s.hp) (h[q]?.getD (.raw undef)) u:=λq j=>by
    obtain ⟨u,r,B,A⟩:=h2.2.2 e _ R q h[q] (ω j);refine ⟨u,r,by rw [G q j,r];rfl,?_⟩;rw [ω j];exact A
   have Y:=run_loadAt_mid (P:=P) w b (e*m) T l ds (λq v o=>by
    have a:q<h.length:=by rw [<-H];exact (φ.1 o).1
    obtain ⟨u,r,B,_⟩:=j q a;rw [B] at o;injection o with o;subst o
    exact Do h6 h8 r) g1 g2 (by rw [H];exact g3)
   refine ⟨.agg l.toArray,by simp [execOp,C,Y],.d (.agg H (h3 _ (ξ R)) λq c u U z=>?_)⟩;have a:q<h.length:=(φ.1 U).1;obtain ⟨u',r,B,A⟩:=j q a;rw [B] at z;injection z with z;subst z
   rw [U] at A;exact A
theorem QT {C:List (Nat×AV)} {J H:Hp} {f off:Nat} {v:D} (hx:AS.ev ⟨n,C,J⟩ x=some (.d (pD c off))) (hy:AS.ev ⟨n,C,J⟩ y=some (.d v)) (hv:v.one=true) (hM:hfam J f=some [.multi M]) (Y:M c=some (.cells t a)) (O:off<a.length)
  (hh:Bp J f (B6 M c (.cells t (a.set off v)))=some H) (hT:A5 P T 1=true):AG P F ⟨none,.store T x y,ty,pos,aft,g⟩ ⟨n,C,J⟩ ⟨n,C,H⟩ (λ_ _=>true):=λS Q w R=>by
 have V:=R.raw hx;have G:=R.repD hy;obtain ⟨K,us,h1,h2,h3,h4⟩:=R.cellsN hM Y
 generalize U:Q.eval y=A at G
 have r:=G.oneCell hv;have m:A.cells.toList=[A]:=by cases A<;>first | rfl | cases r
 have L:=G8 (P:=P) (T:=T) (o:=off) (v:=A) h1 (by rw [m];exact ae hT) (by rw [m];simp only [υ];omega) (by rw [m];intro u z;rw [κ.1 z];exact r)
 have W:(execOp Q.eval ⟨none,.store T x y,ty,pos,aft,g⟩).run P w= .ok .skip (w.setCells c off A.cells.toList):=by
  simp [execOp,V,U,L]
 unfold Oper.wp;rw [W];obtain ⟨g1,g2,g3,g4⟩:=ZcI (b:=c) A.cells.toList off w;refine ⟨S,R.writeN f c hM Y hh g1 g2 g3 g4 (λb' X=>Zca _ _ _ _ X) K (λN=>?_) (Nat.le_of_eq (Dn _ _ _ _).symm),λ_ _ _=>rfl⟩;rw [K]
 have p:∀(l:D) u,A1 w (F.O S J) l u ->A1 (w.setCells c off A.cells.toList) (F.O S H) l u:=λl u h=>by
  have:=N (.d l) u (.d h)
  cases this with | d h=>exact h
 refine ⟨Z,GL us off A.cells.toList,Zcb _ _ _ _ h1,by rw [aq,ωr];exact h2,λj l u I z=>?_,λu z=>?_⟩
 .rw [DI _ _ _ (by rw [m];simp only [υ];omega),m] at z;rw [χw] at I
  by_cases e:off=j
  .subst e;rw [ς Z,ς O] at I;rw [ς (by simp only [υ];omega),Nat.sub_self] at z;injection I with I;subst I
   simp at z;subst z
   exact p _ _ G
  .rw [η e] at I;rw [η (by simp only [υ];omega)] at z;exact p _ _ (h3 j l u I z)
 .obtain ⟨j,hj,rfl⟩:=ωq z;have B:=ω hj;rw [DI _ _ _ (by rw [m];simp only [υ];omega)] at B
  split at B
  .have h6:∀q∈A.cells.toList,q.oneCell'=true:=by rw [m];intro q hq;rw [κ.1 hq];exact r
   exact h6 _ (ξ B)
  .exact h4 _ (ξ B)
end
variable {a:Nat ->Nat ->Value} {w:World} {c:Act} {F:Fr} {d:List (Nat×AV)} {s:AS} {M:MF} {e:List Nat} {f:List (Nat×AV)} {T:TypeId} {g:List D} {h:Hp} {i j k n:Nat} {o p q:Hp} {t:AN}
theorem SR.move (m:SR F s a c w) (f1 r f2 k:Nat) {o1 o2:AN} {v2:Value} {env':List (Nat×AV)} {hp':Hp}
  (S:hget s.hp f1 r=some o1) (D:hget s.hp f2 k=none) (I:Bu v2=Bu (a f1 r)) (M:F.pin f1 r=none)
  (J:∀f i l,hget hp' f i=some l ->(f=f2/\i=k/\l=o2)\/(¬(f=f2/\i=k)/\¬(f=f1/\i=r)/\∃o,hget s.hp f i=some o/\(∀w O a v,Av w O a o v ->Av w O a l v)/\¬l.Refs f2 k))
  (Y:hget hp' f2 k=some o2) (X:∀f i t U,hget s.hp f i=some (.blk t U) ->¬(f=f1/\i=r) ->∃A,hget hp' f i=some (.blk t A))
  (P:∀f i o,hget s.hp f i=some o ->¬(f=f1/\i=r) ->∃l,hget hp' f i=some l)
  (hE:∀t d,get env' t=some d ->A9 w (F.O a s.hp) a d (c.tmps.getD t undef)/\¬d.Refs f2 k)
  (C:Av w (F.O a s.hp) (upd a f2 k v2) o2 v2):SR F ⟨s.n,env',hp'⟩ (upd a f2 k v2) c w:=by
 have x:∀b,BK (upd a f2 k v2) hp' b↔BK a s.hp b:=λb=>by
  constructor
  .rintro ⟨f,i,l,y,g⟩;rcases J f i l y with ⟨rfl,rfl,rfl⟩ | ⟨n,_,o,p,_⟩
   .rw [QS,I] at g;exact ⟨f1,r,o1,S,g⟩
   .rw [OF n] at g;exact ⟨f,i,o,p,g⟩
  .rintro ⟨f,i,o,y,g⟩
   by_cases e:f=f1/\i=r
   .obtain ⟨rfl,rfl⟩:=e;exact ⟨f2,k,o2,Y,by rw [QS,I];exact g⟩
   .have n:¬(f=f2/\i=k):=λn=>by rw [n.1,n.2,D] at y;cases y
    obtain ⟨l,p⟩:=P f i o y e;exact ⟨f,i,l,p,by rw [OF n];exact g⟩
 have Q:F.O (upd a f2 k v2) hp'=F.O a s.hp:=funext λb=>propext ⟨λh=>h.imp id (x b).1,λh=>h.imp id (x b).2⟩;have z:∀(f i:Nat),¬(f=f2/\i=k) ->upd a f2 k v2 f i=a f i:=λf i e=>OF e;refine ⟨m.size,Q▸m.defs,λt d K=>?_,?_⟩
 .obtain ⟨p,R⟩:=hE t d K;show A9 w (F.O (upd a f2 k v2) hp') _ _ _;rw [Q];exact p.mono (Γ _) (λ_ _ _=>rfl) (λ_ _ h=>h) λf i L=>z f i λe=>R (by rw [<-e.1,<-e.2];exact L)
 .refine ⟨λf i l y=>?_,λf i G B o l b y N g j=>?_,λb g=>m.heap.mine b ((x b).1 g),m.heap.os,m.heap.tape,m.heap.output,m.heap.size0,m.heap.keep,λf i b u=>?_,m.heap.drawn⟩
  .show Av w (F.O (upd a f2 k v2) hp') _ _ _;rw [Q];rcases J f i l y with ⟨rfl,rfl,rfl⟩ | ⟨n,_,o,p,R,h5⟩
   .rw [QS];exact C
   .rw [OF n];exact (R _ _ _ _ (m.heap.sim f i o p)).mono (Γ _) (λ_ _ _=>rfl) (λ_ _ h=>h) (λ_ _=>rfl) λG B L=>z G B λe=>h5 (by rw [<-e.1,<-e.2];exact L)
  .rcases J f i o y with ⟨rfl,rfl,_⟩ | ⟨n,e3,q,p,_⟩<;>rcases J G B l N with ⟨rfl,rfl,_⟩ | ⟨H,T,W,E,_⟩
   .exact ⟨Z,Z⟩
   .rw [QS,I] at g;rw [OF H] at j;exact absurd (m.heap.inj G B f1 r W o1 b E S j g) T
   .rw [QS,I] at j;rw [OF n] at g;exact absurd (m.heap.inj f i f1 r q o1 b p S g j) e3
   .rw [OF n] at g;rw [OF H] at j;exact m.heap.inj f i G B q W b p E g j
  .obtain ⟨a1,t,U,V⟩:=m.heap.pins f i b u;have e1:¬(f=f1/\i=r):=λe=>by rw [e.1,e.2,M] at u;cases u
   have n:¬(f=f2/\i=k):=λe=>by rw [e.1,e.2,D] at V;cases V
   obtain ⟨A,p⟩:=X f i t U V e1;exact ⟨by rw [OF n];exact a1,t,A,p⟩
theorem Kg (a:F.pn=e) (h:memB k e=false):F.pin k i=none:=by
 cases hh:F.pin k i with
 | none=>rfl
 | some b=>
  have:=G4.2 (a▸F.hpn k i b hh)
  grind
theorem SR.absorb {F:Fr} {s:AS} {S:Nat ->Nat ->Value} {G:Act} {w:World} (H:SR F s S G w) (t g f:Nat) {M:MF} {T:TypeId} {cs:List AV} {ds:List D} {pn:List Nat} {r y:List (Nat×AV)} {N B A:Hp} {P:Nat ->Hp} (hF:F.pn=pn) (Y:memB g pn=false) (hne:Nat.beq g f=false)
  (ht:get s.env t=some (.ptr g 0 0)) (n:hfam s.hp g=some [.blk T cs]) (hcs:cs=ds.map .d) (I:hfam s.hp f=some [.multi M]) (hE:Ac g s.env=some r) (hE2:Ac f r=some y) (hH:Aa g s.hp=some N) (hH2:Aa f N=some B) (hh:C6 g B=some A) (hm:∀b,Bp A f (B6 M b (.cells T ds))=some (P b)):
  ∃b,M b=none/\SR F ⟨s.n,(t,.d (pD b 0))::y,P b⟩ (upd S f b (pV b 0)) G w:=by
 subst hcs;have C:g≠f:=ωx hne;have ho:hget s.hp g 0=some (.blk T (ds.map .d)):=by unfold hget;rw [n];rfl
 obtain ⟨b,us,z,k1,k2,k3,k4⟩:=H.heap.sim g 0 _ ho
 have E:M b=none:=by
  cases hmb:M b with
  | none=>rfl
  | some m=>
   have h2:hget s.hp f b=some (m.at_ b):=by rw [Gj I,hmb];rfl
   have hv:Bu (S f b)=some b:=by
    have:=H.heap.sim f b _ h2
    cases m with
    | cells _ _=>rw [this.1];rfl
    | row _ _ _ _=>rw [this.1];rfl
    | map _ _=>rw [this.1];rfl
   exact absurd (H.heap.inj g 0 f b _ _ b ho h2 (by rw [z];rfl) hv).1 C
 refine ⟨b,E,?_⟩;obtain ⟨a1,a2⟩:=BG hH;obtain ⟨c1,c2⟩:=BG hH2;have X:=Hl hh;have q:=DZ (hm b);have hfam3:∀i,hget A f i=hget B f i:=λi=>by rw [X,η (λe=>C e.symm)]
 refine H.move g 0 f b ho (by simp only [Gj I,E,φa]) (by rw [z]) (Kg hF Y) (λQ i o' k=>?_) (by rw [q,ς Z,GF];rfl) (λQ i t' cs' k p=>?_) (λQ i o k p=>?_) (λt' a ha=>?_) ?_
 .rw [q] at k
  by_cases e:Q=f
  .subst e;rw [ς rfl] at k
   by_cases R:i=b
   .grind [GF]
   .rw [IB R] at k;refine .inr ⟨λh=>R h.2,λh=>C h.1.symm,o',by rw [Gj I];exact k,λ_ _ _ _ h=>h,?_⟩
    cases hmi:M i with
    | none=>rw [hmi] at k;cases k
    | some m=>rw [hmi] at k;injection k with k;subst k;exact Ap.norefs
  .rw [η e,X] at k
   split at k
   .cases k
   .rename_i e3
    obtain ⟨o2,L,K⟩:=c1 _ _ _ k;obtain ⟨V,J,U⟩:=a1 _ _ _ L;exact .inr ⟨λh=>e h.1,λh=>e3 h.1,V,J,λw O S v h=>K.1 _ _ _ _ (U.1 _ _ _ _ h),λW=>Sf (K.2.1 _ _ W) Z⟩
 .have e1:Q≠f:=λe=>by
   subst e;rw [Gj I] at k
   cases hmi:M i with
   | none=>rw [hmi] at k;cases k
   | some m=>rw [hmi] at k;injection k with k;exact Ap.notBlk k
  obtain ⟨o2,L,K⟩:=a2 _ _ _ k;obtain ⟨cs2,rfl⟩:=K.2.2.1 _ _ rfl;obtain ⟨V,J,U⟩:=c2 _ _ _ L;obtain ⟨cs3,rfl⟩:=U.2.2.1 _ _ rfl;refine ⟨cs3,?_⟩;rw [q,η e1,X,η]
  .exact J
  .rintro rfl
   have:i=0:=by
    unfold hget at k;rw [n] at k
    match i,k with
    | 0,_=>rfl
    | i+1,k=>cases k
   exact p ⟨Z,this⟩
 .by_cases e:Q=f
  .subst e
   by_cases R:i=b
   .subst R;rw [Gj I,E] at k;cases k
   .exact ⟨o,by rw [q,ς Z,IB R,<-Gj I];exact k⟩
  .obtain ⟨o2,L,K⟩:=a2 _ _ _ k;obtain ⟨V,J,U⟩:=c2 _ _ _ L;refine ⟨V,?_⟩;rw [q,η e,X,η]
   .exact J
   .rintro rfl
    have:i=0:=by
     unfold hget at k;rw [n] at k
     match i,k with
     | 0,_=>rfl
     | i+1,k=>cases k
    exact p ⟨Z,this⟩
 .rcases Mp ha with ⟨rfl,rfl⟩ | ⟨_,ha⟩
  .have W:=H.env t _ ht
   generalize G.tmps.getD t undef=x at W
   cases W with
   | @ptr _ _ _ b' l=>
    rw [z] at l;injection l with l;injection l with l;injection l with l;subst l
    exact ⟨.d (.raw Z),λh=>nomatch h⟩
  .rcases Bc hE2 ha with rfl | ⟨h3,h4⟩
   .exact ⟨.top,λh=>nomatch h⟩
   .rcases Bc hE h3 with rfl | ⟨h5,_⟩
    .exact ⟨.top,λh=>nomatch h⟩
    .exact ⟨H.env t' _ h5,h4 b⟩
 .refine ⟨Z,us,k1,by rw [k2,χ],λj c u hc hu=>?_,k4⟩;have:=k3 j (.d c) u (by rw [ν,hc];rfl) hu
  cases this with | d h=>exact h
variable {m:Ap}
theorem Ap.val (d:SR F s a c w) (g:hfam s.hp j=some [.multi M]) (e:M n=some m):Bu (a j n)=some n:=by
 have h:hget s.hp j n=some (m.at_ n):=by rw [Gj g,e];rfl
 have:=d.heap.sim j n _ h
 cases m with
 | cells _ _=>rw [this.1];rfl
 | row _ _ _ _=>rw [this.1];rfl
 | map _ _=>rw [this.1];rfl
def Ap.v (i:Nat):Ap ->Value
 | .map _ _=> .map (some i)
 | _=>pV i 0
theorem Ap.v_blk:Bu (m.v i)=some i:=by cases m<;>rfl
theorem Ap.valE (d:SR F s a c w) (g:hfam s.hp j=some [.multi M]) (e:M n=some m):a j n=m.v n:=by
 have h:hget s.hp j n=some (m.at_ n):=by rw [Gj g,e];rfl
 have:=d.heap.sim j n _ h
 cases m with
 | cells _ _=>exact this.1
 | row _ _ _ _=>exact this.1
 | map _ _=>exact this.1
theorem idx0 {a:AN} (b:hfam q k=some [t]) (c:Ty t=true) (h:hget q k i=some a):i=0:=by grind [hget,MZ]
theorem dX {r:Hp} (J:k≠j) (A:hfam q k=some [t]) (I:Ty t=true) (G:hfam q j=some [.multi M]) (K:M n=none) (V:Aa k q=some h) (L:Aa j h=some p) (U:C6 k p=some o) (T:Bp o j (B6 M n m)=some r):
  (∀l i u,hget r l i=some u ->(l=j/\i=n/\u=m.at_ n)\/(¬(l=j/\i=n)/\¬(l=k/\i=0)/\∃t,hget q l i=some t/\(∀w O H v,Av w O H t v ->Av w O H u v)/\¬u.Refs j n))/\hget r j n=some (m.at_ n)/\
  (∀l i a cs,hget q l i=some (.blk a cs) ->¬(l=k/\i=0) ->∃C,hget r l i=some (.blk a C))/\(∀l i t,hget q l i=some t ->¬(l=k/\i=0) ->∃u,hget r l i=some u):=by
 obtain ⟨a1,R⟩:=BG V;obtain ⟨c1,Q⟩:=BG L;have P:=Hl U;have s:=DZ T;refine ⟨λl i u d=>?_,by rw [s,ς Z,GF];rfl,λl i t' C d x=>?_,λl i t d x=>?_⟩
 .rw [s] at d
  by_cases e:l=j
  .subst e;rw [ς rfl] at d
   by_cases B:i=n
   .grind [GF]
   .rw [IB B] at d;refine .inr ⟨λc=>B c.2,λc=>J c.1.symm,u,by rw [Gj G];exact d,λ_ _ _ _ c=>c,?_⟩
    cases hmi:M i with
    | none=>rw [hmi] at d;cases d
    | some m=>rw [hmi] at d;injection d with d;subst d;exact Ap.norefs
  .rw [η e,P] at d
   split at d
   .cases d
   .rename_i W
    obtain ⟨N,z,y⟩:=c1 _ _ _ d;obtain ⟨F,E,D⟩:=a1 _ _ _ z;exact .inr ⟨λc=>e c.1,λc=>W c.1,F,E,λw O H v c=>y.1 _ _ _ _ (D.1 _ _ _ _ c),λS=>Sf (y.2.1 _ _ S) Z⟩
 .have e1:l≠j:=λe=>by
   subst e;rw [Gj G] at d
   cases hmi:M i with
   | none=>rw [hmi] at d;cases d
   | some m=>rw [hmi] at d;injection d with d;exact Ap.notBlk d
  obtain ⟨N,z,y⟩:=R _ _ _ d;obtain ⟨Y,rfl⟩:=y.2.2.1 _ _ rfl;obtain ⟨F,E,D⟩:=Q _ _ _ z;obtain ⟨X,rfl⟩:=D.2.2.1 _ _ rfl
  grind [idx0]
 .by_cases e:l=j
  .subst e
   by_cases B:i=n
   .subst B;rw [Gj G,K] at d;cases d
   .exact ⟨t,by rw [s,ς Z,IB B,<-Gj G];exact d⟩
  .obtain ⟨N,z,y⟩:=R _ _ _ d;obtain ⟨F,E,D⟩:=Q _ _ _ z;refine ⟨F,?_⟩;rw [s,η e,P,η]
   .exact E
   .rintro rfl;exact x ⟨Z,idx0 A I d⟩
theorem IZ (p:SR F s a c w) {t:Nat} {v:Value} (q:Ac k s.env=some f) (m:Ac j f=some d) (o:c.tmps.getD t undef=v) (y:v.oneCell'=true):
  ∀i e,get ((t,.d (.raw v))::d) i=some e ->A9 w (F.O a s.hp) a e (c.tmps.getD i undef)/\¬e.Refs j n:=λi e l=>by
 rcases Mp l with ⟨rfl,rfl⟩ | ⟨_,l⟩
 .rw [o];exact ⟨.d (.raw y),λh=>nomatch h⟩
 .rcases Bc m l with rfl | ⟨x,u⟩
  .exact ⟨.top,λh=>nomatch h⟩
  .rcases Bc q x with rfl | ⟨r,_⟩
   .exact ⟨.top,λh=>nomatch h⟩
   .exact ⟨p.env i _ r,u n⟩
theorem SR.absorbR (v:SR F s a c w) (t i j:Nat) {D n:Nat} {z:Nat ->Nat ->Hp} (hF:F.pn=e) (E:memB i e=false) (H:Nat.beq i j=false)
  (ht:get s.env t=some (.own i 0 n)) (hn:n=g.length) (Y:g≠ []) (q:hfam s.hp i=some [.rowD T D g]) (B:hfam s.hp j=some [.multi M]) (hE:Ac i s.env=some f) (J:Ac j f=some d) (hH:Aa i s.hp=some h) (I:Aa j h=some p) (hh:C6 i p=some o) (hm:∀b l,Bp o j (B6 M b (.row T D l g))=some (z b l)):
  ∃b l,M b=none/\g.length<=l/\SR F ⟨s.n,(t,.d (.raw (sV b n l)))::d,z b l⟩ (upd a j b (pV b 0)) c w:=by
 subst hn;have A:i≠j:=ωx H;have G:hget s.hp i 0=some (.rowD T D g):=by unfold hget;rw [q];rfl
 obtain ⟨N,k,l,r,X,W,V,U,S⟩:=v.rowD G
 have y:0<g.length:=by
  grind
 obtain ⟨b,rfl,_⟩:=S y
 have u:M b=none:=by
  cases hmb:M b with
  | none=>rfl
  | some m=>
   have L:hget s.hp j b=some (m.at_ b):=by rw [Gj B,hmb];rfl
   exact absurd (v.heap.inj i 0 j b _ _ b G L (by rw [r];rfl) (Ap.val v B hmb)).1 A
 obtain ⟨R,Q,P,O⟩:=dX A q Z B u hH I hh (hm b l);refine ⟨b,l,u,U.1,v.move i 0 j b G (by simp only [Gj B,u,φa]) (by rw [r];rfl) (Kg hF E) R Q P O (IZ v hE J ?_ Z) ⟨Z,N,X,W,V⟩⟩;have K:=v.env t _ ht
 generalize c.tmps.getD t undef=x at K⊢
 cases K with
 | own C L=>
  rw [r] at C;injection C with C h3 h4;subst C h4;rfl
theorem SR.splitR {F:Fr} {s:AS} {N:Nat ->Nat ->Value} {B:Act} {w:World} (G:SR F s N B w) (t g f:Nat) {M:MF} {T:TypeId} {r n cap b:Nat} {l:List D} {env':List (Nat×AV)} {A hp':Hp} (R:Nat.beq g f=false)
  (ht:get s.env t=some (.d (.raw (sV b n cap)))) (hn:n=l.length) (C:hfam s.hp f=some [.multi M]) (S:M b=some (.row T r cap l)) (hE:Ac g s.env=some env') (hH:Aa g s.hp=some A) (hz:hfam A g=none) (hm:Bp A f (FE M b)=some hp'):
  SR F ⟨s.n,(t,.own g 0 n)::env',(g,[.rowD T r l])::hp'⟩ (upd N g 0 (sV b n cap)) B w:=by
 subst hn;have hgf:g≠f:=ωx R;obtain ⟨Q,us,k1,k2,k3⟩:=G.rowN C S;obtain ⟨a1,Y⟩:=BG hH;have q:=DZ hm
 have z:∀i,hget s.hp g i=none:=λi=>by
  cases c:hget s.hp g i with
  | none=>rfl
  | some o=>
   grind [hget]
 have j:∀k i,hget ((g,[.rowD T r l])::hp') k i=if k=g then [AN.rowD T r l][i]? else hget hp' k i:=λk i=>by
  by_cases e:k=g
  .subst e;rw [ς rfl];simp only [hget,hfam,ψw,χk,MZ (o:= .rowD T r l) rfl]
  grind [hget,hfam,IP]
 have p:=G.move f b g 0 (o1:= .nr b T r cap l) (o2:= .rowD T r l) (v2:=sV b l.length cap) (env':=env') (hp':=(g,[.rowD T r l])::hp') (by rw [Gj C,S];rfl) (z 0) (by rw [Q];rfl) (by
  cases H:F.pin f b with
  | none=>rfl
  | some b'=>
   obtain ⟨_,E,V,h⟩:=G.heap.pins f b b' H
   rw [Gj C,S] at h;injection h with h;cases h)
  (λk i o' c=>by
   rw [j] at c
   split at c
   .rename_i e
    subst e
    match i,c with
    | 0,c=>injection c with c;exact .inl ⟨Z,Z,c.symm⟩
    | i+1,c=>cases c
   .rename_i e
    rw [q] at c
    split at c
    .rename_i y
     subst y
     by_cases J:i=b
     .subst J;rw [Qt] at c;cases c
     .rw [He J] at c;refine .inr ⟨λh=>e h.1,λh=>J h.2,o',by rw [Gj C];exact c,λ_ _ _ _ h=>h,?_⟩
      cases hmi:M i with
      | none=>rw [hmi] at c;cases c
      | some m=>rw [hmi] at c;injection c with c;subst c;exact Ap.norefs
    .rename_i y
     obtain ⟨o3,q3,W⟩:=a1 _ _ _ c
     exact .inr ⟨λh=>e h.1,λh=>y h.1,o3,q3,λw O N v h=>W.1 _ _ _ _ h,λK=>Sf (W.2.1 _ _ K) Z⟩)
  (by rw [j,ς rfl];rfl)
  (λk i E V c u=>by
   have L:k≠f:=λe=>by
    subst e;rw [Gj C] at c
    cases hmi:M i with
    | none=>rw [hmi] at c;cases c
    | some m=>rw [hmi] at c;injection c with c;exact Ap.notBlk c
   have y:k≠g:=λe=>by subst e;rw [z] at c;cases c
   obtain ⟨o2,P,X⟩:=Y _ _ _ c;obtain ⟨U,rfl⟩:=X.2.2.1 _ _ rfl
   exact ⟨U,by rw [j,η y,q,η L];exact P⟩)
  (λk i o c u=>by
   have y:k≠g:=λe=>by subst e;rw [z] at c;cases c
   by_cases L:k=f
   .subst L;have J:i≠b:=λe=>u ⟨Z,e⟩;exact ⟨o,by rw [j,η y,q,ς Z,He J,<-Gj C];exact c⟩
   .obtain ⟨o2,P,X⟩:=Y _ _ _ c
    exact ⟨o2,by rw [j,η y,q,η L];exact P⟩)
  (λE a I=>by
   rcases Bc hE I with rfl | ⟨h3,h4⟩
   .exact ⟨.top,λh=>nomatch h⟩
   .exact ⟨G.env E _ h3,h4 0⟩)
  ⟨us,k1,k2,k3⟩
 refine ⟨p.size,p.defs,λE a I=>?_,p.heap⟩;rcases Mp I with ⟨rfl,rfl⟩ | ⟨_,I⟩
 .have K:=G.env t _ ht
  generalize B.tmps.getD t undef=x at K⊢
  cases K with
  | d h=>cases h with | raw _=>exact .own QS (Γ _)
 .exact p.env E a I
section
variable {P:Program} {F:Fr} {Q:Exit ->AS ->Prop} {c:Code} {ops:Array Oper} {l:List Oper} {n:Nat} {env env1 env':List (Nat×AV)} {hp hp1 hp2 hp3:Hp}
variable {a:List Nat} {T:TypeId} {d:Nat ->Hp} {e:List AV} {M:MF}
theorem gA (t g f:Nat) {ds:List D} (B:F.pn=a) (k:memB g a=false) (m:Nat.beq g f=false) (s:get env t=some (.ptr g 0 0)) (i:hfam hp g=some [.blk T e]) (o:e=ds.map .d) (z:hfam hp f=some [.multi M]) (C:Ac g env=some env1) (q:Ac f env1=some env') (A:Aa g hp=some hp1) (p:Aa f hp1=some hp2) (x:C6 g hp2=some hp3) (v:∀b,Bp hp3 f (B6 M b (.cells T ds))=some (d b))
  (h:∀b,M b=none ->CG P F c Q ⟨n,(t,.d (pD b 0))::env',d b⟩):CG P F c Q ⟨n,env,hp⟩:=λE r w u=>by
 obtain ⟨b,y,j⟩:=u.absorb t g f B k m s i o z C q A p x v;exact h b y _ r w j
theorem dG (t g f:Nat) {ds:List D} (B:F.pn=a) (k:memB g a=false) (m:Nat.beq g f=false) (s:get env t=some (.ptr g 0 0)) (i:hfam hp g=some [.blk T e]) (o:e=ds.map .d) (z:hfam hp f=some [.multi M]) (C:Ac g env=some env1) (q:Ac f env1=some env') (A:Aa g hp=some hp1) (p:Aa f hp1=some hp2) (x:C6 g hp2=some hp3) (v:∀b,Bp hp3 f (B6 M b (.cells T ds))=some (d b))
  (h:∀b,M b=none ->Ao P F ops l Q ⟨n,(t,.d (pD b 0))::env',d b⟩):Ao P F ops l Q ⟨n,env,hp⟩:=λE r w u=>by
 obtain ⟨b,y,j⟩:=u.absorb t g f B k m s i o z C q A p x v;exact h b y _ r w j
theorem FZ (t g f:Nat) {x m:Nat} {i:List D} {j:Nat ->Nat ->Hp} (J:F.pn=a) (q:memB g a=false) (r:Nat.beq g f=false) (y:get env t=some (.own g 0 m)) (A:m=i.length) (o:i≠ []) (k:hfam hp g=some [.rowD T x i]) (H:hfam hp f=some [.multi M]) (K:Ac g env=some env1) (u:Ac f env1=some env') (I:Aa g hp=some hp1) (s:Aa f hp1=some hp2) (C:C6 g hp2=some hp3) (B:∀b e,Bp hp3 f (B6 M b (.row T x e i))=some (j b e))
  (h:∀b e,M b=none ->i.length<=e ->Ao P F ops l Q ⟨n,(t,.d (.raw (sV b m e)))::env',j b e⟩):Ao P F ops l Q ⟨n,env,hp⟩:=λL v w z=>by
 obtain ⟨b,e,G,E,p⟩:=z.absorbR t g f J q r y A o k H K u I s C B;exact h b e G E _ v w p
theorem IA (f:Nat) (G:Ac f env=some env') (E:Aa f hp=some hp1) (y:hfam hp1 f=none) (h:CG P F c Q ⟨n,env',(f,[.multi λ_=>none])::hp1⟩):CG P F c Q ⟨n,env,hp⟩:=λp x w u=>by
 refine h p x w ?_;obtain ⟨B,A⟩:=BG E
 have d:∀s i,hget ((f,[.multi λ_=>none])::hp1) s i=if s=f then none else hget hp1 s i:=λs i=>by
  by_cases e:s=f
  .subst e;rw [ς rfl];simp only [hget,hfam,ψw,χk,gl,isM,φa]
  .rw [η e];simp only [hget,hfam,IP (λh=>e h.symm)]
 have C:Ba F ((f,[.multi λ_=>none])::hp1) p w:=u.heap.less (λg i q r=>by
  rw [d] at r
  split at r
  .cases r
  .obtain ⟨o,j,m⟩:=B _ _ _ r
   exact ⟨o,j,λw O v h=>m.1 _ _ _ _ h⟩) λg i o r=>by
  obtain ⟨q,j,m⟩:=A _ _ _ r
  have e:g≠f:=λe=>by
   subst e;unfold hget at j;rw [y] at j;cases j
  exact ⟨q,by rw [d,η e];exact j,λt H e=>by subst e;exact m.2.2.1 _ _ Z⟩
 have z:F.O p ((f,[.multi λ_=>none])::hp1)=F.O p hp:=funext λb=>propext ⟨λh=>h.imp id λ⟨g,i,o,j,m⟩=>by
  rw [d] at j
  split at j
  .cases j
  .obtain ⟨q,k,_⟩:=B _ _ _ j
   exact ⟨g,i,q,k,m⟩,λh=>h.imp id λ⟨g,i,o,j,m⟩=>by
  obtain ⟨q,k,_⟩:=A _ _ _ j
  have e:g≠f:=λe=>by
   subst e;unfold hget at k;rw [y] at k;cases k
  exact ⟨g,i,q,by rw [d,η e];exact k,m⟩⟩
 refine ⟨u.size,z▸u.defs,λt a D=>?_,C⟩;show A9 w (F.O p ((f,[.multi λ_=>none])::hp1)) p a _;rw [z];rcases Bc G D with rfl | ⟨k,_⟩
 .exact .top
 .exact u.env t a k
end
theorem SR.rawC {F:Fr} {s:AS} {x:Nat ->Nat ->Value} {r:Act} {w:World} (h:SR F s x r w) (g i k:Nat) {f j n N q:Nat} {a:Option Addr} {t:TypeId} {v l:List AV} {p:Hp} (B:hget s.hp g i=some (.blk t v)) (K:v[k]? =some (.own f j n)) (G:x f j= .slice a N q)
  (y:Eh v k [.d (.raw (.slice a n q))]=some l) (m:B7 s.hp g i (.blk t l)=some p):SR F ⟨s.n,s.env,p⟩ x r w:=by
 refine h.write g i (.blk t v) (.blk t l) B (BB m) Z Z Z Z (λ_ _=>rfl) (λ_ _ _=>⟨_,_,Z⟩) λo=>?_;obtain ⟨b,C,Q,P,O,M,L⟩:=h.heap.sim g i _ B;obtain ⟨R,E,D⟩:=DX _ _ _ _ y;refine ⟨b,C,Q,P,by rw [O,E],λA c u e H=>?_,L⟩;rw [D] at e
 split at e
 .rename_i J
  have z:A=k:=by simp at J;omega
  subst z
  simp at e;subst e
  have I:=M A _ u K H
  cases I with
  | own h _=>
   rw [G] at h;injection h with h1 h2 h3;subst h1 h3
   exact o _ _ (.d (.raw Z))
 grind
section
variable {P:Program} {F:Fr} {Q:Exit ->AS ->Prop} {c:Code} {ops:Array Oper} {l:List Oper} {n:Nat} {env env':List (Nat×AV)} {hp hp1:Hp}
end
section
variable {P:Program} {F:Fr} {s:AS} {d:Nat} {ty T:TypeId} {pos:String} {aft:Array Edge} {g:Option (Nat×Bool)} {x:Operand}
end
theorem SR.split {F:Fr} {s:AS} {Q:Nat ->Nat ->Value} {E:Act} {w:World} (I:SR F s Q E w) (t g f:Nat) {M:MF} {T:TypeId} {b:Nat} {r:List D} {env':List (Nat×AV)} {B hp':Hp} (U:Nat.beq g f=false)
  (ht:get s.env t=some (.d (pD b 0))) (G:hfam s.hp f=some [.multi M]) (V:M b=some (.cells T r)) (hE:Ac g s.env=some env') (hH:Aa g s.hp=some B) (hz:hfam B g=none) (hm:Bp B f (FE M b)=some hp'):
  SR F ⟨s.n,(t,.ptr g 0 0)::env',(g,[.blk T (r.map .d)])::hp'⟩ (upd Q g 0 (pV b 0)) E w:=by
 have hgf:g≠f:=ωx U;obtain ⟨S,us,k1,k2,k3,k4⟩:=I.cellsN G V;obtain ⟨a1,a2⟩:=BG hH;have q:=DZ hm
 have A:∀i,hget s.hp g i=none:=λi=>by
  cases k:hget s.hp g i with
  | none=>rfl
  | some o=>
   grind [hget]
 have l:∀n i,hget ((g,[.blk T (r.map .d)])::hp') n i=if n=g then [AN.blk T (r.map .d)][i]? else hget hp' n i:=λn i=>by
  by_cases e:n=g
  .subst e;rw [ς rfl];simp only [hget,hfam,ψw,χk,MZ (o:= .blk T (r.map .d)) rfl]
  grind [hget,hfam,IP]
 have p:=I.move f b g 0 (o1:= .nb b T r) (o2:= .blk T (r.map .d)) (v2:=pV b 0) (env':=env') (hp':=(g,[.blk T (r.map .d)])::hp') (by rw [Gj G,V];rfl) (A 0) (by rw [S]) (by
  cases J:F.pin f b with
  | none=>rfl
  | some b'=>
   obtain ⟨_,H,X,h⟩:=I.heap.pins f b b' J
   rw [Gj G,V] at h;injection h with h;cases h)
  (λn i o' k=>by
   rw [l] at k
   split at k
   .rename_i e
    subst e
    match i,k with
    | 0,k=>injection k with k;exact .inl ⟨Z,Z,k.symm⟩
    | i+1,k=>cases k
   .rename_i e
    rw [q] at k
    split at k
    .rename_i z
     subst z
     by_cases L:i=b
     .subst L;rw [Qt] at k;cases k
     .rw [He L] at k;refine .inr ⟨λh=>e h.1,λh=>L h.2,o',by rw [Gj G];exact k,λ_ _ _ _ h=>h,?_⟩
      cases hmi:M i with
      | none=>rw [hmi] at k;cases k
      | some m=>rw [hmi] at k;injection k with k;subst k;exact Ap.norefs
    .rename_i z
     obtain ⟨o3,q3,Y⟩:=a1 _ _ _ k
     exact .inr ⟨λh=>e h.1,λh=>z h.1,o3,q3,λw O Q v h=>Y.1 _ _ _ _ h,λN=>Sf (Y.2.1 _ _ N) Z⟩)
  (by rw [l,ς rfl];rfl)
  (λn i H X k y=>by
   have P:n≠f:=λe=>by
    subst e;rw [Gj G] at k
    cases hmi:M i with
    | none=>rw [hmi] at k;cases k
    | some m=>rw [hmi] at k;injection k with k;exact Ap.notBlk k
   have z:n≠g:=λe=>by subst e;rw [A] at k;cases k
   obtain ⟨o2,R,q2⟩:=a2 _ _ _ k;obtain ⟨W,rfl⟩:=q2.2.2.1 _ _ rfl
   exact ⟨W,by rw [l,η z,q,η P];exact R⟩)
  (λn i o k y=>by
   have z:n≠g:=λe=>by subst e;rw [A] at k;cases k
   by_cases P:n=f
   .subst P;have L:i≠b:=λe=>y ⟨Z,e⟩;exact ⟨o,by rw [l,η z,q,ς Z,He L,<-Gj G];exact k⟩
   .obtain ⟨o2,R,q2⟩:=a2 _ _ _ k
    exact ⟨o2,by rw [l,η z,q,η P];exact R⟩)
  (λH a K=>by
   rcases Bc hE K with rfl | ⟨h3,h4⟩
   .exact ⟨.top,λh=>nomatch h⟩
   .exact ⟨I.env H _ h3,h4 0⟩)
  ⟨b,us,Z,k1,by rw [χ];exact k2,λj c u C hu=>by
   rw [ν] at C
   cases hj:r[j]? with
   | none=>rw [hj] at C;cases C
   | some d=>
    rw [hj] at C;injection C with C;subst C
    exact .d (k3 j d u hj hu),k4⟩
 refine ⟨p.size,p.defs,λH a K=>?_,p.heap⟩;rcases Mp K with ⟨rfl,rfl⟩ | ⟨_,K⟩
 .have N:=I.env t _ ht
  generalize E.tmps.getD t undef=x at N⊢
  cases N with
  | d h=>cases h with | raw _=>exact .ptr QS
 .exact p.env H a K
section
variable {P:Program} {F:Fr} {Q:Exit ->AS ->Prop} {c:Code} {n:Nat} {env env1 env':List (Nat×AV)} {hp hp1:Hp}
variable {T:TypeId} {M:MF}
theorem a_split (t g f:Nat) {b:Nat} {j:List D} {a:Hp} (e:Nat.beq g f=false) (l:get env t=some (.d (pD b 0))) (q:hfam hp f=some [.multi M]) (p:M b=some (.cells T j)) (s:Ac g env=some env') (r:Aa g hp=some hp1) (k:hfam hp1 g=none) (o:Bp hp1 f (FE M b)=some a)
  (h:CG P F c Q ⟨n,(t,.ptr g 0 0)::env',(g,[.blk T (j.map .d)])::a⟩):CG P F c Q ⟨n,env,hp⟩:=λu i w m=>h _ i w (m.split t g f e l q p s r k o)
theorem Wx (t g f g0 B:Nat) {t0:TypeId} {G m:Nat} {s:List D} {cs:List AV} {pn:List Nat} {R:Nat ->Nat ->List AV} {q hp1 J I K:Nat ->Nat ->Hp} (hF:F.pn=pn) (hpn:memB g pn=false) (hne:Nat.beq g f=false) (ht:get env t=some (.own g 0 m)) (hn:m=s.length) (X:s≠ [])
  (ho:hget hp g0 0=some (.blk t0 cs)) (hc:cs[B]? =some (.own g 0 m)) (hs':∀b l,Eh cs B [.d (.raw (sV b m l))]=some (R b l)) (z:∀b l,B7 hp g0 0 (.blk t0 (R b l))=some (q b l))
  (L:hget hp g 0=some (.rowD T G s)) (r:∀b l,hfam (q b l) g=some [.rowD T G s]) (V:∀b l,hfam (q b l) f=some [.multi M]) (hE:Ac g env=some env1) (hE2:Ac f env1=some env') (hH:∀b l,Aa g (q b l)=some (hp1 b l)) (hH2:∀b l,Aa f (hp1 b l)=some (J b l)) (hh:∀b l,C6 g (J b l)=some (I b l)) (hm:∀b l,Bp (I b l) f (B6 M b (.row T G l s))=some (K b l))
  (h:∀b l,M b=none ->s.length<=l ->CG P F c Q ⟨n,(t,.d (.raw (sV b m l)))::env',K b l⟩):CG P F c Q ⟨n,env,hp⟩:=λρ S w hs=>by
 subst hn;obtain ⟨us,a,k,v,k1,W,k3,k4,k5⟩:=hs.rowD L
 have H:0<s.length:=by
  cases s with
  | nil=>exact absurd Z X
  | cons _ _=>simp
 obtain ⟨p,rfl,_⟩:=k5 H;have y:=hs.rawC g0 0 B ho hc v (hs' p k) (z p k)
 -- the row's new place is told for every place; here it is b0
 have N:g≠f:=ωx hne
 have E:M p=none:=by
  cases hmb:M p with
  | none=>rfl
  | some m=>
   have O:hget (q p k) f p=some (m.at_ p):=by rw [Gj (V p k),hmb];rfl
   have C:hget (q p k) g 0=some (.rowD T G s):=by unfold hget;rw [r];rfl
   exact absurd (y.heap.inj g 0 f p _ _ p C O (by rw [v];rfl) (Ap.val y (V p k) hmb)).1 N
 have C:hget (q p k) g 0=some (.rowD T G s):=by unfold hget;rw [r];rfl
 obtain ⟨m1,m2,m3,m4⟩:=dX N (r p k) Z (V p k) E (hH p k) (hH2 p k) (hh p k) (hm p k);refine h p k E k4.1 _ S w (y.move g 0 f p C (by simp only [Gj (V p k),E,φa]) (by rw [v];rfl) (Kg hF hpn) m1 m2 m3 m4 (IZ y hE hE2 ?_ Z) ⟨Z,us,k1,⟨W.1,W.2.1,λi x hx j c hc=>?_⟩,k3⟩)
 .have U:=hs.env t _ ht
  generalize S.tmps.getD t undef=x at U⊢
  cases U with
  | own A O=>
   rw [v] at A;injection A with A h3 h4;subst A h4;rfl
 .obtain ⟨u,hu,Y,U⟩:=W.2.2 i x hx j c hc;refine ⟨u,hu,Y,?_⟩
  have hO:∀b,F.O ρ (q p k) b ->F.O ρ hp b:=λb hb=>by
   rcases hb with hb | ⟨f',i',o,A,O⟩
   .exact .inl hb
   .refine .inr ?_;rw [BB (z p k)] at A
    split at A
    .rename_i e;obtain ⟨rfl,rfl⟩:=e;exact ⟨_,_,_,ho,O⟩
    .exact ⟨_,_,_,A,O⟩
  exact U.mono (Γ _) (λ_ _ _=>rfl) λb _=>hO b
end
end Go.Proofs.YteifpcnphnhaoaaGreat
namespace Go.Proofs.YteifpcnphnhaoaaGreat
open Go.RowKit Go.ChangeMaps
def mdel {α β:Type} [DecidableEq α] (m:List (α×β)) (a:α):List (α×β):=m.eraseIdx (mix m a)
theorem Xz {b c:Type} (f:b ->c):∀(l:List b) (i:Nat),(l.eraseIdx i).map f=(l.map f).eraseIdx i
 | [],i=>by simp
 | a::l,0=>rfl
 | a::l,i+1=>by simp [Xz f l i]
section
variable {α β:Type} [DecidableEq α]
variable {P:Program} {F:Fr} {s:AS} {K:TypeId} {eK:α ->D} {kv:α ->Value} {eV:β ->D}
variable {ty T T2 E:TypeId} {pos:String} {aft:Array Edge} {g:Option (Nat×Bool)} {x y:Operand} {bs:Option (List Nat×Nat)}
omit [DecidableEq α] in
end
variable {a:Option (List Nat×Nat)} {c:List (D×D)} {d:Nat}
abbrev mV (b:Nat):Value:= .map (some b)
abbrev mD (b:Nat):D:= .raw (mV b)
theorem PN {e:Hp} {f:Nat} {M:MF} (h:hfam e f=some [.multi M]) (g:M d=some (.map a c)):hget e f d=some (.nm d a c):=by rw [Gj h,g];rfl
theorem simM {w:World} {O:Nat ->Prop} {e:Nat ->Nat ->Value}:Av w O e (.map a c) (mV d)↔Av w O e (.nm d a c) (mV d):=by grind [Av]
section
variable {α β:Type} [DecidableEq α]
variable {P:Program} {F:Fr} {s:AS} {K:TypeId} {eK:α ->D} {kv:α ->Value} {eV:β ->D}
variable {d:Nat} {ty T T2 E:TypeId} {pos:String} {aft:Array Edge} {g:Option (Nat×Bool)} {x y z:Operand} {bs:Option (List Nat×Nat)}
variable {a:List (D×D)} {c:List (Nat×AV)} {M:MF} {Q:Exit ->AS ->Prop} {e:Nat ->Nat ->Value} {n:Nat} {f:Array Oper} {h:Nat} {i:Act} {w:World} {j:Hp} {B:List Nat} {k:Hp} {m:Code} {o p:Nat}
theorem SR.mapVN (c:SR F s e i w) (j:s.ev x=some (.d (mD h))) (l:hfam s.hp o=some [.multi M]) (k:M h=some (.map bs a)):i.eval x=e o h:=
 (c.raw j).trans (Ap.valE c l k).symm
theorem TQ (m:List (α×β)) (a:α) (c v:β) {f:Nat} (l:s.ev x=some (.d (mD h))) (i:hfam s.hp f=some [.multi M]) (e:M h=some (.map bs (B5 eK eV m))) (k:s.ev y=some (.d (eK a))) (q:Bo P T K E=true) (r:Bv P K eK kv) (j:DC P E=some (.d (eV c))) (n:Ad m a c=v) (p:Nat.blt d s.n=true):
  AA P F ⟨some d,.lookup T x y false,ty,pos,aft,g⟩ s d (.d (eV v)):=
 TR m a c v (λ_ _ _ o=>o.mapVN l i e) (PN i e) Z k q r j n p
theorem Lo (i:Nat) {f:Nat} {e:List (Nat×AV)} {j k:List (Nat×List AN)} (o:s.ev x=some (.d (mD h))) (n:hfam s.hp f=some [.multi M]) (m:M h=some (.map (some (B,p)) a)) (l:Nat.beq f i=false) (u:Bo P T K E=true)
  (w:Ac i s.env=some e) (v:Aa i s.hp=some j) (r:Cj j i (.iter f h p [])=some k) (t:Nat.blt d s.n=true):
  AG P F ⟨some d,.range T x,ty,pos,aft,g⟩ s ⟨s.n,(d,.ptr i 0 0)::e,k⟩ (Bn i):=
 QZ i (λ_ _ _ q=>q.mapVN o n m) (PN n m) Z l u w v r t
omit [DecidableEq α] in
theorem Ru {a:List Oper} {e:List (Nat×List AN)} (m:List (α×β)) {l:Nat} {seen:List Nat} (r:AS.ev ⟨n,c,e⟩ x=some (.ptr l 0 0)) (t:hget e l 0=some (.iter o h p seen)) (A:hfam e o=some [.multi M]) (w:M h=some (.map (some (B,p)) (B5 eK eV m))) (u:Nat.blt d n=true)
  (D:CE m B seen=[] ->Ao P F f a Q ⟨n,(d,.tup [.d (.raw (.bool false))])::c,e⟩)
  (C:∀(j q:Nat) (k:α) (v:β),m[j]? =some (k,v) ->B[j]? =some q ->B.Nodup ->(CE m B seen).Perm ((k,v)::CE m B (seen++ [q])) ->∃i,B7 e l 0 (.iter o h p (seen++ [q]))=some i/\Ao P F f a Q ⟨n,(d,.tup [.d (.raw (.bool true)),.d (eK k),.d (eV v)])::c,i⟩):
  Ao P F f (⟨some d,.next x false,ty,pos,aft,none⟩::a) Q ⟨n,c,e⟩:=
 Xm m r t (PN A w) Z u D C
omit [DecidableEq α] in
theorem Lq (m:List (α×β)) (j a:Nat) {k:α} {v:β} {e:Nat} {seen:List Nat} (i:s.ev x=some (.ptr e 0 0)) (n:hget s.hp e 0=some (.iter o h p (seen++ [a]))) (t:hfam s.hp o=some [.multi M]) (r:M h=some (.map (some (B,p)) (B5 eK eV m))) (l:m[j]? =some (k,v)) (u:B[j]? =some a) (q:Nat.blt d s.n=true):
  AA P F ⟨some d,.entry x,ty,pos,aft,g⟩ s d (.tup [.d (eK k),.d (eV v)]):=
 Q2 m j a i n (PN t r) Z l u q
theorem SR.birthsN (t:SR F s e i w) (v:hfam s.hp o=some [.multi M]) (u:M h=some (.map bs a)):∃B c,B.length=a.length/\B.Nodup/\∀n,Bp s.hp o (B6 M h (.map (some (B,c)) a))=some n ->SR F ⟨s.n,s.env,n⟩ e i w:=by
 obtain ⟨S,q,c,p,O,C,N,A,L,_⟩:=(t.heap.sim o h _ (PN v u)).mapO rfl;have r:e o h=mV h:=Ap.valE t v u;rw [r] at p;injection p with p;injection p with p;subst p
 refine ⟨q.toList.map (·.born),c,by simpa using C,A,λn I=>?_⟩;refine t.writeM o h v u I Z Z Z Z (λ_ _=>rfl) (by rw [r];rfl) λm=>(⟨r,q,c,O,C,λj l x J H=>?_,A,L,λB U l=>by injection l with l;injection l with e1 e2;exact ⟨e1.symm,e2.symm⟩⟩);obtain ⟨R,Q⟩:=N j l x J H;have G:=m (.d x.1) _ (.d R);have D:=m (.d x.2) _ (.d Q);exact ⟨by cases G with | d k=>exact k,by cases D with | d k=>exact k⟩
theorem Mn (f b:Nat) {i:List Nat ->Nat ->Hp} (r:hfam k f=some [.multi M]) (q:M b=some (.map bs a)) (p:∀B e,Bp k f (B6 M b (.map (some (B,e)) a))=some (i B e)) (h:∀B e,B.length=a.length ->B.Nodup ->CG P F m Q ⟨n,c,i B e⟩):CG P F m Q ⟨n,c,k⟩:=λl j w o=>by
 obtain ⟨B,e,v,u,t⟩:=o.birthsN r q;exact h B e v u l j w (t _ (p B e))
theorem SR.hideN (r:SR F s e i w) (u:hfam s.hp o=some [.multi M]) (t:M h=some (.map bs a)) (G:Bp s.hp o (B6 M h (.map none a))=some j):SR F ⟨s.n,s.env,j⟩ e i w:=by
 obtain ⟨S,v,c,p,O,N,L,J,I,_⟩:=(r.heap.sim o h _ (PN u t)).mapO rfl;have q:e o h=mV h:=Ap.valE r u t;rw [q] at p;injection p with p;injection p with p;subst p
 refine r.writeM o h u t G Z Z Z Z (λ_ _=>rfl) (by rw [q];rfl) λn=>(⟨q,v,c,O,N,λk m x H D=>?_,J,I,λB U m=>nomatch m⟩);obtain ⟨R,Q⟩:=L k m x H D;have C:=n (.d x.1) _ (.d R);have A:=n (.d x.2) _ (.d Q);exact ⟨by cases C with | d l=>exact l,by cases A with | d l=>exact l⟩
theorem a_hideN (f b:Nat) (q:hfam k f=some [.multi M]) (p:M b=some (.map bs a)) (o:Bp k f (B6 M b (.map none a))=some j) (h:CG P F m Q ⟨n,c,j⟩):CG P F m Q ⟨n,c,k⟩:=λi e w l=>h i e w (l.hideN q p o)
theorem JQ {l:List Oper} (e b:Nat) (r:hfam k e=some [.multi M]) (q:M b=some (.map bs a)) (p:Bp k e (B6 M b (.map none a))=some j) (h:Ao P F f l Q ⟨n,c,j⟩):Ao P F f l Q ⟨n,c,k⟩:=λm i w o=>h m i w (o.hideN r q p)
theorem OV (m:List (α×β)) (a:α) (b:β) {f r:Nat} (hx:AS.ev ⟨n,c,k⟩ x=some (.d (mD r))) (S:hfam k f=some [.multi M]) (R:M r=some (.map bs (B5 eK eV m))) (hy:AS.ev ⟨n,c,k⟩ y=some (.d (eK a))) (hT:Bo P T K E=true) (u:Bv P K eK kv) (hz:AS.ev ⟨n,c,k⟩ z=some (.d (eV b)))
  (hh:Bp k f (B6 M r (.map none (B5 eK eV (BZ m a b))))=some j):AG P F ⟨none,.mapUpdate T x y z,ty,pos,aft,g⟩ ⟨n,c,k⟩ ⟨n,c,j⟩ (λ_ _=>true):=λG t w v=>by
 obtain ⟨Q,C,o,e1,B,J,V,U,h4,h5,h6⟩:=v.mapAt0 (v.mapVN hx S R) (PN S R) rfl;have hv:G f r=mV r:=Ap.valE v S R;have em:Q=r:=by rw [hv] at B;injection B with B;injection B with B;exact B.symm
 subst em;have Y:t.eval y=kv a:=(v.repD hy).val (u.val a);have X:A1 w (F.O G k) (eK a) (kv a):=Y▸v.repD hy;have W:=v.ev hz
 have L:∀p N,(execOp t.eval ⟨none,.mapUpdate T x y z,ty,pos,aft,g⟩).run P w= .ok .skip (setBlock w Q (.map p N)) ->((mix m a=m.length/\p=C.push {key:=kv a,val:=t.eval z,born:=o}/\N=o+1)\/∃e,C[mix m a]? =some e/\mix m a<m.length/\p=(C.modify (mix m a) λe=>{e with key:=kv a,val:=t.eval z})/\N=o)→
   (⟨none,.mapUpdate T x y z,ty,pos,aft,g⟩:Oper).wp P t w (λO w'=>∃D,SR F ⟨n,c,j⟩ D O w'/\∀f i,(λ_ _=>true) f i=true ->D f i=G f i) (λ_ _ _=>False):=λp N H A=>by
  unfold Oper.wp;rw [H];refine ⟨G,v.writeM f Q S R hh Z Z Z Zcp (λb' hb'=>Zct hb') (by rw [hv];rfl) λq=>?_,λ_ _ _=>rfl⟩;rw [B]
  have I:A1 (setBlock w Q (.map p N)) (F.O G j) (eK a) (kv a):=by
   have:=q (.d (eK a)) _ (.d X)
   cases this with | d h=>exact h
  exact simM.1 (H6 (bs:=none) u V U h4 h5 (λ_ _ e=>nomatch e) q (by have:=q _ _ W;cases this with | d h=>exact h) I A (ZcO J))
 rcases hit_get u V U a b with ⟨g1,_,_,g4⟩ | ⟨l,e,g1,g2,g3,_,g5,g6,_⟩
 .refine L _ _ ?_ (.inl ⟨g4,Z,Z⟩)
  simp [execOp,Instr.mapUpdate,run_underlying (XB hT),e1,Y,MapKept.run_getObj_map J,u.check,u.find w a _ _ (Ye u V U),g1,Result.andThen,MapKept.run_setObj_map _ J,setBlock]
 .refine L _ _ ?_ (.inr ⟨e,by rw [g5];exact g2,by rw [g5];exact g6,Z,Z⟩)
  simp [execOp,Instr.mapUpdate,run_underlying (XB hT),e1,Y,MapKept.run_getObj_map J,u.check,u.find w a _ _ (Ye u V U),g1,g2,g3,g5,Result.andThen,MapKept.run_setObj_map _ J,setBlock,u.stays]
end
theorem SR.absorbM {F:Fr} {s:AS} {J:Nat ->Nat ->Value} {k:Act} {w:World} (l:SR F s J k w) (t g f:Nat) {M:MF} {H:Option (List Nat×Nat)} {G:List (D×D)} {K:List Nat} {e h:List (Nat×AV)} {q p o:Hp} {r:Nat ->Hp} (W:F.pn=K) (z:memB g K=false) (B:Nat.beq g f=false)
  (S:get s.env t=some (.map g 0)) (a:hfam s.hp g=some [.map H G]) (v:hfam s.hp f=some [.multi M]) (X:Ac g s.env=some e) (E:Ac f e=some h) (V:Aa g s.hp=some q) (C:Aa f q=some p) (U:C6 g p=some o) (T:∀b,Bp o f (B6 M b (.map H G))=some (r b)):
  ∃b,M b=none/\SR F ⟨s.n,(t,.d (mD b))::h,r b⟩ (upd J f b (mV b)) k w:=by
 have u:g≠f:=ωx B;have A:hget s.hp g 0=some (.map H G):=by unfold hget;rw [a];rfl
 have y:=l.heap.sim g 0 _ A;obtain ⟨b,I,c,i,R⟩:=y
 have j:M b=none:=by
  cases hmb:M b with
  | none=>rfl
  | some m=>
   have Y:hget s.hp f b=some (m.at_ b):=by rw [Gj v,hmb];rfl
   exact absurd (l.heap.inj g 0 f b _ _ b A Y (by rw [i];rfl) (Ap.val l v hmb)).1 u
 obtain ⟨Q,P,O,N⟩:=dX u a Z v j V C U (T b);refine ⟨b,j,l.move g 0 f b A (by simp only [Gj v,j,φa]) (by rw [i]) (Kg W z) Q P O N (IZ l X E ?_ Z) ⟨Z,I,c,R⟩⟩;have L:=l.env t _ S
 generalize k.tmps.getD t undef=x at L⊢
 cases L with
 | map n=>rw [i] at n;injection n with n;injection n with n;subst n;rfl
section
variable {P:Program} {F:Fr} {Q:Exit ->AS ->Prop} {c:Code} {ops:Array Oper} {l:List Oper} {n:Nat} {env env1 env':List (Nat×AV)} {hp hp1 hp2 hp3:Hp}
theorem MN (t g f:Nat) {M:MF} {s:Option (List Nat×Nat)} {r:List (D×D)} {q:List Nat} {a:Nat ->Hp} (C:F.pn=q) (j:memB g q=false) (k:Nat.beq g f=false) (u:get env t=some (.map g 0)) (e:hfam hp g=some [.map s r]) (A:hfam hp f=some [.multi M]) (E:Ac g env=some env1) (o:Ac f env1=some env') (B:Aa g hp=some hp1) (m:Aa f hp1=some hp2) (y:C6 g hp2=some hp3) (x:∀b,Bp hp3 f (B6 M b (.map s r))=some (a b))
  (h:∀b,M b=none ->Ao P F ops l Q ⟨n,(t,.d (mD b))::env',a b⟩):Ao P F ops l Q ⟨n,env,hp⟩:=λG p w v=>by
 obtain ⟨b,z,i⟩:=v.absorbM t g f C j k u e A E o B m y x;exact h b z _ p w i
end
end Go.Proofs.YteifpcnphnhaoaaGreat
namespace Go.Proofs.YteifpcnphnhaoaaGreat
open Go.RowKit
variable {a:Nat} {m:Ap} {M N:MF}
def munion (M N:MF):MF:=λi=>match M i with
 | some m=>some m
 | none=>N i
theorem Ia (h:M a=some m):munion M N a=some m:=by unfold munion;rw [h]
theorem Kv (c:M a=none) (h:N a=some m):munion M N a=some m:=by unfold munion;rw [c];exact h
theorem SR.merge {F:Fr} {s:AS} {z:Nat ->Nat ->Value} {act:Act} {w:World} (p:SR F s z act w) (g f:Nat) {X Y:List (Nat×AV)} {hp1 hp2 hp3 u:Hp} (hne:Nat.beq g f=false)
  (hM:hfam s.hp f=some [.multi M]) (hN:hfam s.hp g=some [.multi N]) (hE:Ac g s.env=some X) (hE2:Ac f X=some Y) (hH:Aa g s.hp=some hp1) (hH2:Aa f hp1=some hp2) (hh:C6 g hp2=some hp3) (hm:Bp hp3 f (munion M N)=some u):
  (∀i m m',M i=some m ->N i=some m' ->False)/\∃r,SR F ⟨s.n,Y,u⟩ r act w:=by
 have hgf:g≠f:=ωx hne
 have G:∀i m,M i=some m ->hget s.hp f i=some (m.at_ i)/\z f i=m.v i:=λi m h=>⟨by rw [Gj hM,h];rfl,Ap.valE p hM h⟩
 have E:∀i m,N i=some m ->hget s.hp g i=some (m.at_ i)/\z g i=m.v i:=λi m h=>⟨by rw [Gj hN,h];rfl,Ap.valE p hN h⟩
 have W:∀i m m',M i=some m ->N i=some m' ->False:=λi m m' y U=>by
  obtain ⟨q,B⟩:=G i m y;obtain ⟨e3,e4⟩:=E i m' U;exact hgf (p.heap.inj g i f i _ _ i e3 q (by rw [e4];exact Ap.v_blk) (by rw [B];exact Ap.v_blk)).1
 have hMi:∀i o,hget s.hp f i=some o ->∃m,M i=some m/\o=m.at_ i:=λi o h=>by
  rw [Gj hM] at h
  cases hm:M i with
  | none=>rw [hm] at h;cases h
  | some m=>rw [hm] at h;injection h with h;exact ⟨m,Z,h.symm⟩
 have hNi:∀i o,hget s.hp g i=some o ->∃m,N i=some m/\o=m.at_ i:=λi o h=>by
  rw [Gj hN] at h
  cases hm:N i with
  | none=>rw [hm] at h;cases h
  | some m=>rw [hm] at h;injection h with h;exact ⟨m,Z,h.symm⟩
 obtain ⟨a1,a2⟩:=BG hH;obtain ⟨c1,c2⟩:=BG hH2;have hd:=Hl hh;have T:=DZ hm
 obtain ⟨P,hvl⟩:∃P:Nat ->Value,P=λi=>((munion M N i).map (Ap.v i)).getD (pV i 0):=⟨_,Z⟩
 have hvb:∀i,Bu (P i)=some i:=λi=>by
  rw [hvl];show Bu (((munion M N i).map (Ap.v i)).getD (pV i 0))=some i
  cases munion M N i with
  | none=>rfl
  | some m=>exact Ap.v_blk
 have hvM:∀i m,M i=some m ->P i=m.v i:=λi m h=>by rw [hvl];show ((munion M N i).map (Ap.v i)).getD (pV i 0)=_;rw [Ia h];rfl
 have hvN:∀i m,N i=some m ->P i=m.v i:=λi m h=>by
  grind [munion]
 refine ⟨W,λc i=>if c=f then P i else z c i,?_⟩
 obtain ⟨r,I⟩:∃r:Nat ->Nat ->Value,r=λc i=>if c=f then P i else z c i:=⟨_,Z⟩
 rw [<-I];have V:∀i,r f i=P i:=λi=>by rw [I];exact ς rfl
 have L:∀c i,c≠f ->r c i=z c i:=λc i e=>by rw [I];exact η e
 -- what lies in the new heap
 have x:∀c i D,hget u c i=some D ->(c=f/\∃m,D=m.at_ i/\((M i=some m)\/(N i=some m)))\/(c≠f/\c≠g/\∃o,hget s.hp c i=some o/\(∀w O z v,Av w O z o v ->Av w O z D v)/\∀j,¬D.Refs f j):=by
  intro c i D k;rw [T] at k
  by_cases e:c=f
  .subst e;rw [ς rfl] at k
   cases hmi:M i with
   | some m=>
    rw [Ia hmi] at k;injection k with k
    exact .inl ⟨Z,m,k.symm,.inl Z⟩
   | none=>
    cases hni:N i with
    | none=>
     have:munion M N i=none:=by unfold munion;rw [hmi];exact hni
     rw [this] at k;cases k
    | some m=>
     rw [Kv hmi hni] at k;injection k with k
     exact .inl ⟨Z,m,k.symm,.inr Z⟩
  .rw [η e,hd] at k
   split at k
   .cases k
   .rename_i e3
    obtain ⟨o2,A,C⟩:=c1 _ _ _ k;obtain ⟨o3,q3,q4⟩:=a1 _ _ _ A;exact .inr ⟨e,e3,o3,q3,λw O z v h=>C.1 _ _ _ _ (q4.1 _ _ _ _ h),λj hr=>Sf (C.2.1 _ _ hr) Z⟩
 have hold:∀c i o,hget s.hp c i=some o ->c≠f ->c≠g ->∃D,hget u c i=some D:=λc i o k q B=>by
  obtain ⟨o2,A,_⟩:=a2 _ _ _ k;obtain ⟨o3,q3,_⟩:=c2 _ _ _ A;exact ⟨o3,by rw [T,η q,hd,η B];exact q3⟩
 have K:∀i m,M i=some m\/N i=some m ->hget u f i=some (m.at_ i):=λi m h=>by
  rw [T,ς rfl];rcases h with h | h
  .rw [Ia h];rfl
  .cases hmi:M i with
   | some m'=>exact (W i _ _ hmi h).elim
   | none=>rw [Kv hmi h];rfl
 have J:∀b,BK r u b↔BK z s.hp b:=λb=>by
  constructor
  .rintro ⟨c,i,D,k,d⟩;rcases x c i D k with ⟨rfl,m,rfl,h | h⟩ | ⟨q,B,o,y,_⟩
   .rw [V,hvM i m h] at d;obtain ⟨A,C⟩:=G i m h;exact ⟨c,i,_,A,by rw [C];exact d⟩
   .rw [V,hvN i m h] at d;obtain ⟨A,C⟩:=E i m h;exact ⟨g,i,_,A,by rw [C];exact d⟩
   .rw [L _ _ q] at d;exact ⟨c,i,o,y,d⟩
  .rintro ⟨c,i,o,k,d⟩
   by_cases q:c=f
   .subst q;obtain ⟨m,y,rfl⟩:=hMi i o k;exact ⟨c,i,_,K i m (.inl y),by rw [V,hvM i m y];rw [(G i m y).2] at d;exact d⟩
   .by_cases B:c=g
    .subst B;obtain ⟨m,y,rfl⟩:=hNi i o k;exact ⟨f,i,_,K i m (.inr y),by rw [V,hvN i m y];rw [(E i m y).2] at d;exact d⟩
    .obtain ⟨D,h3⟩:=hold c i o k q B;exact ⟨c,i,D,h3,by rw [L _ _ q];exact d⟩
 have hO:F.O r u=F.O z s.hp:=funext λb=>propext ⟨λh=>h.imp id (J b).1,λh=>h.imp id (J b).2⟩
 have hblk:∀c i t cs,hget u c i=some (.blk t cs) ->c≠f:=λc i t cs k e=>by
  rcases x c i _ k with ⟨_,m,q,_⟩ | ⟨q,_⟩
  .exact Ap.notBlk q.symm
  .exact q e
 refine ⟨p.size,hO▸p.defs,λt a hta=>?_,?_⟩
 .show A9 w (F.O r u) _ _ _;rw [hO];rcases Bc hE2 hta with rfl | ⟨h3,h4⟩
  .exact .top
  .rcases Bc hE h3 with rfl | ⟨h5,_⟩
   .exact .top
   .exact (p.env t _ h5).mono (Γ _) (λ_ _ _=>rfl) (λ_ _ h=>h) λc i hr=>L c i λe=>h4 i (by rw [<-e];exact hr)
 .refine ⟨λc i D k=>?_,λf1 i1 f2 i2 o1 o2 b y U n l=>?_,λb d=>p.heap.mine b ((J b).1 d),p.heap.os,p.heap.tape,p.heap.output,p.heap.size0,p.heap.keep,λc i b hpin=>?_,p.heap.drawn⟩
  .show Av w (F.O r u) _ _ _;rw [hO];rcases x c i D k with ⟨rfl,m,rfl,h⟩ | ⟨q,B,o,y,U,h3⟩
   .rw [V]
    have hsm:Av w (F.O z s.hp) z (m.at_ i) (P i):=by
     rcases h with h | h
     .obtain ⟨A,C⟩:=G i m h;rw [hvM i m h,<-C];exact p.heap.sim _ _ _ A
     .obtain ⟨A,C⟩:=E i m h;rw [hvN i m h,<-C];exact p.heap.sim _ _ _ A
    exact hsm.mono (Γ _) (λ_ _ _=>rfl) (λ_ _ h=>h) (λ_ _=>rfl) λf'' i' hr=>(Ap.norefs hr).elim
   .rw [L _ _ q];exact (U _ _ _ _ (p.heap.sim c i o y)).mono (Γ _) (λ_ _ _=>rfl) (λ_ _ h=>h) (λ_ _=>rfl) λf'' i' hr=>L f'' i' λe=>h3 i' (by rw [<-e];exact hr)
  .rcases x f1 i1 o1 y with ⟨rfl,m1,rfl,S⟩ | ⟨q,e1',A,S,_⟩<;>rcases x f2 i2 o2 U with ⟨rfl,m2,rfl,R⟩ | ⟨B,e2',C,R,_⟩
   .rw [V,hvb] at n l;injection n with n;injection l with l
    exact ⟨Z,Eq.trans n l.symm⟩
   .rw [V,hvb] at n;rw [L _ _ B] at l
    exfalso
    rcases S with S | S
    .obtain ⟨Q,H⟩:=G i1 m1 S;exact B (p.heap.inj _ _ _ _ _ _ b R Q l (by rw [H,Ap.v_blk];exact n)).1
    .obtain ⟨Q,H⟩:=E i1 m1 S;exact e2' (p.heap.inj _ _ _ _ _ _ b R Q l (by rw [H,Ap.v_blk];exact n)).1
   .rw [V,hvb] at l;rw [L _ _ q] at n
    exfalso
    rcases R with R | R
    .obtain ⟨Q,H⟩:=G i2 m2 R;exact q (p.heap.inj _ _ _ _ _ _ b S Q n (by rw [H,Ap.v_blk];exact l)).1
    .obtain ⟨Q,H⟩:=E i2 m2 R;exact e1' (p.heap.inj _ _ _ _ _ _ b S Q n (by rw [H,Ap.v_blk];exact l)).1
   .rw [L _ _ q] at n;rw [L _ _ B] at l;exact p.heap.inj _ _ _ _ _ _ b S R n l
  .obtain ⟨Q,t,cs,H⟩:=p.heap.pins c i b hpin;have q:c≠f:=λe=>by subst e;obtain ⟨m,_,U⟩:=hMi i _ H;exact Ap.notBlk U.symm
   have B:c≠g:=λe=>by subst e;obtain ⟨m,_,U⟩:=hNi i _ H;exact Ap.notBlk U.symm
   obtain ⟨o2,A,C⟩:=a2 _ _ _ H;obtain ⟨cs2,rfl⟩:=C.2.2.1 _ _ rfl;obtain ⟨o3,q3,q4⟩:=c2 _ _ _ A;obtain ⟨cs3,rfl⟩:=q4.2.2.1 _ _ rfl;exact ⟨by rw [L _ _ q];exact Q,t,cs3,by rw [T,η q,hd,η B];exact q3⟩
section
variable {P:Program} {F:Fr} {Q:Exit ->AS ->Prop} {c:Code} {ops:Array Oper} {l:List Oper} {n:Nat} {env env1 env':List (Nat×AV)} {hp hp1 hp2 hp3 hp':Hp}
theorem a_merge (g f:Nat) {M N:MF} (d:Nat.beq g f=false) (u:hfam hp f=some [.multi M]) (t:hfam hp g=some [.multi N]) (x:Ac g env=some env1) (j:Ac f env1=some env') (v:Aa g hp=some hp1) (e:Aa f hp1=some hp2) (r:C6 g hp2=some hp3) (q:Bp hp3 f (munion M N)=some hp')
  (h:(∀i m o,M i=some m ->N i=some o ->False) ->CG P F c Q ⟨n,env',hp'⟩):CG P F c Q ⟨n,env,hp⟩:=λy k w p=>by
 obtain ⟨s,a,b⟩:=p.merge g f d u t x j v e r q;exact h s a k w b
end
section
variable {P:Program} {F:Fr} {s:AS} {d:Nat} {ty T T' E:TypeId} {pos:String} {aft:Array Edge} {g:Option (Nat×Bool)} {at_:Array TypeId} {x:Operand}
variable {a:List Operand} {w:World} {c:Value} {e:List AV} {f:String} {h:FuncId} {i:Act}
def FM (P:Program) (T:TypeId):Bool:=match P.underlying T with
 | some (.interface _)=>false
 | some _=>true
 | none=>false
theorem GV (h:FM P T=true):(Instr.makeInterface T c).run P w= .ok (.iface T c) w:=by
 unfold FM at h
 split at h
 .cases h
 .simp [*,Instr.makeInterface,run_underlying]
 .cases h
theorem H1 {f i:Nat} (m:FM P T=true) (e:s.ev x=some (.ptr f i 0)) (l:Nat.blt d s.n=true):
  AA P F ⟨some d,.makeInterface T x,ty,pos,aft,g⟩ s d (.ifc T none f i):=
 Cz _ l λn a w k=>by
  have c:=k.ev e
  generalize j:a.eval x=v at c
  cases c with
  | @ptr _ _ _ b h=>exact ⟨.iface T (.pointer (some ⟨b,0,none⟩)),by simp [execOp,j,GV m],.ifc (nm:=none) h⟩
theorem G5 (h:FM P T=true) (a:s.ev x=some (.d (.raw c))) (f:Nat.blt d s.n=true):
  AA P F ⟨some d,.makeInterface T x,ty,pos,aft,g⟩ s d (.d (.raw (.iface T c))):=
 Cz _ f λj i w b=>by
  have e:=b.raw a;exact ⟨.iface T c,by simp [execOp,e,GV h],.d (.raw Z)⟩
theorem O1 (h:FM P T=true):(Instr.typeAssert (.iface T c) T' T false).run P w= .ok c w:=by
 unfold FM at h
 split at h
 .cases h
 .simp [*,Instr.typeAssert,run_underlying]
 .cases h
theorem OX (a:c.oneCell'=true) (i:FM P T=true) (b:s.ev x=some (.d (.raw (.iface T c)))) (h:Nat.blt d s.n=true):
  AA P F ⟨some d,.typeAssert x T' T false,ty,pos,aft,g⟩ s d (.d (.raw c)):=
 Cz _ h λk j w e=>by
  have f:=e.raw b;exact ⟨c,by simp [execOp,f,O1 i],.d (.raw a)⟩
def KM (P:Program) (T:TypeId) (name:String) (f:FuncId):Prop:=∀(b:Nat) (w:World),(method (P.types.size+Made.depth) T (.pointer (some ⟨b,0,none⟩)) name).run P w= .ok (f,.pointer (some ⟨b,0,none⟩)) w
theorem WB (o:KM P T f h) {j:Func} (r:P.funcs[h]? =some j) (e:(j.name== "runtime.NumGoroutine")=false) (l:j.body.isSome=true) {b:Nat} {k:Option Nat} (q:i.eval x= .iface T (.pointer (some ⟨b,0,none⟩))):
  (execOp i.eval ⟨k,.call {callee:= .invoke x f,args:=a.toArray,argTypes:=at_},ty,pos,aft,g⟩).run P w= .ok (.enter h (.pointer (some ⟨b,0,none⟩)::a.map i.eval).toArray) w:=by
 have p:¬j.body=none:=by intro c;rw [c] at l;cases l
 have m:¬j.name= "runtime.NumGoroutine" :=by simpa using e
 have n:=o b w
 simp [*,θ,execOp,resolve,invoke,callMethod,callFunc]
def Wu (s:AS) (x:Operand) (T:TypeId) (xs:List Operand):Option (List AV):=match s.ev x with
 | some (.ifc T' none f i)=>if Nat.beq T' T then (match LZ s xs with
  | some l=>some (.ptr f i 0::l)
  | none=>none) else none
 | _=>none
theorem VQ {o:Nat ->Nat ->Value} (q:SR F s o i w) (h:Wu s x T a=some e):
  ∃b:Nat,i.eval x= .iface T (.pointer (some ⟨b,0,none⟩))/\(Value.pointer (some ⟨b,0,none⟩)::a.map i.eval).length=e.length/\∀(c:Nat) j v,e[c]? =some j ->(Value.pointer (some ⟨b,0,none⟩)::a.map i.eval)[c]? =some v ->A9 w (F.O o s.hp) o j v:=by
 unfold Wu at h
 split at h
 .rename_i B f c t
  split at h
  .rename_i p
   have p:=ωb p;subst p
   split at h
   .rename_i l u
    injection h with h;subst h
    obtain ⟨z,A⟩:=Cb q u;have r:=q.ev t
    generalize i.eval x=v at r⊢
    cases r with
    | @ifc _ _ _ _ b y=>
     refine ⟨b,Z,by simp [z],λk j v n m=>?_⟩
     cases k with
     | zero=>
      rw [List.getElem?_cons_zero] at n m;injection n with n;injection m with m;subst n m
      exact .ptr y
     | succ k=>
      grind
   .cases h
  .cases h
 .cases h
theorem Ya {o u:Hp} {y:AV} (O:KM P T f h) (M:AT P h e o λr K=>r=y/\K=u) (n:Wu s x T a=some e)
  (j:List Nat) (B:CP s.hp o j) (C:A6 j o=true) {i k:Hp} {l:List (Nat×AV)} (A:C9 j s.hp=some i) (U:Bw (By o j) s.env=some l) (S:CV (By o j) i=some k)
  (H:A6 j u=true) (G:Fu j u=true) (D:y.ok (Jc j)=true) (R:Nat.blt d s.n=true) {t:Hp} (m:some (u++k)=some t):
  AG P F ⟨some d,.call {callee:= .invoke x f,args:=a.toArray,argTypes:=at_},ty,pos,aft,g⟩ s ⟨s.n,(d,y)::l,t⟩ (By o j):=by
 injection m with m
 subst m;intro ρ act w L;obtain ⟨fn,Z,Y,X⟩:=M.1;obtain ⟨b,N,W,V⟩:=VQ L n;unfold Oper.wp;rw [WB O Z Y X N,Oper.upon_enter];refine (F4 L M W V j B C A U S (λr K ⟨J,I⟩=>by subst J I;exact ⟨H,G,D⟩)).mono λc w' ⟨v,r,K,p,J,⟨I,e3⟩,q,z,Q⟩=>?_;subst J I e3;exact ⟨p,z.put (IS R) q,Q⟩
end
end Go.Proofs.YteifpcnphnhaoaaGreat
namespace Go.Proofs.YteifpcnphnhaoaaGreat
variable {a:List Nat} {c:Nat ->List Nat} {K:Nat ->Nat} {g:List (List Nat)} {n i:Nat} {d:List (Nat×Nat)} {p:Option Nat} {j:Nat} {e:Type} {f:Nat} {w h k q:List Nat} {m:Nat} {o:List Nat} {s t x u:Nat}
def nth (l:List Nat) (i:Nat):Nat:=l.getD i 0
theorem QQ (h:i<a.length):nth a i=a[i]:=by simp [nth,h]
theorem Tx (h:i<a.length):a[i]? =some (nth a i):=by rw [QQ h,ω h]
theorem DR (h:i<a.length):nth a i∈a:=by rw [QQ h];exact ϑ h
def JH (l:List Nat) (i j:Nat):List Nat:=(l.set i (nth l j)).set j (nth l i)
theorem KK (l:List Nat) (i j:Nat):(JH l i j).length=l.length:=by simp [JH]
theorem Ko (b:i<a.length):nth (a.set i x) u=if u=i then x else nth a u:=by grind [nth]
theorem Cw (c:i<a.length) (b:j<a.length):nth (JH a i j) u=if u=j then nth a i else if u=i then nth a j else nth a u:=by grind [JH,Ko]
theorem Dl (c:i<a.length) (b:j<a.length):(JH a i j).Perm a:=by grind [JH,QQ]
def JE (K:Nat ->Nat) (l:List Nat):Prop:=∀i,0<i ->i<l.length ->K (nth l ((i - 1) / 2))<=K (nth l i)
theorem eL (h:JE K a):∀i,i<a.length ->K (nth a 0)<=K (nth a i):=by
 intro i
 induction i using Nat.strongRecOn with
 | ind i b=>
  grind [JE]
def TD (K:Nat ->Nat):Nat ->List Nat ->Nat ->List Nat
 | 0,l,_=>l
 | f+1,l,j=>if j=0 then l else if K (nth l j)<K (nth l ((j - 1) / 2)) then TD K f (JH l ((j - 1) / 2) j) ((j - 1) / 2) else l
def N7 (K:Nat ->Nat) (n:Nat):Nat ->List Nat ->Nat ->List Nat
 | 0,l,_=>l
 | f+1,l,i=>if n<=2*i+1 then l else
  let j:=if 2*i+2<n/\K (nth l (2*i+2))<K (nth l (2*i+1)) then 2*i+2 else 2*i+1
  if K (nth l j)<K (nth l i) then N7 K n f (JH l i j) j else l
theorem TA (K:Nat ->Nat):∀(f:Nat) (l:List Nat) (j:Nat),j<l.length ->(TD K f l j).Perm l
 | 0,l,_,_=> .refl _
 | f+1,l,j,a=>by
  unfold TD
  split
  .exact .refl _
  .split
   .exact (TA K f _ _ (by rw [KK];omega)).trans (Dl (by omega) a)
   .exact .refl _
theorem L3 (K:Nat ->Nat) (n:Nat):∀(f:Nat) (l:List Nat) (i:Nat),i<l.length ->n<=l.length ->(N7 K n f l i).Perm l
 | 0,l,_,_,_=> .refl _
 | f+1,l,i,b,a=>by
  unfold N7
  split
  .exact .refl _
  .dsimp only
   split
   .split
    .rename_i e d c;exact (L3 K n f _ _ (by rw [KK];omega) (by rw [KK];exact a)).trans (Dl b (by omega))
    .exact .refl _
   .split
    .exact (L3 K n f _ _ (by rw [KK];omega) (by rw [KK];exact a)).trans (Dl b (by omega))
    .exact .refl _
def HeapU (K:Nat ->Nat) (l:List Nat) (j:Nat):Prop:=
 (∀i,0<i ->i<l.length ->i≠j ->K (nth l ((i - 1) / 2))<=K (nth l i))/\(0<j ->∀i,0<i ->i<l.length ->(i - 1) / 2=j ->K (nth l ((j - 1) / 2))<=K (nth l i))
theorem TC (K:Nat ->Nat):∀(f:Nat) (l:List Nat) (j:Nat),j<=f ->j<l.length ->HeapU K l j ->JE K (TD K f l j)
 | 0,l,j,t,d,h=>λi b a=>h.1 i b a (by omega)
 | f+1,l,j,t,d,h=>by
  unfold TD
  split
  .rename_i e;subst e;exact λi b a=>h.1 i b a (by omega)
  .rename_i r
   split
   .rename_i m
    refine TC K f _ _ (by omega) (by rw [KK];omega) ⟨λi b a k=>?_,λq i b a g=>?_⟩
    .rw [KK] at a;rw [Cw (by omega) d,Cw (by omega) d,η (show ¬i=(j - 1) / 2 from k)]
     by_cases c:i=j
     .subst c;rw [η (by omega),ς Z,ς rfl];exact Nat.le_of_lt m
     .rw [η c]
      by_cases o:(i - 1) / 2=j
      .rw [ς o];exact h.2 (by omega) i b a o
      .rw [η o]
       by_cases n:(i - 1) / 2=(j - 1) / 2
       .rw [ς n];have:=h.1 i b a c;rw [n] at this;omega
       .rw [η n];exact h.1 i b a c
    .rw [KK] at a;rw [Cw (by omega) d,Cw (by omega) d,η (by omega),η (by omega)];have p:=h.1 ((j - 1) / 2) q (by omega) (by omega)
     by_cases c:i=j
     .subst c;rw [ς rfl];exact p
     .rw [η c,η (by omega)];have:=h.1 i b a c;rw [g] at this;omega
   .rename_i s
    intro i b a
    by_cases e:i=j
    .subst e;omega
    .exact h.1 i b a e
def HeapD (K:Nat ->Nat) (n:Nat) (l:List Nat) (i:Nat):Prop:=
 (∀k,0<k ->k<n ->(k - 1) / 2≠i ->K (nth l ((k - 1) / 2))<=K (nth l k))/\(0<i ->∀k,0<k ->k<n ->(k - 1) / 2=i ->K (nth l ((i - 1) / 2))<=K (nth l k))
theorem Uo (K:Nat ->Nat) (n:Nat):∀(f:Nat) (l:List Nat) (i:Nat),n<=f+i ->i<l.length ->n<=l.length ->HeapD K n l i→
  ∀k,0<k ->k<n ->K (nth (N7 K n f l i) ((k - 1) / 2))<=K (nth (N7 K n f l i) k)
 | 0,l,i,C,p,v,h=>λk b a=>h.1 k b a (by omega)
 | f+1,l,i,C,p,v,h=>by
  unfold N7
  split
  .exact λk b a=>h.1 k b a (by omega)
  .rename_i z
   dsimp only
   have m:∀j,(j=2*i+1\/j=2*i+2) ->j<n ->(∀k,0<k ->k<n ->(k - 1) / 2=i ->K (nth l j)<=K (nth l k))→
     ∀k,0<k ->k<n ->K (nth (if K (nth l j)<K (nth l i) then N7 K n f (JH l i j) j else l) ((k - 1) / 2))<=K (nth (if K (nth l j)<K (nth l i) then N7 K n f (JH l i j) j else l) k):=by
    intro j E u d;have c:j<l.length:=by omega
    have g:(j - 1) / 2=i:=by omega
    split
    .rename_i o
     refine Uo K n f _ _ (by omega) (by rw [KK];exact c) (by rw [KK];exact v) ⟨λk b a t=>?_,λA k b a s=>?_⟩
     .rw [Cw p c,Cw p c,η t]
      by_cases x:k=j
      .subst x;rw [ς Z,ς g];exact Nat.le_of_lt o
      .rw [η x]
       by_cases r:(k - 1) / 2=i
       .rw [ς r,η (by omega)];exact d k b a r
       .rw [η r]
        by_cases w:k=i
        .subst w;rw [ς rfl];exact h.2 b j (by omega) u g
        .rw [η w];exact h.1 k b a r
     .rw [Cw p c,Cw p c,η (by omega),ς g,η (by omega),η (by omega)];have:=h.1 k b a (by omega);rw [s] at this;exact this
    .rename_i B
     intro k b a
     by_cases e:(k - 1) / 2=i
     .rw [e];have:=d k b a e;omega
     .exact h.1 k b a e
   split
   .rename_i q
    refine m (2*i+2) (.inr Z) q.1 λk b a y=>?_;rcases (show k=2*i+1\/k=2*i+2 by omega) with rfl | rfl
    .exact Nat.le_of_lt q.2
    .exact Γ _
   .rename_i q
    refine m (2*i+1) (.inl Z) (by omega) λk b a y=>?_;rcases (show k=2*i+1\/k=2*i+2 by omega) with rfl | rfl
    .exact Γ _
    .exact Nat.le_of_not_lt λD=>q ⟨a,D⟩
theorem bI (K:Nat ->Nat) (f:Nat) (l:List Nat):TD K f l 0=l:=by cases f<;>simp [TD]
theorem bJ (h:¬K (nth a j)<K (nth a ((j - 1) / 2))):TD K m a j=a:=by
 cases m with
 | zero=>rfl
 | succ m=>unfold TD;split<;>first | rfl | exact η h
theorem upF_go (b:j≠0) (h:K (nth a j)<K (nth a ((j - 1) / 2))):TD K (m+1) a j=TD K m (JH a ((j - 1) / 2) j) ((j - 1) / 2):=by
 rw [TD,η b,ς h]
def J1 (K:Nat ->Nat) (n:Nat) (l:List Nat) (i:Nat):Nat:=if 2*i+2<n/\K (nth l (2*i+2))<K (nth l (2*i+1)) then 2*i+2 else 2*i+1
theorem dnJ_lt {K:Nat ->Nat} {l:List Nat} (h:¬n<=2*i+1):J1 K n l i<n/\i<J1 K n l i:=by unfold J1;split<;>omega
theorem dnF_end (h:n<=2*i+1):N7 K n m a i=a:=by
 cases m with
 | zero=>rfl
 | succ m=>rw [N7,ς h]
theorem P1 (h:¬K (nth a (J1 K n a i))<K (nth a i)):N7 K n m a i=a:=by
 cases m with
 | zero=>rfl
 | succ m=>
  unfold N7;split<;>first | rfl | exact η h
theorem Wi (b:¬n<=2*i+1) (h:K (nth a (J1 K n a i))<K (nth a i)):N7 K n (m+1) a i=N7 K n m (JH a i (J1 K n a i)) (J1 K n a i):=by
 rw [N7,η b];exact ς h
def NF (K:Nat ->Nat) (l:List Nat) (x:Nat):List Nat:=TD K l.length (l++ [x]) l.length
def LI (K:Nat ->Nat) (l:List Nat):List Nat:=N7 K (l.length - 1) (l.length - 1) (JH l 0 (l.length - 1)) 0
def QJ (K:Nat ->Nat) (l:List Nat):List Nat:=(LI K l).take (l.length - 1)
theorem Xr (h:i<a.length):nth (a++o) i=nth a i:=by
 unfold nth;rw [Φ,Φ,φb h]
theorem Tw (h:i<n):nth (a.take n) i=nth a i:=by
 unfold nth;rw [Φ,Φ,ψn h]
theorem PJ (K:Nat ->Nat) (l:List Nat) (x:Nat):(NF K l x).Perm (x::l):=
 (TA K _ _ _ (by simp)).trans (by simp)
theorem PL (h:JE K a) (x:Nat):JE K (NF K a x):=by
 refine TC K _ _ _ (Γ _) (by simp) ⟨λi e d b=>?_,λe i c d f=>?_⟩
 all_goals (grind [Xr,JE])
theorem Hj (K:Nat ->Nat) (h:a≠ []):(LI K a).length=a.length:=by
 have b:0<a.length:=χa.2 h;have:=(L3 K (a.length - 1) (a.length - 1) (JH a 0 (a.length - 1)) 0 (by rw [KK];exact b) (by rw [KK];omega)).length_eq;rw [KK] at this;exact this
theorem Un (K:Nat ->Nat) (n:Nat):∀(f:Nat) (l:List Nat) (i k:Nat),n<=k ->i<n ->n<=l.length ->nth (N7 K n f l i) k=nth l k
 | 0,l,_,_,_,_,_=>rfl
 | f+1,l,i,k,c,g,b=>by
  unfold N7
  split
  .rfl
  .dsimp only
   have a:∀j,j<n ->nth (if K (nth l j)<K (nth l i) then N7 K n f (JH l i j) j else l) k=nth l k:=by
    intro j d
    split
    .rw [Un K n f _ _ k c d (by rw [KK];exact b),Cw (by omega) (by omega),η (by omega),η (by omega)]
    .rfl
   split
   .rename_i e;exact a _ e.1
   .exact a _ (by omega)
theorem PM (K:Nat ->Nat) (h:a≠ []):nth (LI K a) (a.length - 1)=nth a 0:=by
 have b:0<a.length:=χa.2 h;unfold LI
 by_cases e:a.length - 1=0
 .rw [e];show nth (JH a 0 0) 0=_;rw [Cw b b,ς rfl]
 grind [Un,KK,Cw]
theorem aC (K:Nat ->Nat) (h:a≠ []):(nth a 0::QJ K a).Perm a:=by grind [LI,L3,KK,Dl,Hj,QJ,PM,QQ,χy,χo]
theorem aD (h:JE K a) (b:a≠ []):JE K (QJ K a):=by
 have f:0<a.length:=χa.2 b;intro i d e;have m:=Hj K b;have j:(QJ K a).length=a.length - 1:=by unfold QJ;rw [ϱ,m];omega
 rw [j] at e;unfold QJ;rw [Tw (by omega),Tw e];refine Uo K (a.length - 1) (a.length - 1) _ _ (by omega) (by rw [KK];exact f) (by rw [KK];omega) ⟨λk c n g=>?_,λh=>by omega⟩ i d e;rw [Cw f (by omega),Cw f (by omega),η (by omega),η g,η (by omega),η (by omega)];exact h k c (by omega)
inductive Rh (suc:Nat ->List Nat):Nat ->Nat ->Prop
 | refl (a:Nat):Rh suc a a
 | step {a b c:Nat} (h:Rh suc a b) (e:c∈suc b):Rh suc a c
theorem Rh.trans {d:Nat} (h:Rh c s t) (g:Rh c t d):Rh c s d:=by
 induction g with
 | refl=>exact h
 | step _ e f=>exact .step f e
theorem Rh.one (e:t∈c s):Rh c s t:= .step (.refl s) e
theorem Rh.clos {p:Nat ->Prop} (f:∀v,p v ->∀y∈c v,p y) (h:Rh c s t) (g:p s):p t:=by
 induction h with
 | refl=>exact g
 | step _ e d=>exact f _ d _ e
def BL {α:Type} (f:Nat ->α) (i:Nat) (x:α):Nat ->α:=λj=>if j=i then x else f j
theorem Lh (f:Nat ->e) (i:Nat) (x:e):BL f i x i=x:=ς rfl
theorem HU {f:Nat ->e} {x:e} (h:j≠i):BL f i x j=f j:=η h
structure TS where
 idx:Nat ->Nat
 low:Nat ->Nat
 of:Nat ->Int
 st:List Nat
 cs:List (Nat×Nat)
 cnt:Nat
 clk:Nat
structure TI (n:Nat) (suc:Nat ->List Nat) (S:TS) (p:Option Nat):Prop where
 lt:∀v,S.idx v≠0 ->v<n
 ck:∀v,S.idx v<=S.clk
 inj:∀v w,S.idx v≠0 ->S.idx v=S.idx w ->v=w
 st:∀v,v∈S.st↔S.idx v≠0/\S.of v<0
 srt:S.st.Pairwise λa b=>S.idx a<S.idx b
 ofi:∀v,0<=S.of v ->S.idx v≠0/\S.of v<S.cnt
 csm:∀f∈S.cs,f.1∈S.st
 css:S.cs.Pairwise λa b=>S.idx a.1<S.idx b.1
 r5:∀f∈S.cs,∀w∈S.st,S.idx f.1<=S.idx w ->Rh suc f.1 w
 r4:∀w∈S.st,∃f∈S.cs,S.idx f.1<=S.idx w/\Rh suc w f.1
 clo:∀v,0<=S.of v ->∀y∈suc v,0<=S.of y
 blk:∀w∈S.st,(∀f∈S.cs,f.1≠w) ->∀y∈suc w,S.idx y≠0
 gry:∀f∈S.cs,f.2<=(suc f.1).length/\∀(i:Nat) y,i<f.2 ->(suc f.1)[i]? =some y ->S.idx y≠0\/p=some y
 lw:∀v∈S.st,S.low v<=S.idx v/\∃y∈S.st,S.low v=S.idx y/\Rh suc v y
 l8:∀f∈S.cs,∀x∈S.st,x≠f.1 ->S.idx f.1<=S.idx x ->(∀f'∈S.cs,S.idx f.1<S.idx f'.1 ->S.idx x<S.idx f'.1) ->∀y∈suc x,y∈S.st ->S.low f.1<=S.idx y
 l8g:∀f∈S.cs,∀(i:Nat) y,i<f.2 ->(suc f.1)[i]? =some y ->y∈S.st ->S.low f.1<=S.idx y
 scc:∀i j,0<=S.of i ->0<=S.of j ->(S.of i=S.of j↔Rh suc i j/\Rh suc j i)
 use:∀c,c<S.cnt ->∃v,S.of v=((c:Nat):Int)
 pnd:∀v,p=some v ->v<n/\S.idx v=0/\∀f∈S.cs,Rh suc f.1 v
 num:S.cnt+S.st.length<=S.clk
 cap:∃vs:List Nat,vs.Nodup/\vs.length=S.clk/\∀v,v∈vs↔S.idx v≠0
variable {S:TS}
theorem bO (h:TI n c S (some f)):
  TI n c ⟨BL S.idx f (S.clk+1),BL S.low f (S.clk+1),S.of,S.st++ [f],S.cs++ [(f,0)],S.cnt,S.clk+1⟩ none:=by
 obtain ⟨hvn,H,Y⟩:=h.pnd f rfl;have M:∀w,S.idx w≠0 ->w≠f:=λw j e=>j (e▸H);have T:∀w,S.idx w≠0 ->BL S.idx f (S.clk+1) w=S.idx w:=λw j=>HU (M w j);have K:∀w∈S.st,S.idx w≠0:=λw j=>((h.st w).1 j).1;have l:∀w∈S.st,BL S.idx f (S.clk+1) w=S.idx w:=λw j=>T w (K w j);have p:∀d∈S.cs,BL S.idx f (S.clk+1) d.1=S.idx d.1:=λd g=>l _ (h.csm d g);have N:∀d∈S.cs,d.1≠f:=λd g=>M _ (K _ (h.csm d g));have k:BL S.idx f (S.clk+1) f=S.clk+1:=Lh _ _ _
 have hof:S.of f<0:=by
  rcases Int.lt_or_le (S.of f) 0 with m | m
  .exact m
  .exact absurd H (h.ofi f m).1
 have t:∀w,w≠f ->BL S.low f (S.clk+1) w=S.low w:=λw j=>HU j;refine ⟨?_,?_,?_,?_,?_,?_,?_,?_,?_,?_,h.clo,?_,?_,?_,?_,?_,h.scc,h.use,(λ_ e=>nomatch e),?_,?_⟩<;>(try dsimp only)
 .intro w j
  by_cases e:w=f
  .omega
  .exact h.lt w (by simpa [HU e] using j)
 .intro w;show BL S.idx f (S.clk+1) w<=S.clk+1
  by_cases e:w=f
  .grind
  .rw [HU e];exact Nat.le_succ_of_le (h.ck w)
 .intro a b D C;have O:BL S.idx f (S.clk+1) a≠0:=D;have B:BL S.idx f (S.clk+1) a=BL S.idx f (S.clk+1) b:=C
  by_cases e:a=f<;>by_cases V:b=f
  .rw [e,V]
  .rw [e,k,HU V] at B;have:=h.ck b;omega
  .rw [V,k,HU e] at B;have:=h.ck a;omega
  .rw [HU e,HU V] at B;rw [HU e] at O;exact h.inj a b O B
 .intro w;show w∈S.st++ [f]↔BL S.idx f (S.clk+1) w≠0/\S.of w<0
  by_cases e:w=f
  .rw [e,k];simp [hof]
  .rw [HU e,ϖ,κ,<-h.st w];simp [e]
 .show (S.st++ [f]).Pairwise _;rw [List.pairwise_append];refine ⟨h.srt.imp_of_mem λD C J=>?_,List.pairwise_singleton _ _,λa D b C=>?_⟩
  .rw [l _ D,l _ C];exact J
  .rw [κ.1 C,k,l a D];exact Nat.lt_succ_of_le (h.ck a)
 .intro w j;have m:=h.ofi w j;exact ⟨by show BL S.idx f (S.clk+1) w≠0;rw [T w m.1];exact m.1,m.2⟩
 .intro d g;rcases ϖ.1 g with g | g
  .exact ψo _ (h.csm d g)
  .rw [κ.1 g];exact ψe _ (κ.2 Z)
 .show (S.cs++ [(f,0)]).Pairwise _;rw [List.pairwise_append];refine ⟨h.css.imp_of_mem λD C J=>?_,List.pairwise_singleton _ _,λa D b C=>?_⟩
  .rw [p _ D,p _ C];exact J
  .rw [κ.1 C];show BL S.idx f (S.clk+1) a.1<BL S.idx f (S.clk+1) f;rw [k,p a D];exact Nat.lt_succ_of_le (h.ck _)
 .intro d g w j hfw;have s:BL S.idx f (S.clk+1) d.1<=BL S.idx f (S.clk+1) w:=hfw;rcases ϖ.1 g with g | g
  .rcases ϖ.1 j with j | j
   .rw [p d g,l w j] at s;exact h.r5 d g w j s
   .rw [κ.1 j];exact Y d g
  .rw [κ.1 g] at s⊢;rcases ϖ.1 j with j | j
   .have e1:BL S.idx f (S.clk+1) ((f,0):Nat×Nat).1=S.clk+1:=k;rw [e1,l w j] at s;have:=h.ck w;omega
   .rw [κ.1 j];exact .refl f
 .intro w j;rcases ϖ.1 j with j | j
  .obtain ⟨d,g,m,P⟩:=h.r4 w j;exact ⟨d,ψo _ g,by show BL S.idx f (S.clk+1) d.1<=BL S.idx f (S.clk+1) w;rw [p d g,l w j];exact m,P⟩
  .rw [κ.1 j];exact ⟨(f,0),ψe _ (κ.2 Z),Γ _,.refl f⟩
 .intro w j L y u;show BL S.idx f (S.clk+1) y≠0;have X:w≠f:=λe=>L (f,0) (ψe _ (κ.2 Z)) e.symm
  have A:w∈S.st:=by
   rcases ϖ.1 j with j | j
   .exact j
   .exact absurd (κ.1 j) X
  have m:=h.blk w A (λd g=>L d (ψo _ g)) y u;rw [T y m];exact m
 .intro d g;rcases ϖ.1 g with g | g
  .refine ⟨(h.gry d g).1,λi y r u=> .inl ?_⟩;show BL S.idx f (S.clk+1) y≠0;rcases (h.gry d g).2 i y r u with m | m
   .rw [T y m];exact m
   .injection m with m;rw [<-m,k];exact Nat.succ_ne_zero _
  .rw [κ.1 g];exact ⟨ζ _,λi y r=>absurd r (Nat.not_lt_zero _)⟩
 .intro w j;show BL S.low f (S.clk+1) w<=BL S.idx f (S.clk+1) w/\∃y∈S.st++ [f],BL S.low f (S.clk+1) w=BL S.idx f (S.clk+1) y/\Rh c w y
  by_cases e:w=f
  .rw [e,k,Lh];exact ⟨Γ _,f,ψe _ (κ.2 Z),k.symm,.refl f⟩
  .have A:w∈S.st:=by
    rcases ϖ.1 j with j | j
    .exact j
    .exact absurd (κ.1 j) e
   obtain ⟨m,y,u,P,U⟩:=h.lw w A;rw [t w e,l w A];exact ⟨m,y,ψo _ u,by rw [l y u];exact P,U⟩
 .intro d g x z F hfx E y u o;have q:BL S.idx f (S.clk+1) d.1<=BL S.idx f (S.clk+1) x:=hfx;show BL S.low f (S.clk+1) d.1<=BL S.idx f (S.clk+1) y;rcases ϖ.1 g with g | g
  .have W:x≠f:=λe=>by
    have m:=E (f,0) (ψe _ (κ.2 Z)) (by show BL S.idx f (S.clk+1) d.1<BL S.idx f (S.clk+1) f;rw [k,p d g];exact Nat.lt_succ_of_le (h.ck _));rw [e] at m;exact φe _ m
   have G:x∈S.st:=by
    rcases ϖ.1 z with z | z
    .exact z
    .exact absurd (κ.1 z) W
   rw [t d.1 (N d g)];rcases ϖ.1 o with o | o
   .rw [l y o];rw [p d g,l x G] at q;refine h.l8 d g x G F q (λR I hlt=>?_) y u o;have m:=E R (ψo _ I) (by show BL S.idx f (S.clk+1) d.1<BL S.idx f (S.clk+1) R.1;rw [p d g,p R I];exact hlt);have Q:BL S.idx f (S.clk+1) x<BL S.idx f (S.clk+1) R.1:=m;rw [l x G,p R I] at Q;exact Q
   .rw [κ.1 o,k];have:=(h.lw d.1 (h.csm d g)).1;have:=h.ck d.1;omega
  .rw [κ.1 g] at q F
   exfalso
   have e1:BL S.idx f (S.clk+1) ((f,0):Nat×Nat).1=S.clk+1:=k;rw [e1] at q;rcases ϖ.1 z with z | z
   .rw [l x z] at q;have:=h.ck x;omega
   .exact F (κ.1 z)
 .intro d g i y r u o;show BL S.low f (S.clk+1) d.1<=BL S.idx f (S.clk+1) y;rcases ϖ.1 g with g | g
  .rw [t d.1 (N d g)];rcases ϖ.1 o with o | o
   .rw [l y o];exact h.l8g d g i y r u o
   .rw [κ.1 o,k];have:=(h.lw d.1 (h.csm d g)).1;have:=h.ck d.1;omega
  .rw [κ.1 g] at r;exact absurd r (Nat.not_lt_zero _)
 .have:=h.num;show S.cnt+(S.st++ [f]).length<=S.clk+1;rw [Δ];simp only [υ];omega
 .obtain ⟨vs,m,P,U⟩:=h.cap;refine ⟨f::vs,φh.2 ⟨λhm=>(U f).1 hm H,m⟩,by rw [χq,P],λw=>?_⟩;show w∈f::vs↔BL S.idx f (S.clk+1) w≠0
  by_cases e:w=f
  .rw [e,k];simp
  .rw [HU e,Υ,<-U w];simp [e]
theorem Kl {R:e ->e ->Prop} {l:List e} {a:e} (h:(l++ [a]).Pairwise R):l.Pairwise R/\∀b∈l,R b a:=by grind
theorem Vm {n:Nat} {m:Nat ->List Nat} {S:TS} {q:List (Nat×Nat)} {v k j:Nat} (h:TI n m S none) (z:S.cs=q++ [(v,k)]) (I:(m v)[k]? =some j) (T:j<n) {low':Nat ->Nat} {p:Option Nat}
  (A:∀w,low' w<=S.low w) (P:∀w∈S.st,∃y∈S.st,low' w=S.idx y/\Rh m w y) (W:S.idx j≠0\/p=some j) (N:∀x,p=some x ->x=j/\S.idx j=0) (X:j∈S.st ->low' v<=S.idx j):
  TI n m {S with low:=low',cs:=q++ [(v,k+1)]} p:=by
 have B:(v,k)∈S.cs:=by rw [z];exact ψe _ (κ.2 Z)
 have u:∀f∈q,f∈S.cs:=λf c=>by rw [z];exact ψo _ c
 have J:∀f∈q++ [(v,k+1)],∃g∈S.cs,g.1=f.1:=λf c=>by
  grind
 have C:∀g∈S.cs,∃f∈q++ [(v,k+1)],f.1=g.1:=λg d=>by
  rw [z] at d;rcases ϖ.1 d with d | d
  .grind
  simp_all
 have G:(q++ [(v,k+1)]).map (·.1)=S.cs.map (·.1):=by rw [z];simp
 refine ⟨h.lt,h.ck,h.inj,h.st,h.srt,h.ofi,?_,?_,?_,?_,h.clo,?_,?_,?_,?_,?_,h.scc,h.use,?_,h.num,h.cap⟩<;>(try dsimp only)
 .intro f c;obtain ⟨g,d,e⟩:=J f c;rw [<-e];exact h.csm g d
 .have r:(S.cs.map (·.1)).Pairwise λa b=>S.idx a<S.idx b:=ψc.2 h.css;rw [<-G] at r;exact (ψc (f:=λf:Nat×Nat=>f.1) (R:=λa b=>S.idx a<S.idx b)).1 r
 .intro f c;obtain ⟨g,d,e⟩:=J f c;rw [<-e];exact h.r5 g d
 .intro w D;obtain ⟨g,d,r,K⟩:=h.r4 w D;obtain ⟨f,c,e⟩:=C g d;exact ⟨f,c,by rw [e];exact r,by rw [e];exact K⟩
 .intro w D O;refine h.blk w D λg d e=>?_;obtain ⟨f,c,L⟩:=C g d;exact O f c (L.trans e)
 .intro f c;rcases ϖ.1 c with c | c
  .refine ⟨(h.gry f (u f c)).1,λi y l t=>?_⟩;rcases (h.gry f (u f c)).2 i y l t with r | r
   .exact .inl r
   .cases r
  .rw [κ.1 c];refine ⟨(φ.1 I).1,λi y l t=>?_⟩;rcases Nat.lt_or_eq_of_le (Nat.le_of_lt_succ l) with l | l
   .rcases (h.gry (v,k) B).2 i y l t with r | r
    .exact .inl r
    .cases r
   .subst l;have s:(m v)[i]? =some y:=t;rw [I] at s;injection s with e;rw [<-e];exact W
 .intro w D;exact ⟨ωa (A w) (h.lw w D).1,P w D⟩
 .intro f c x M E H F y t o;obtain ⟨g,d,e⟩:=J f c;rw [<-e] at E H⊢;refine ωa (A _) (h.l8 g d x M E H (λg' U Q=>?_) y t o);obtain ⟨f',V,L⟩:=C g' U;have:=F f' V (by rw [L,<-e];exact Q);rw [L] at this;exact this
 .intro f c i y l t o;rcases ϖ.1 c with c | c
  .exact ωa (A _) (h.l8g f (u f c) i y l t o)
  .rw [κ.1 c] at l t⊢;rcases Nat.lt_or_eq_of_le (Nat.le_of_lt_succ l) with l | l
   .exact ωa (A _) (h.l8g (v,k) B i y l t o)
   .subst l;have s:(m v)[i]? =some y:=t;rw [I] at s;injection s with e;rw [<-e] at o⊢;exact X o
 .intro x M;obtain ⟨rfl,Y⟩:=N x M;refine ⟨T,Y,λf c=>?_⟩;obtain ⟨g,d,e⟩:=J f c;rw [<-e];refine .step (h.r5 g d v (h.csm _ B) ?_) (ξ I);have K:=h.css;rw [z] at d K;rcases ϖ.1 d with d | d
  .exact Nat.le_of_lt ((Kl K).2 g d)
  .rw [κ.1 d];exact Γ _
theorem ti_pop1 (h:TI n c S none) (M:S.cs=d++ [(f,(c f).length)]) (hlt:S.low f<S.idx f):
  ∃z u k,d=z++ [(u,k)]/\TI n c {S with low:=BL S.low u (min (S.low u) (S.low f)),cs:=d} none:=by
 have B:(f,(c f).length)∈S.cs:=by rw [M];exact ψe _ (κ.2 Z)
 have P:=h.csm _ B;have j:∀a∈d,a∈S.cs:=λa b=>by rw [M];exact ψo _ b
 have o:∀a∈S.cs,a∈d\/a.1=f:=λa b=>by
  grind
 have H:=h.css;rw [M] at H;obtain ⟨p,s⟩:=Kl H;obtain ⟨_,y0,O,T,F⟩:=h.lw f P
 -- a node that is on its way and lies below v
 have G:∃a∈d,S.idx a.1<=S.low f/\Rh c f a.1:=by
  obtain ⟨a,b,l,I⟩:=h.r4 y0 O;rcases o a b with g | g
  .exact ⟨a,g,by omega,F.trans I⟩
  grind
 have R:d≠ []:=λe=>by obtain ⟨a,b,_⟩:=G;rw [e] at b;cases b
 obtain ⟨z,⟨u,k⟩,t⟩:∃z a,d=z++ [a]:=⟨d.dropLast,d.getLast R,(List.dropLast_concat_getLast R).symm⟩
 have C:(u,k)∈d:=by rw [t];exact ψe _ (κ.2 Z)
 have Q:S.idx u<S.idx f:=s _ C;have X:=h.csm _ (j _ C);have hvu:f≠u:=λe=>by rw [e] at Q;omega
 have r:∀a∈d,S.idx a.1<=S.idx u:=λa b=>by
  rw [t] at b p;rcases ϖ.1 b with b | b
  .exact Nat.le_of_lt ((Kl p).2 a b)
  .rw [κ.1 b];exact Γ _
 have J:∀w,BL S.low u (min (S.low u) (S.low f)) w<=S.low w:=λw=>by
  by_cases e:w=u
  .rw [e,Lh];exact Nat.min_le_left _ _
  .rw [HU e];exact Γ _
 have hinju:∀a∈d,a.1≠u ->S.idx a.1<S.idx u:=λa b e=>by
  have:=r a b;rcases Nat.lt_or_eq_of_le this with l | l
  .exact l
  .exact absurd (h.inj a.1 u ((h.st _).1 (h.csm _ (j _ b))).1 l) e
 refine ⟨z,u,k,t,h.lt,h.ck,h.inj,h.st,h.srt,h.ofi,λa b=>h.csm a (j a b),p,λa b=>h.r5 a (j a b),?_,h.clo,?_,λa b=>h.gry a (j a b),?_,?_,?_,h.scc,h.use,(λ_ e=>nomatch e),h.num,h.cap⟩<;>(try dsimp only)
 .intro w N;obtain ⟨a,b,l,I⟩:=h.r4 w N;rcases o a b with g | g
  .exact ⟨a,g,l,I⟩
  .obtain ⟨D,U,h3,h4⟩:=G;rw [g] at l I;exact ⟨D,U,by omega,I.trans h4⟩
 .intro w N Y y A
  by_cases e:w=f
  .subst e;obtain ⟨i,L⟩:=List.getElem?_of_mem A;rcases (h.gry _ B).2 i y (φ.1 L).1 L with l | l
   .exact l
   .cases l
  .refine h.blk w N (λa b e'=>?_) y A;rcases o a b with g | g
   .exact Y a g e'
   .exact e (e'.symm.trans g)
 .intro w N;refine ⟨ωa (J w) (h.lw w N).1,?_⟩
  by_cases e:w=u
  .rw [e,Lh];obtain ⟨_,y,A,l,I⟩:=h.lw u X;rcases Nat.le_total (S.low u) (S.low f) with K | K
   .rw [Nat.min_eq_left K];exact ⟨y,A,l,I⟩
   .rw [Nat.min_eq_right K];exact ⟨y0,O,T,(h.r5 _ (j _ C) f P (Nat.le_of_lt Q)).trans F⟩
  .rw [HU e];exact (h.lw w N).2
 .intro a b x hx W hfx E y A q
  -- x lies in the segment of f, or of v
  by_cases V:S.idx f<=S.idx x
  .have hfu:a.1=u:=by
    rcases Nat.lt_or_eq_of_le (r a b) with l | l
    .have:=E (u,k) C l;have:S.idx x<S.idx u:=this;omega
    .exact h.inj a.1 u ((h.st _).1 (h.csm _ (j _ b))).1 l
   rw [hfu,Lh];refine ωa (Nat.min_le_right _ _) ?_
   by_cases e:x=f
   .subst e;obtain ⟨i,L⟩:=List.getElem?_of_mem A;exact h.l8g _ B i y (φ.1 L).1 L q
   .refine h.l8 _ B x hx e V (λD g m=>?_) y A q
    exfalso
    rcases o D g with l | l
    .have:=s D l;have I:S.idx f<S.idx D.1:=m;have h3:S.idx D.1<S.idx f:=this;omega
    .rw [l] at m;exact φe _ m
  .refine ωa (J _) (h.l8 a (j a b) x hx W hfx (λD g m=>?_) y A q);rcases o D g with l | l
   .exact E D l m
   .rw [l];omega
 .intro a b i y L A q;exact ωa (J _) (h.l8g a (j a b) i y L A q)
theorem Rh.leave {p:Nat ->Prop} (h:Rh c s t) (j:p s) (g:¬p t):∃x y,p x/\y∈c x/\¬p y/\Rh c y t:=by
 induction h with
 | refl=>exact absurd j g
 | @step t d o e i=>
  by_cases f:p t
  .exact ⟨t,d,f,e,g,.refl d⟩
  .obtain ⟨x,y,n,m,l,k⟩:=i f;exact ⟨x,y,n,m,l,k.step e⟩
theorem ti_pop2 {st1 st2:List Nat} (h:TI n c S none) (H:S.cs=d++ [(f,(c f).length)]) (hlt:S.low f=S.idx f) (F:S.st=st1++f::st2):
  (∀g∈d,S.low g.1<=S.low f)/\TI n c {S with of:=λx=>if x∈f::st2 then (S.cnt:Int) else S.of x,st:=st1,cs:=d,cnt:=S.cnt+1} none:=by
 have E:(f,(c f).length)∈S.cs:=by rw [H];exact ψe _ (κ.2 Z)
 have hvs:=h.csm _ E;have s:∀g∈d,g∈S.cs:=λg o=>by rw [H];exact ψo _ o
 have r:∀g∈S.cs,g∈d\/g.1=f:=λg o=>by
  rw [H] at o;rcases ϖ.1 o with o | o
  .exact .inl o
  .rw [κ.1 o];exact .inr rfl
 have M:=h.css;rw [H] at M;obtain ⟨R,q⟩:=Kl M;have J:=h.srt;rw [F,List.pairwise_append] at J;obtain ⟨hs1,hs2,W⟩:=J
 have C:∀w,w∈f::st2 ->w∈S.st/\S.idx f<=S.idx w:=λw m=>by
  refine ⟨by rw [F];exact ψe _ m,?_⟩;rcases Υ.1 m with rfl | m
  .exact Γ _
  .exact Nat.le_of_lt ((ψr.1 hs2).1 w m)
 have z:∀w,w∈st1 ->w∈S.st/\S.idx w<S.idx f:=λw m=>⟨by rw [F];exact ψo _ m,W w m f (ωu ..)⟩
 have I:∀w∈S.st,w∈st1\/w∈f::st2:=λw m=>by rw [F] at m;exact ϖ.1 m
 have hdis:∀w,w∈st1 ->w∉f::st2:=λw l p=>by have:=(z w l).2;have:=(C w p).2;omega
 have K:∀w∈S.st,S.of w<0:=λw m=>((h.st w).1 m).2
 have hcs1:∀g∈d,g.1∈st1:=λg o=>by
  rcases I _ (h.csm g (s g o)) with l | l
  .exact l
  .have:=(C _ l).2;have p:S.idx g.1<S.idx f:=q g o;omega
 -- all nodes of the component reach v
 have U:∀w∈f::st2,Rh c w f:=λw m=>by
  obtain ⟨g,o,l,p⟩:=h.r4 w (C w m).1;rcases r g o with A | A
  .exact p.trans (h.r5 g o f hvs (Nat.le_of_lt (q g A)))
  .rw [A] at p;exact p
 have G:∀w∈f::st2,Rh c f w:=λw m=>h.r5 _ E w (C w m).1 (C w m).2
 -- its successors lie in it, or in components that are known
 have P:∀x∈f::st2,∀y∈c x,y∈f::st2\/0<=S.of y:=λx O y B=>by
  have hy0:S.idx y≠0:=by
   by_cases e:x=f
   .subst e;obtain ⟨i,D⟩:=List.getElem?_of_mem B;rcases (h.gry _ E).2 i y (φ.1 D).1 D with l | l
    .exact l
    .cases l
   .refine h.blk x (C x O).1 (λg o e'=>?_) y B;rcases r g o with l | l
    .have p:S.idx g.1<S.idx f:=q g l;have:=(C x O).2;rw [e'] at p;omega
    .exact e (e'.symm.trans l)
  rcases Int.lt_or_le (S.of y) 0 with l | l
  .have u:y∈S.st:=(h.st y).2 ⟨hy0,l⟩;rcases I y u with p | p
   .exfalso
    have A:=(z y p).2
    have h4:S.low f<=S.idx y:=by
     by_cases e:x=f
     .subst e;obtain ⟨i,D⟩:=List.getElem?_of_mem B;exact h.l8g _ E i y (φ.1 D).1 D u
     .refine h.l8 _ E x (C x O).1 e (C x O).2 (λT Q t=>?_) y B u
      exfalso
      rcases r T Q with h5 | h5
      .have h6:S.idx T.1<S.idx f:=q T h5;have h7:S.idx f<S.idx T.1:=t;omega
      .rw [h5] at t;exact φe _ t
    omega
   .exact .inl p
  .exact .inr l
 have Y:∀a b,0<=S.of a ->Rh c a b ->0<=S.of b:=λa b ha hab=>hab.clos h.clo ha;have X:∀w∈f::st2,¬0<=S.of w:=λw m=>by have:=K w (C w m).1;omega
 have N:∀w,S.of w≠(S.cnt:Int):=λw e=>by
  have:=(h.ofi w (by rw [e];exact Int.natCast_nonneg _)).2;omega
 refine ⟨λg o=>?_,h.lt,h.ck,h.inj,?_,hs1,?_,hcs1,R,?_,?_,?_,?_,λg o=>h.gry g (s g o),?_,?_,?_,?_,?_,(λ_ e=>nomatch e),?_,h.cap⟩<;>(try dsimp only)
 .have l:=(h.lw g.1 (h.csm g (s g o))).1;have p:S.idx g.1<S.idx f:=q g o;omega
 .intro w
  constructor
  .intro m;rw [η (hdis w m)];exact (h.st w).1 (z w m).1
  .rintro ⟨l,p⟩
   by_cases m:w∈f::st2
   .rw [ς m] at p;omega
   .rw [η m] at p;rcases I w ((h.st w).2 ⟨l,p⟩) with A | A
    .exact A
    .exact absurd A m
 .intro w m
  by_cases L:w∈f::st2
  .rw [ς L];exact ⟨((h.st w).1 (C w L).1).1,by omega⟩
  .rw [η L] at m⊢;have:=h.ofi w m;exact ⟨this.1,by omega⟩
 .exact λg o w m=>h.r5 g (s g o) w (z w m).1
 .intro w m;obtain ⟨g,o,l,p⟩:=h.r4 w (z w m).1;rcases r g o with A | A
  .exact ⟨g,A,l,p⟩
  .rw [A] at l;have:=(z w m).2;omega
 .intro w m y B
  by_cases L:w∈f::st2
  .rcases P w L y B with l | l
   .rw [ς l];exact Int.natCast_nonneg _
   .split
    .exact Int.natCast_nonneg _
    .exact l
  .rw [η L] at m
   split
   .exact Int.natCast_nonneg _
   .exact h.clo w m y B
 .intro w m hnf;refine h.blk w (z w m).1 λg o e=>?_;rcases r g o with l | l
  .exact hnf g l e
  .have:=(z w m).2;rw [<-e,l] at this;omega
 .intro w m;obtain ⟨l,y,B,p,A⟩:=h.lw w (z w m).1;refine ⟨l,y,?_,p,A⟩;rcases I y B with h4 | h4
  .exact h4
  .have:=(C y h4).2;have:=(z w m).2;omega
 .intro g o x O hxf hfx V y B u;refine h.l8 g (s g o) x (z x O).1 hxf hfx (λT Q t=>?_) y B (z y u).1;rcases r T Q with l | l
  .exact V T l t
  .rw [l];exact (z x O).2
 .intro g o i y D B u;exact h.l8g g (s g o) i y D B (z y u).1
 .intro i j D hj
  by_cases l:i∈f::st2<;>by_cases p:j∈f::st2
  .rw [ς l,ς p];exact ⟨λ_=>⟨(U i l).trans (G j p),(U j p).trans (G i l)⟩,λ_=>rfl⟩
  .rw [η p] at hj;rw [ς l,η p];exact ⟨λe=>absurd e.symm (N j),λe=>absurd (Y j i hj e.2) (X i l)⟩
  .rw [η l] at D;rw [η l,ς p];exact ⟨λe=>absurd e (N i),λe=>absurd (Y i j D e.1) (X j p)⟩
  .rw [η l] at D;rw [η p] at hj;rw [η l,η p];exact h.scc i j D hj
 .intro k hc;rcases Nat.lt_or_eq_of_le (Nat.le_of_lt_succ hc) with l | l
  .obtain ⟨w,m⟩:=h.use k l;refine ⟨w,?_⟩;rw [η (λL=>by have:=K w (C w L).1;omega)];exact m
  .exact ⟨f,by rw [ς (ωu ..),l]⟩
 .have:=h.num;rw [F,Δ,χq] at this;omega
theorem DN [BEq e] [LawfulBEq e] {l m:List e} (h:l.Nodup) (d:∀x∈l,x∈m):l.length<=m.length:=by
 induction l generalizing m with
 | nil=>exact ζ _
 | cons a l f=>
  obtain ⟨i,g⟩:=φh.1 h;have j:=d a (ωu ..);have k:=f (m:=m.erase a) g λx c=>(List.mem_erase_of_ne (λb=>by rw [b] at c;exact i c:x≠a)).2 (d x (ωw _ c))
  grind
theorem ti_zero (n:Nat) (a:Nat ->List Nat):TI n a ⟨λ_=>0,λ_=>0,λ_=> -1,[],[],0,0⟩ none where
 lt:=λ_ h=>absurd Z h
 ck:=λ_=>Γ _
 inj:=λ_ _ h=>absurd Z h
 st:=λv=>by simp
 srt:= .nil
 ofi:=λ_ h=>absurd h (by dsimp only;decide)
 csm:=λ_ h=>nomatch h
 css:= .nil
 r5:=λ_ h=>nomatch h
 r4:=λ_ h=>nomatch h
 clo:=λ_ h=>absurd h (by dsimp only;decide)
 blk:=λ_ h=>nomatch h
 gry:=λ_ h=>nomatch h
 lw:=λ_ h=>nomatch h
 l8:=λ_ h=>nomatch h
 l8g:=λ_ h=>nomatch h
 scc:=λ_ _ h=>absurd h (by dsimp only;decide)
 use:=λ_ h=>absurd h (Nat.not_lt_zero _)
 pnd:=λ_ e=>nomatch e
 num:=Γ _
 cap:=⟨[],.nil,Z,λv=>by simp⟩
theorem ti_root (h:TI n c S none) (d:S.cs=[]) (g:f<n) (i:S.idx f=0):TI n c S (some f):=
 {h with
  gry:=λa b=>by rw [d] at b;cases b
  pnd:=λw e=>by injection e with e;subst e;exact ⟨g,i,λa b=>by rw [d] at b;cases b⟩}
theorem ti_done (h:TI n c S p) (a:S.cs=[]):S.st=[]:=by
 cases e:S.st with
 | nil=>rfl
 | cons w l=>
  obtain ⟨f,b,_⟩:=h.r4 w (by rw [e];exact ωu ..)
  grind
theorem Mt (h:TI n c S p):S.clk<=n/\S.cs.length<=S.st.length:=by
 obtain ⟨o,l,q,k⟩:=h.cap
 constructor
 .have:=DN (m:=List.range n) l λx d=>Ψ.2 (h.lt x ((k x).1 d))
  grind
 .have j:(S.cs.map (·.1)).Nodup:=by
   refine ψc.2 (h.css.imp λ{a b} i e=>?_)
   grind
  have:=DN (m:=S.st) j λx d=>by
   obtain ⟨f,g,rfl⟩:=Ξ.1 d;exact h.csm f g
  grind
structure SccOf (n:Nat) (suc:Nat ->List Nat) (of:Nat ->Nat) (cnt:Nat):Prop where
 lt:∀v,v<n ->of v<cnt
 scc:∀i j,i<n ->j<n ->(of i=of j↔Rh suc i j/\Rh suc j i)
 use:∀c,c<cnt ->∃v,v<n/\of v=c
 le:cnt<=n
theorem bP (h:TI n c S p) (g:S.cs=[]) (d:∀v,v<n ->S.idx v≠0):
  SccOf n c (λv=>(S.of v).toNat) S.cnt/\∀v,v<n ->S.of v=(((S.of v).toNat:Nat):Int):=by
 have f:=ti_done h g
 have e:∀v,v<n ->0<=S.of v:=λv b=>by
  rcases Int.lt_or_le (S.of v) 0 with k | k
  .have:=(h.st v).2 ⟨d v b,k⟩;rw [f] at this;cases this
  .exact k
 refine ⟨⟨λv b=>?_,λi j m l=>?_,λa o=>?_,?_⟩,λv b=>(Int.toNat_of_nonneg (e v b)).symm⟩
 .have:=(h.ofi v (e v b)).2;have:=e v b;omega
 .rw [<-h.scc i j (e i m) (e j l)]
  grind
 .obtain ⟨v,b⟩:=h.use a o;refine ⟨v,h.lt v (h.ofi v (by omega)).1,by omega⟩
 .have:=h.num;have:=(Mt h).1;omega
def sucs (g:List (List Nat)) (i:Nat):List Nat:=g.getD i []
def Me (g:List (List Nat)) (done:List Nat) (j:Nat):Nat:=((List.range g.length).map λi=>if i∈done then 0 else (sucs g i).count j).sum
theorem bZ:a.sum=0↔∀x∈a,x=0:=by
 induction a with
 | nil=>simp
 | cons b r d=>
  rw [List.sum_cons];constructor
  .intro h x c;rcases Υ.1 c with rfl | c
   .omega
   .exact d.1 (by omega) x c
  .intro h;have:=h b (ωu ..);have:=d.2 λx c=>h x (ωw _ c);omega
def DQ (g:List (List Nat)) (done:List Nat) (i:Nat):Prop:=i<g.length/\i∉done/\∀k,k<g.length ->k∉done ->i∉sucs g k
theorem RL:Me g h j=0↔∀k,k<g.length ->k∉h ->j∉sucs g k:=by
 unfold Me;rw [bZ]
 constructor
 .intro a k b c e;have:=a _ (Ξ.2 ⟨k,Ψ.2 b,Z⟩);rw [η c] at this;have:=List.count_pos_iff.2 e;omega
 .intro a x d;obtain ⟨k,b,rfl⟩:=Ξ.1 d
  split
  .rfl
  .rename_i c;exact List.count_eq_zero.2 (a k (Ψ.1 b) c)
theorem XS {n i:Nat} {f h:Nat ->Nat} {c:Nat} (b:i<n) (d:∀k,k<n ->k≠i ->f k=h k) (e:f i=h i+c):((List.range n).map f).sum=((List.range n).map h).sum+c:=by
 induction n with
 | zero=>omega
 | succ n a=>
  rw [ωy,Ω,Ω,χt,χt];simp only [ψq,List.map_nil,List.sum_cons,List.sum_nil]
  grind [ωe]
theorem aM (a:i<g.length) (b:i∉h) (j:Nat):Me g h j=Me g (h++ [i]) j+(sucs g i).count j:=by
 unfold Me
 grind [XS]
def R0 (g:List (List Nat)) (K:Nat ->Nat) (l:List Nat):Prop:=∀i,i<l.length ->DQ g (l.take i) (nth l i)/\∀y,DQ g (l.take i) y ->K (nth l i)<=K y
theorem U8 (h:R0 g K a) (c:DQ g a x) (b:∀y,DQ g a y ->K x<=K y):R0 g K (a++ [x]):=by grind [nth,R0]
theorem eQ (j:∀c b,c<g.length ->b<g.length ->K c=K b ->c=b) (h:R0 g K a) (f:R0 g K o):∀i,i<=a.length ->i<=o.length ->a.take i=o.take i:=by
 intro i
 induction i with
 | zero=>intro _ _;simp
 | succ i d=>
  intro n k;have e:=d (by omega) (by omega);rw [ψ (by omega),ψ (by omega),e,<-QQ (by omega),<-QQ (by omega)];have c:=h i (by omega);have b:=f i (by omega);rw [e] at c;rw [j _ _ c.1.1 b.1.1 (Nat.le_antisymm (c.2 _ b.1) (b.2 _ c.1))]
theorem eP (f:∀c b,c<g.length ->b<g.length ->K c=K b ->c=b) (e:R0 g K a) (d:R0 g K o) (el:∀y,¬DQ g a y) (i:∀y,¬DQ g o y):a=o:=by
 rcases Nat.lt_trichotomy a.length o.length with h | h | h
 all_goals (grind [eQ,ωl,R0])
theorem JU (h:R0 g K a):a.Nodup/\∀x∈a,x<g.length:=by
 constructor
 .rw [List.nodup_iff_pairwise_ne,ωk];intro i j b c f e;have:=(h j c).1.2.1;rw [QQ c,<-e] at this;exact this (ψb.2 ⟨i,by rw [ϱ];omega,by simp⟩)
 .intro x d;obtain ⟨i,b,rfl⟩:=ψb.1 d;have:=(h i b).1.1
  rwa [QQ b] at this
structure OI (g:List (List Nat)) (K:Nat ->Nat) (w q out ls:List Nat):Prop where
 len:w.length=g.length
 deg:∀j,j<g.length ->nth w j=Me g out j+ls.count j
 nd:(out++q).Nodup
 lt:∀x∈out++q,x<g.length
 zer:∀x,x<g.length ->(x∈out++q↔nth w x=0)
 hp:JE K q
 grd:R0 g K out
theorem oi_le {a:List Nat} (h:OI g K w q k a):k.length+q.length<=g.length:=by
 have:=DN h.nd (m:=List.range g.length) λx b=>Ψ.2 (h.lt x b)
 grind
theorem oi_pop (h:OI g K w q k []) (l:q≠ []):OI g K w (QJ K q) (k++ [nth q 0]) (sucs g (nth q 0)):=by
 have s:=aC K l;have r:0<q.length:=χa.2 l;have m:nth q 0∈q:=DR r;have b:nth q 0<g.length:=h.lt _ (ϖ.2 (.inr m));have e:nth q 0∉k:=λf=>(χv.1 h.nd).2.2 _ f _ m rfl
 have c:(k++ [nth q 0]++QJ K q).Perm (k++q):=by
  grind
 have n:∀y,y<g.length ->(nth w y=0↔∀a,a<g.length ->a∉k ->y∉sucs g a):=λy d=>by
  rw [h.deg y d,List.count_nil,ψx,RL]
 refine ⟨h.len,λj p=>?_,c.nodup_iff.2 h.nd,λx b=>h.lt x (c.mem_iff.1 b),λx b=>?_,aD h.hp l,U8 h.grd ⟨b,e,?_⟩ λy d=>?_⟩
 .rw [h.deg j p,List.count_nil,ψx,aM b e]
 .rw [c.mem_iff];exact h.zer x b
 .exact (n _ b).1 ((h.zer _ b).1 (ϖ.2 (.inr m)))
 .have:=(h.zer y d.1).2 ((n _ d.1).2 d.2.2);rcases ϖ.1 this with f | f
  .exact (d.2.1 f).elim
  .obtain ⟨i,o,rfl⟩:=ψb.1 f;rw [<-QQ o];exact eL h.hp i o
theorem oi_dec {f:List Nat} (h:OI g K w q k (j::f)) (i:j<g.length):1<=nth w j/\
  (nth w j - 1=0 ->OI g K (w.set j (nth w j - 1)) (NF K q j) k f)/\(nth w j - 1≠0 ->OI g K (w.set j (nth w j - 1)) q k f):=by
 have r:nth w j=Me g k j+(f.count j+1):=by rw [h.deg j i,List.count_cons_self]
 have d:j<w.length:=by rw [h.len];exact i
 have l:j∉k++q:=λo=>by have:=(h.zer j i).1 o;omega
 have b:∀x,x<g.length ->nth (w.set j (nth w j - 1)) x=Me g k x+f.count x:=λx a=>by
  rw [Ko d]
  split
  .grind
  .rename_i e;rw [h.deg x a,List.count_cons_of_ne (λm=>e m.symm)]
 refine ⟨by omega,λn=>?_,λn=>?_⟩
 .have c:(k++NF K q j).Perm (j::(k++q)):=((PJ K q j).append_left k).trans List.perm_middle;refine ⟨by simpa using h.len,b,c.nodup_iff.2 (φh.2 ⟨l,h.nd⟩),λx a=>?_,λx a=>?_,PL h.hp j,h.grd⟩
  .rcases Υ.1 (c.mem_iff.1 a) with rfl | a
   .exact i
   .exact h.lt x a
  .rw [c.mem_iff,Υ,Ko d]
   split
   .omega
   .rename_i e;rw [<-h.zer x a];exact ⟨λp=>p.elim (λm=>(e m).elim) id,.inr⟩
 .refine ⟨by simpa using h.len,b,h.nd,h.lt,λx a=>?_,h.hp,h.grd⟩;rw [Ko d]
  split
  .grind
  .exact h.zer x a
theorem oi_fill (a:w.length=g.length) (b:∀j,j<g.length ->nth w j=Me g [] j)
 (e:q.Nodup) (d:∀x,x∈q↔x<g.length/\nth w x=0) (l:JE K q):OI g K w q [] []:=
 ⟨a,λj f=>by rw [b j f];rfl,e,λx c=>((d x).1 c).1,λx c=>⟨λh=>((d x).1 h).2,λh=>(d x).2 ⟨c,h⟩⟩,l,λi k=>by simp at k⟩
theorem oi_end (h:OI g K w [] k []):R0 g K k/\∀y,¬DQ g k y:=by
 refine ⟨h.grd,λy a=>?_⟩;have:=(h.zer y a.1).2 (by rw [h.deg y a.1,List.count_nil,ψx];exact RL.2 a.2.2);rw [ωi] at this;exact a.2.1 this
end Go.Proofs.YteifpcnphnhaoaaGreat
