import Derived.Test.YteifpcnphnhaoaaGreatMg6
import Derived.Laws.Tables
import Derived.Great.FillDense
namespace Go.Proofs.YteifpcnphnhaoaaGreat
open Go.RowKit
def Ax(P:Program)(T:TypeId):Option (List (Nat×Nat)):=match P.underlying T with
 | some (.struct fs)=>fs.toList.mapM λf=>(P.info? f.type).map λi=>(f.offset,i.size)
 | _=>none
def Vc(s:AS)(pl:List (Nat×Nat)):List AV->List (Nat×Operand)->Option (List AV)
 | cs,[]=>some cs
 | cs,(i,x)::r=>match pl[i]? with
  | none=>none
  | some (off,k)=>match s.ev x with
   | none=>none
   | some a=>match a.cells? with
    | none=>none
    | some l=>match Nat.beq l.length k with
     | false=>none
     | true=>match Ex cs off l with
      | none=>none
      | some cs1=>Vc s pl cs1 r
theorem Pp{F:Fr}{s:AS}{z:Nat->Nat->Value}{o:Act}{w:World}(M:SR F s z o w){D:List (Nat×Nat)}:∀(parts:List (Nat×Operand)) (v b:List AV) (t:Array Value),Vc s D v parts=some b->t.size=v.length→
  (∀(j:Nat) c u,v[j]? =some c->t[j]? =some u->A8 w (F.O z s.hp) z c u/\u.oneCell'=true)→
  ∃f,Instr.fill (D.toArray[·]?) t (parts.map λp=>(p.1,o.eval p.2))=some f/\f.size=b.length/\∀(j:Nat) c u,b[j]? =some c->f[j]? =some u->A8 w (F.O z s.hp) z c u/\u.oneCell'=true
 | [],v,b,t,h,I,E=>by
  simp only[Vc,Option.some.injEq] at h;subst h;exact ⟨t,Z,I,E⟩
 | (i,x)::r,v,b,t,h,I,E=>by
  simp only[Vc] at h
  split at h
  .cases h
  .rename_i g k G
   split at h
   .cases h
   .rename_i a U
    split at h
    .cases h
    .rename_i l H
     split at h
     .cases h
     .rename_i J
      have J:=ki J
      split at h
      .cases h
      .rename_i L B
       obtain ⟨T,S⟩:=(M.ev U).cells H;obtain ⟨X,O,N⟩:=D5 _ _ _ _ B;obtain ⟨W,V⟩:=Great.foldl_set g (o.eval x).cells.toList 0 t;have A:(o.eval x).cells.size=k:=by rw[<-J,<-T];simp
       obtain ⟨f,R,Q,P⟩:=Pp M r L b ((o.eval x).cells.toList.zipIdx.foldl (λv (x:Value×Nat)=>v.setIfInBounds (g+x.2) x.1) t) h (by rw[W,O];exact I) (λj c u C y=>by
        rw[V j] at y;rw[N] at C;simp only[l7,m7,A] at y
        by_cases K:g<=j/\j<g+l.length
        .rw[ϱ K] at C;rw[ϱ ⟨K.1,by omega,by omega⟩] at y;exact S _ c u C y
        .rw[ν K] at C;rw[ν (by omega)] at y
         exact E j c u C y)
       refine ⟨f,?_,Q,P⟩;rw[k6];unfold Instr.fill;have:(D.toArray)[i]? =some (g,k):=by simpa using G
       simp only[this,A];rw[ν (by simp;omega)];rw[<-R]
       congr 1
       rw[<-Array.foldl_toList,Array.toList_zipIdx]
section
variable{P:Program}{F:Fr}{s:AS}{d:Nat}{ty T:TypeId}{pos:String}{aft:Array Edge}{g:Option (Nat×Bool)}
theorem Dz{l:List (Nat×Operand)}{k f:List AV}{y:List (Nat×Nat)}{A:AV}(E:Ar P T=some k)(b:Ax P T=some y)(I:Vc s y k l=some f)(H:K3 f=some A)(J:Nat.blt d s.n=true):
  AA P F ⟨some d,.build T l.toArray,ty,pos,aft,g⟩ s d A:=DG _ J λv h w G=>by
 obtain ⟨i,z,Q,O,N⟩:=Ib E;obtain ⟨M,L⟩:=DI N w (F.O v s.hp) v;obtain ⟨a,D,C,B⟩:=Pp G l k f z.cells I (by simpa using M) (λj c u t o=>L j c u t (by simpa using o))
 have K:P.built T (l.map λp=>(p.1,h.eval p.2))=some a:=by
  unfold Ax at b
  split at b
  .rename_i R r
   unfold Program.built;simp only[Q,r,O,b];exact D
  .cases b
 refine ⟨.agg a,?_,?_⟩
 .have:(l.toArray.map λ(x:Nat×Operand)=>match x with | (i,x)=>(i,h.eval x))=(l.map λp=>(p.1,h.eval p.2)).toArray:=by simp
  simp only[execOp,Sem.run_bind];rw[this,run_build w T _ a (by simpa using K)]
  rfl
 .have:=G2 (us:=a.toList) H (by simpa using C) (λj c u t o=>B j c u t (by simpa using o))
  simpa using this
end
mutual
def AV.ren(σ:Nat->Nat):AV->AV
 | .d x=> .d x
 | .top=> .top
 | .tup as=> .tup (Jw σ as)
 | .agg as=> .agg (Jw σ as)
 | .ptr f i off=> .ptr (σ f) i off
 | .own f i n=> .own (σ f) i n
 | .rptr f i k e off=> .rptr (σ f) i k e off
 | .map f i=> .map (σ f) i
 | .ifc T nm f i=> .ifc T nm (σ f) i
 | .fn g caps=> .fn g (Jw σ caps)
def Jw(σ:Nat->Nat):List AV->List AV
 | []=> []
 | a::r=>a.ren σ::Jw σ r
end
variable{a:AV}
theorem Ez(b:Nat->Nat)(l:List AV):Jw b l=l.map (AV.ren b):=by
 induction l with
 | nil=>rfl
 | cons a r c=>rw[Jw,c];rfl
def XM(σ:Nat->Nat):List (Nat×AV)->List (Nat×AV)
 | []=> []
 | (t,a)::r=>(t,a.ren σ)::XM σ r
theorem eL{c:Nat->Nat}{b:List (Nat×AV)}{t:Nat}(h:get (XM c b) t=some a):∃f,get b t=some f/\a=f.ren c:=by
 induction b with
 | nil=>cases h
 | cons q r i=>
  obtain ⟨k,x⟩:=q;rcases NP h with ⟨rfl,rfl⟩ | ⟨g,h⟩
  all_goals (simp[*,get,I9])
def AL.ren(σ:Nat->Nat):AL->AL
 | .blk t cs=> .blk t (Jw σ cs)
 | .row t k xs=> .row t k (Jw σ xs)
 | .rowD t k xs=> .rowD t k xs
 | .loop L=> .loop {L with env:=XM σ L.env}
 | .map bs es=> .map bs es
 | .iter f i c seen=> .iter (σ f) i c seen
 | .addr f i v=> .addr (σ f) i v
 | .any=> .any
 | .nb b t cs=> .nb b t cs
 | .nr b t k cap xs=> .nr b t k cap xs
 | .nm b bs es=> .nm b bs es
 | .itz=> .itz
 | .multi M=> .multi M
def PD(σ:Nat->Nat):List AL->List AL
 | []=> []
 | a::r=>a.ren σ::PD σ r
def FG(σ:Nat->Nat):Hp->Hp
 | []=> []
 | (f,l)::r=>(σ f,PD σ l)::FG σ r
theorem A8.ren{σ:Nat->Nat}{w:World}{O:Nat->Prop}{ρ ρ0:Nat->Nat->Value}(b:∀f i,ρ0 f i=ρ (σ f) i){v:Value}(h:A8 w O ρ0 a v):A8 w O ρ (a.ren σ) v:=by
 induction h with
 | d h=>exact .d h
 | top=>exact .top
 | tup c _ g=>
  rw[AV.ren,Ez];refine .tup (by simpa using c) λi a v k j=>?_
  grind
 | agg c o _ g=>
  rw[AV.ren,Ez];refine .agg (by simpa using c) o λi a v k j=>?_
  grind
 | ptr h=>exact .ptr (by rw[<-b];exact h)
 | own h l=>exact .own (by rw[<-b];exact h) l
 | rptr h=>exact .rptr (by rw[<-b];exact h)
 | map h=>exact .map (by rw[<-b];exact h)
 | ifc h=>exact .ifc (by rw[<-b];exact h)
 | fn c _ g=>
  rw[AV.ren,Ez];refine .fn (by simpa using c) λi a v k j=>?_
  grind
mutual
theorem AV.ren_ren{h:Nat->Nat}(b:∀f,h (h f)=f):∀a:AV,(a.ren h).ren h=a
 | .d _=>rfl
 | .top=>rfl
 | .tup l=>by rw[AV.ren,AV.ren,Fg b l]
 | .agg l=>by rw[AV.ren,AV.ren,Fg b l]
 | .ptr f i j=>by rw[AV.ren,AV.ren,b]
 | .own f i n=>by rw[AV.ren,AV.ren,b]
 | .rptr f i k e j=>by rw[AV.ren,AV.ren,b]
 | .map f i=>by rw[AV.ren,AV.ren,b]
 | .ifc T o f i=>by rw[AV.ren,AV.ren,b]
 | .fn g c=>by rw[AV.ren,AV.ren,Fg b c]
theorem Fg{c:Nat->Nat}(b:∀f,c (c f)=f):∀l:List AV,Jw c (Jw c l)=l
 | []=>rfl
 | a::r=>by rw[Jw,Jw,AV.ren_ren b a,Fg b r]
end
variable{a:Nat->Nat->Value}{c:Nat->Nat}{w:World}{f:Value}{g h:Nat->Prop}{H:Hp}{i:List (Nat×Nat)}{k:List Nat}{s:Nat->Nat->Value}{P:Program}{u:FuncId}{x:Hp}{F:Fr}{z:Nat}
theorem ac(b:∀f,c (c f)=f)(l:List (Nat×AV)):XM c (XM c l)=l:=by
 induction l with
 | nil=>rfl
 | cons a r g=>obtain ⟨t,a⟩:=a;rw[XM,XM,AV.ren_ren b,g]
theorem AL.ren_ren(b:∀f,c (c f)=f)(o:AL):(o.ren c).ren c=o:=by
 cases o with
 | blk t j=>rw[AL.ren,AL.ren,Fg b]
 | row t k g=>rw[AL.ren,AL.ren,Fg b]
 | rowD t k g=>rfl
 | loop L=>simp only[AL.ren,ac b]
 | map l h=>rfl
 | iter f i a seen=>simp only[AL.ren,b]
 | addr f i v=>simp only[AL.ren,b]
 | any=>rfl
 | nb _ _ _=>rfl
 | nr _ _ _ _ _=>rfl
 | nm _ _ _=>rfl
 | itz=>rfl
 | multi _=>rfl
theorem ab(b:∀f,c (c f)=f)(l:List AL):PD c (PD c l)=l:=by
 induction l with
 | nil=>rfl
 | cons a r g=>rw[PD,PD,AL.ren_ren b,g]
theorem HO(b:∀f,c (c f)=f)(l:Hp):FG c (FG c l)=l:=by
 induction l with
 | nil=>rfl
 | cons a r g=>obtain ⟨f,x⟩:=a;rw[FG,FG,b,ab b,g]
theorem eI(b:Nat->Nat)(l:List AL)(i:Nat):(PD b l)[i]? =(l[i]?).map (AL.ren b):=by
 induction l generalizing i with
 | nil=>rfl
 | cons a r c=>
  grind[PD]
theorem eH(b:Nat->Nat)(l:List AL):lO (PD b l)=lO l:=by
 match l with
 | []=>rfl
 | [a]=>cases a<;>rfl
 | _::_::_=>rfl
theorem oH(a:Nat->Nat)(l:List AL)(i:Nat):gl (PD a l) i=(gl l i).map (AL.ren a):=by
 unfold gl;rw[eH]
 cases lO l with
 | none=>exact eI a l i
 | some M=>
  show (M i).map (Au.at_ i)=((M i).map (Au.at_ i)).map (AL.ren a)
  cases M i with
  | none=>rfl
  | some m=>cases m<;>rfl
theorem eJ(b:∀f,c (c f)=f)(a:Hp)(f:Nat):dr (FG c a) (c f)=(dr a f).map (PD c):=by
 induction a with
 | nil=>rfl
 | cons p r g=>
  obtain ⟨k,l⟩:=p;simp only[FG,dr]
  by_cases e:k=f
  .subst e;simp
  grind[I9]
theorem LD(a:∀f,c (c f)=f)(b:Hp)(f i:Nat):cj (FG c b) (c f) i=(cj b f i).map (AL.ren c):=by
 simp only[cj,eJ a]
 cases dr b f with
 | none=>rfl
 | some l=>exact oH c l i
variable{o:AL}
theorem Az.ren{σ:Nat->Nat}{ρ ρ0:Nat->Nat->Value}(z:∀l i,ρ0 l i=ρ (σ l) i)(h:Az w g ρ0 o f):Az w g ρ (o.ren σ) f:=by
 cases o with
 | blk t G=>
  obtain ⟨b,H,D,C,E,F,I⟩:=h;rw[AL.ren,Ez];refine ⟨b,H,D,C,by simpa using E,λj c u s M=>?_,I⟩;rw[ς] at s
  cases hh:G[j]? with
  | none=>rw[hh] at s;cases s
  | some b=>rw[hh] at s;injection s with s;subst s;exact (F j b u hh M).ren z
 | row t k J=>
  obtain ⟨H,D,C,E,F⟩:=h;rw[AL.ren,Ez]
  have A:∀a:AV,(a.ren σ).cells=a.cells.map (AV.ren σ):=λa=>by
   cases a with
   | agg X=>rw[AV.ren,Ez];rfl
   | d x=>
    cases x with
    | agg G=>
     show List.map AV.d G=(List.map AV.d G).map (AV.ren σ);rw[jw];exact kQ λc _=>rfl
    | _=>rfl
   | _=>rfl
  refine ⟨H,by simpa using D,by simpa using C,λx B=>?_,λi x B j c s=>?_⟩
  .grind
  .rw[ς] at B
   cases hh:J[i]? with
   | none=>rw[hh] at B;cases B
   | some y=>
    rw[hh] at B;injection B with B;subst B
    rw[A,ς] at s
    cases hh2:y.cells[j]? with
    | none=>rw[hh2] at s;cases s
    | some Q=>
     rw[hh2] at s;injection s with s;subst s
     obtain ⟨u,T,S,R⟩:=F i y hh j Q hh2;exact ⟨u,T,S,R.ren z⟩
 | rowD t k J=>exact h
 | loop L=>
  obtain ⟨r,D,C,E,F,I⟩:=h;refine ⟨r,D,C,E,F,λt a N=>?_⟩;obtain ⟨U,P,rfl⟩:=eL N;exact (I t U P).ren z
 | map W V=>
  exact h
 | iter l i c seen=>
  obtain ⟨r,m,K,D,C,E⟩:=h;exact ⟨r,m,K,D,by rw[<-z];exact C,E⟩
 | addr l i u=>exact ⟨h.1,by rw[<-z];exact h.2⟩
 | any=>trivial
 | nb _ _ _=>exact h
 | nr _ _ _ _ _=>exact h
 | nm _ _ _=>exact h
 | itz=>exact h
 | multi _=>trivial
theorem BJ.ren{σ:Nat->Nat}(a:∀f,σ (σ f)=f){ρ ρ0:Nat->Nat->Value}(c:∀f i,ρ0 f i=ρ (σ f) i)(h:BJ ρ0 H z):BJ ρ (FG σ H) z:=by grind[LD,BJ]
theorem BJ.ren_iff(b:∀f,c (c f)=f)(g:∀f i,s f i=a (c f) i):BJ a (FG c H)=BJ s H:=by grind[BJ.ren,HO]
theorem Bj.ren{σ:Nat->Nat}(a:∀f,σ (σ f)=f){F F':Fr}{ρ ρ0:Nat->Nat->Value}(j:∀f i,ρ0 f i=ρ (σ f) i)(k:F'.w0=F.w0)(J:F'.Of=F.Of)(B:F'.own0=F.own0)(I:∀f i,F'.pin f i=F.pin (σ f) i)(h:Bj F H ρ0 w):Bj F' (FG σ H) ρ w:=by
 have E:F'.O ρ (FG σ H)=F.O ρ0 H:=by unfold Fr.O;rw[J,BJ.ren_iff a j]
 have g:∀f i o,cj (FG σ H) f i=some o->∃l,cj H (σ f) i=some l/\o=l.ren σ:=λf i o r=>by
  have:=LD a H (σ f) i;rw[a,r] at this
  cases hh:cj H (σ f) i with
  | none=>rw[hh] at this;cases this
  | some l=>rw[hh] at this;injection this with this;exact ⟨l,Z,this⟩
 have c:∀f i,ρ f i=ρ0 (σ f) i:=λf i=>by rw[j,a]
 refine ⟨λf i o r=>?_,λf i K D o C b r x v u=>?_,λb v=>?_,k▸h.os,k▸h.tape,k▸h.output,k▸h.size0,λb s A=>?_,λf i b z=>?_,k▸h.drawn⟩
 .obtain ⟨l,y,rfl⟩:=g f i o r;rw[E,c];exact (h.sim _ _ _ y).ren j
 .obtain ⟨l,y,rfl⟩:=g f i o r;obtain ⟨O,G,rfl⟩:=g K D C x;rw[c] at v u;obtain ⟨Q,P⟩:=h.inj _ _ _ _ _ _ b y G v u
  grind
 .rw[BJ.ren_iff a j] at v;rw[k,B];exact h.mine b v
 .rw[k] at s⊢;rw[B] at A;exact h.keep b s A
 .rw[I] at z;obtain ⟨N,t,L,M⟩:=h.pins _ _ _ z;refine ⟨by rw[c];exact N,t,Jw σ L,?_⟩;have:=LD a H (σ f) i;rw[a,M] at this;exact this
theorem R1(b:∀f,c (c f)=f)(g:∀f i,s f i=a (c f) i)(f i:Nat):Cx s H f i=Cx a (FG c H) (c f) i:=by
 unfold Cx;rw[LD b,g]
 cases cj H f i with
 | none=>rfl
 | some o=>
  cases o with
  | blk t j=>simp only[lW,AL.ren];split<;>simp_all
  | row t k h=>rfl
  | rowD t k h=>rfl
  | loop L=>rfl
  | map _ _=>rfl
  | iter _ _ _ _=>rfl
  | addr _ _ _=>rfl
  | any=>rfl
  | nb _ _ _=>rfl
  | nr _ _ _ _ _=>rfl
  | nm _ _ _=>rfl
  | itz=>rfl
  | multi _=>rfl
variable{j:List AV}
theorem AO.ren{R:AV->Hp->Prop}{σ:Nat->Nat}(b:∀u,σ (σ u)=u)(h:AO P u j H R):AO P u (Jw σ j) (FG σ H) λr t=>R (r.ren σ) (FG σ t):=by
 refine ⟨h.1,λF ρ C L B A K J I=>?_⟩
 let ρ0:Nat->Nat->Value:=λu i=>ρ (σ u) i
 have c:∀u i,ρ0 u i=ρ (σ u) i:=λ_ _=>rfl;have k:∀u i,ρ u i=ρ0 (σ u) i:=λu i=>by rw[c,b]
 let w:Fr:=Fr.mk F.rnd F.lo F.w0 F.Of F.own0 (Cx ρ0 H) F.hOf (lV H) (λ_ _ _ h=>Dh h)
 have s:Bj w H ρ0 F.w0:=by
  have:=Bj.ren (σ:=σ) (F:=F) (F':=w) (ρ:=ρ0) (ρ0:=ρ) b k Z Z Z (λu i=>by
   show Cx ρ0 H u i=F.pin (σ u) i
   rw[B];exact R1 b c u i) K
  rwa [HO b] at this
 have O:w.O ρ0 H=F.O ρ (FG σ H):=by unfold Fr.O;rw[BJ.ren_iff b c]
 refine (h.2 w ρ0 C (by show F.own0=_;rw[L];exact BJ.ren_iff b c) Z ⟨Z,A.2⟩ s (by rw[J,Ez,χ]) (λi a v E D=>?_)).mono λe N ⟨v,r,t,g,M,G,x,y⟩=>?_
 .have:=I i (a.ren σ) v (by rw[Ez,ς,E];rfl) D;have:=this.ren (ρ:=ρ0) (σ:=σ) k
  grind[AV.ren_ren]
 .let l:Nat->Nat->Value:=λu i=>g (σ u) i
  have o:∀u i,g u i=l (σ u) i:=λu i=>by show _=g (σ (σ u)) i;rw[b]
  have z:F.O l (FG σ t)=w.O g t:=by unfold Fr.O;rw[BJ.ren_iff b o]
  refine ⟨v,r.ren σ,FG σ t,l,M,by show R ((r.ren σ).ren σ) (FG σ (FG σ t));rw[AV.ren_ren b,HO b];exact G,by rw[z];exact x.ren o,?_⟩
  exact Bj.ren b (F:=w) (F':=F) o Z Z Z (λu i=>by
   show F.pin u i=Cx ρ0 H (σ u) i
   rw[B,R1 b c,b]) y
def EC:List (Nat×Nat)->Nat->Nat
 | [],x=>x
 | (a,b)::r,x=>match Nat.beq a x with
  | true=>b
  | false=>match Nat.beq b x with
   | true=>a
   | false=>EC r x
def QJ:List (Nat×Nat)->Bool
 | []=>true
 | (a,b)::r=>!iB a (r.map (·.1)) &&(!iB a (r.map (·.2)) &&(!iB b (r.map (·.1)) &&(!iB b (r.map (·.2)) && QJ r)))
theorem aI{x:Nat}(h:EC i x≠x):(x∈i.map (·.1)\/x∈i.map (·.2))/\(EC i x∈i.map (·.1)\/EC i x∈i.map (·.2)):=by
 induction i with
 | nil=>exact absurd Z h
 | cons p r a=>
  grind[EC,I9]
theorem Dc(h:QJ i=true)(x:Nat):EC i (EC i x)=x:=by
 induction i with
 | nil=>rfl
 | cons p r k=>
  obtain ⟨a,b⟩:=p;simp only[QJ,kO,Bool.not_eq_true'] at h;obtain ⟨z,w,v,u,s⟩:=h;have t:∀{y:Nat} {i:List Nat},iB y i=false->y∉i:=λf o=>by rw[Gc.2 o] at f;cases f
  have j:=k s
  by_cases g:a=x
  .subst g
   by_cases c:a=b
   .subst c;simp[EC]
   .simp[EC,I9 c]
  .by_cases c:b=x
   .subst c;simp[EC,I9 g]
   grind[EC,I9,aI]
theorem AO.by(l:List (Nat×Nat)){g:Hp}{c:AV}(h:AO P u j H λr a=>r=c/\a=g)(b:QJ l=true):
  AO P u (Jw (EC l) j) (FG (EC l) H) λr a=>r=c.ren (EC l)/\a=FG (EC l) g:=
 (h.ren (Dc b)).mono λr a ⟨k,i⟩=>⟨by rw[<-k,AV.ren_ren (Dc b)],by rw[<-i,HO (Dc b)]⟩
inductive Tp (hp:Hp) (bl:List Nat):AV->D->Prop
 | d {x:D}:Tp hp bl (.d x) x
 | own {f j n:Nat} {t:TypeId} {k:Nat} {xs ys:List D} (ho:cj hp f j=some (.rowD t k xs)) (hb:iB f bl=true) (hn:n<=xs.length) (hys:xs.take n=ys):Tp hp bl (.own f j n) (.sl none ys)
 | ptr {f i off:Nat} {t:TypeId} {cs:List AV} {x:D} (ho:cj hp f i=some (.blk t cs)) (hb:iB f bl=true) (h1:∀c∈x.cells,c.one=true) (g:Nat->AV) (hg:∀(j:Nat) c,x.cells[j]? =some c->cs[off+j]? =some (g j)) (hc:∀(j:Nat) c,x.cells[j]? =some c->Tp hp bl (g j) c):Tp hp bl (.ptr f i off) (.ptr x)
 | agg {as:List AV} {cs:List D} (hl:as.length=cs.length) (h1:∀c∈cs,c.one=true) (hc:∀(j:Nat) a c,as[j]? =some a->cs[j]? =some c->Tp hp bl a c):Tp hp bl (.agg as) (.agg cs)
def KI(F:Fr)(hp:Hp)(ρ:Nat->Nat->Value)(bl:List Nat)(b:Nat):Prop:=F.O ρ hp b/\¬∃f i o,iB f bl=true/\cj hp f i=some o/\CB (ρ f i)=some b
theorem VL{f i:Nat}(j:iB f k=true)(g:cj x f i=some o)(c:CB (a f i)=some z):¬KI F x a k z:=λh=>h.2 ⟨f,i,o,j,g,c⟩
variable{t:AV}{y:D}
theorem Tp.rep(Z:Bj F x a w)(h:Tp x k t y):∀{v:Value},A8 w (F.O a x) a t v->AZ w (KI F x a k) y v:=by
 have O:∀{y:D} {v:Value},AZ w (F.O a x) y v->AZ w (KI F x a k) y v:=λh=>h.mono (Θ _) (λ_ _ _=>rfl) λb _ U=>U.1
 induction h with
 | d=>intro v E;cases E with | d E=>exact O E
 | @own f j n r s L ys Q U hn P=>
  intro v E;obtain ⟨M,J,h2,h3⟩:=Z.sim f j _ Q
  cases E with
  | @own _ _ _ N K t z hn'=>
   rw[z] at J
   have hN:N=L.length:=by
    rcases J.2 with ⟨e,e0⟩ | ⟨g,c,C,e,_⟩
    .grind
    grind
   subst hN
   have S:n<=K/\K<=maxLen/\(t=none->K=0)/\(0<L.length->∃b,t=some ⟨b,0,none⟩/\∃C,w.heap[b]? =some (.cells C r (0,0))/\C.toList.take (L.length*s)=M):=by
    rcases J.2 with ⟨e,e0⟩ | ⟨g,c,C,e,_,c1,c2,c3,c4,c5⟩
    .grind
    grind
   obtain ⟨p1,p2,p3,p4⟩:=S;refine .sl s (λ_ h=>by cases h) p3 (by rw[<-P,η];omega) p1 p2 (λl X=>h2.2.1 l (by rw[<-P] at X;exact lI X)) (λhne=>?_) (λb o G i l X=>?_)
   .grind[Nat.eq_zero_or_pos]
   .have H:L[i]? =some l:=by
     grind
    have hil:i<L.length:=(φ.1 H).1;obtain ⟨V,T,C,c1,c3⟩:=p4 (by omega);rw[T] at G;injection G with G;injection G with hb1 hb2;subst hb1 hb2
    subst T;have A:V<w.heap.size:=(ld.1 c1).1
    have Y:∀(q:Nat) c,l.cells[q]? =some c->∃u,w.cell? ⟨V,0+i*s+q,none⟩=some u/\AZ w (KI F x a k) c u:=λq c I=>by
     obtain ⟨u,d1,d2,d3⟩:=h2.2.2 i l H q c I
     grind[EI]
    refine .ptr (λq=>(w.cell? ⟨V,0+i*s+q,none⟩).getD undef) A (VL U Q (by rw[z];rfl)) (h3 l (ϖ H)) (λq c I=>?_) (λq c I=>?_)
    .grind
    grind
 | @ptr f i B r cs y Q U J g hg I W=>
  intro v E;obtain ⟨b,M,e1,e2,e3,e4,e5⟩:=Z.sim f i _ Q
  cases E with
  | @ptr _ _ _ V z=>
   rw[e1] at z;injection z with z;injection z with z;injection z with z;subst z
   have Y:∀(j:Nat) c,y.cells[j]? =some c->∃u,w.cell? ⟨b,B+j,none⟩=some u/\AZ w (KI F x a k) c u:=λj c R=>by
    have ha:=hg j c R;have A:B+j<M.length:=by rw[e3];exact (φ.1 ha).1
    refine ⟨M[B+j],by rw[cell_of_row w b (B+j) M.toArray r (0,0) e2];simp[A],?_⟩;exact W j c R (e4 _ _ _ ha (ω A))
   have A:b<w.heap.size:=(ld.1 e2).1;refine .ptr (λq=>(w.cell? ⟨b,B+q,none⟩).getD undef) A (VL U Q (by rw[e1];rfl)) J (λq c I=>?_) (λq c I=>?_)
   .grind
   grind
 | agg hl J I W=>
  intro v E
  cases E with
  | agg g1 g2 g3=>
   refine .agg (by omega) J λj c v R hv=>?_
   rename_i as cs vs
   have A:j<as.length:=by rw[hl];exact (φ.1 R).1
   exact W j _ c (ω A) R (g3 j _ v (ω A) hv)
def D.flat:D->Bool
 | .raw _=>true
 | .agg cs=>cs.all λc=>match c with
  | .raw _=>true
  | _=>false
 | .sl _ xs=>match xs with
  | []=>true
  | _=>false
 | .tup cs=>cs.all λc=>match c with
  | .raw _=>true
  | .sl _ []=>true
  | _=>false
 | .ptr _=>false
 | .fn _ _ _=>false
theorem Yc{b:Value}(a:AZ w g (.raw b) f):AZ w h (.raw b) f:=by
 cases a with | raw a=>exact .raw a
theorem oG{n:Option Bool}(a:AZ w g (.sl n []) f):AZ w h (.sl n []) f:=by
 cases a with
 | sl k l c b s o r u t=>exact .sl k l c b s o r (λa=>absurd Z a) (λ_ _ _ i x j=>by simp at j)
theorem AZ.unflat(b:AZ w g y f)(j:y.flat=true):AZ w h y f:=by
 cases b with
 | raw b=>exact .raw b
 | agg s F E=>
  refine .agg s F λi c f l B=>?_;have o:=mo.1 j c (ϖ l)
  grind[Yc]
 | tup s E=>
  refine .tup s λi c f l B=>?_;have o:=mo.1 j c (ϖ l)
  grind[Yc,oG]
 | sl k C z r l o D I H=>
  rename_i u t a n G
  cases t with
  | nil=>exact .sl k C z r l o D (λb=>absurd Z b) (λ_ _ _ i y A=>by simp at A)
  | cons _ _=>cases j
 | ptr _ _ _ _ _ _=>cases j
 | fn _ _ _ _=>cases j
def AV.flatS:AV->Bool
 | .d x=>x.flat
 | .tup _=>false
 | .agg _=>false
 | .fn _ _=>false
 | _=>true
def AV.flat:AV->Bool
 | .tup as=>as.all AV.flatS
 | .agg as=>as.all AV.flatS
 | a=>a.flatS
theorem A8.unflatS(b:A8 w g a t f)(c:t.flatS=true):A8 w h a t f:=by
 cases b with
 | d b=>exact .d (b.unflat c)
 | top=>exact .top
 | ptr b=>exact .ptr b
 | own b i=>exact .own b i
 | rptr b=>exact .rptr b
 | map b=>exact .map b
 | ifc b=>exact .ifc b
 | _=>cases c
theorem A8.unflat(b:A8 w g a t f)(j:t.flat=true):A8 w h a t f:=by
 cases b with
 | tup l b=>exact .tup l λi t f c k=>(b i t f c k).unflatS (mo.1 j t (ϖ c))
 | agg l r b=>exact .agg l r λi t f c k=>(b i t f c k).unflatS (mo.1 j t (ϖ c))
 | d b=>exact .d (b.unflat j)
 | top=>exact .top
 | ptr b=>exact .ptr b
 | own b o=>exact .own b o
 | rptr b=>exact .rptr b
 | map b=>exact .map b
 | ifc b=>exact .ifc b
 | fn _ _=>cases j
def AL.Flat:AL->Prop
 | .blk _ cs=>∀c∈cs,c.flatS=true
 | .row _ _ _=>False
 | .rowD _ _ xs=>∀x∈xs,∀c∈x.cells,c.flat=true
 | .loop _=>False
 | .map _ _=>False
 | .iter _ _ _ _=>False
 | .addr _ _ _=>True
 | .any=>False
 | .nb _ _ _=>False
 | .nr _ _ _ _ _=>False
 | .nm _ _ _=>False
 | .itz=>False
 | .multi _=>False
def jZ:List AL->Prop
 | []=>True
 | o::r=>o.Flat/\jZ r
def W5:Hp->Prop
 | []=>True
 | (_,l)::r=>jZ l/\W5 r
theorem W5.at(h:W5 H){f i:Nat}(b:cj H f i=some o):o.Flat:=by
 induction H with
 | nil=>simp[cj,dr] at b
 | cons p r g=>
  obtain ⟨k,l⟩:=p
  by_cases e:k=f
  .subst e;simp only[cj,dr,lY,mW] at b
   have c:∀(l:List AL),jZ l->o∈l->o.Flat:=by
    intro l
    induction l with
    | nil=>intro _ h;cases h
    | cons a r g=>
     intro j h;rcases jt.1 h with rfl | h
     .exact j.1
     .exact g j.2 h
   rcases mQ b with b | ⟨M,_,e,_,_⟩
   .exact c l h.1 b
   .subst e;exact h.1.1.elim
  .exact g h.2 (by simpa only[cj,dr,I9 e] using b)
theorem Az.unflat(i:Az w g a o f)(l:o.Flat):Az w h a o f:=by
 cases o with
 | blk t G=>
  obtain ⟨b,s,B,A,z,F,E⟩:=i;exact ⟨b,s,B,A,z,λj c u r y=>(F j c u r y).unflatS (l c (ϖ r)),E⟩
 | row t k C=>exact l.elim
 | rowD t k C=>
  obtain ⟨s,B,A,z⟩:=i;exact ⟨s,B,A.mono λx D c r u y=>y.unflat (l x D c r),z⟩
 | loop L=>exact l.elim
 | map _ _=>exact l.elim
 | iter _ _ _ _=>exact l.elim
 | addr _ _ _=>exact i
 | any=>exact l.elim
 | nb _ _ _=>exact l.elim
 | nr _ _ _ _ _=>exact l.elim
 | nm _ _ _=>exact l.elim
 | itz=>exact l.elim
 | multi _=>exact l.elim
section
variable{P:Program}{F:Fr}{s:AS}{d:Nat}{ty:TypeId}{pos:String}{aft:Array Edge}{g:Option (Nat×Bool)}{at_:Array TypeId}
variable{a:List Operand}{c:List AV}{f:FuncId}
def S5(s:AS)(bl:List Nat):List Operand->List AV->Prop
 | [],[]=>True
 | x::xs,a::as=>(s.ev x=some a\/∃a0 y,s.ev x=some a0/\Tp s.hp bl a0 y/\a= .d y)/\S5 s bl xs as
 | _,_=>False
theorem S5.rep{l:Nat->Nat->Value}{c:Act}{w:World}(j:SR F s l c w){t:List Nat}:∀{f:List Operand} {k:List AV},S5 s t f k->(f.map c.eval).length=k.length/\∀(i:Nat) a v,k[i]? =some a->(f.map c.eval)[i]? =some v->A8 w (KI F s.hp l t) l a v
 | [],[],_=>by simp
 | x::f,a::k,h=>by
  obtain ⟨A,z⟩:=S5.rep j h.2;refine ⟨by simpa using A,λi D v r o=>?_⟩
  cases i with
  | zero=>
   simp at r o;subst r o
   rcases h.1 with h | ⟨E,y,C,B,rfl⟩
   .exact (j.ev h).mono (Θ _) (λ_ _ _=>rfl) (λb _ u=>u.1) λ_ _ _=>rfl
   .exact .d (B.rep j.heap (j.ev C))
  | succ i=>exact z i D v (by simpa using r) (by simpa using o)
 | [],_::_,h=>h.elim
 | _::_,[],h=>h.elim
theorem dU{O:Hp}{Q:AV}(bl:List Nat)(hc:AO P f c [] λr R=>r=Q/\R=O)(H:S5 s bl a c)(z:List Nat)(M:C1 s.hp [] z){u x:Hp}{y:List (Nat×AV)}(T:Cj z s.hp=some u)(hE:CE (CG [] z) s.env=some y)(hH:C6 (CG [] z) u=some x)(hR1:A6 z O=true)(hR2:GK z O=true)(Y:Q.ok (Jy z)=true)(V:Q.flat=true)(W:W5 O)(hd:Nat.blt d s.n=true){L:Hp}(E:some (O++x)=some L):
  AH P F ⟨some d,.call {callee:= .value (.func f),args:=a.toArray,argTypes:=at_},ty,pos,aft,g⟩ s ⟨s.n,(d,Q)::y,L⟩ (CG [] z):=by
 injection E with E
 subst E;intro l act w C;obtain ⟨fn,h1,h2,h3⟩:=hc.1;obtain ⟨h4,h5⟩:=H.rep C;unfold Oper.wp;rw[DU h1 h2 h3,Oper.upon_enter];have D:∀l b,¬BJ l [] b:=λl b ⟨_,_,_,h,_⟩=>(by cases h);obtain ⟨N,G,hO⟩:=Fj (.marks w.heap.size) C.heap z M (CH:=[]) rfl
 let F':Fr:=Fr.mk none (.marks w.heap.size) w (KI F s.hp l bl) (BJ l []) (Cx l []) (λb B=>⟨by
  rcases B.1 with B | B
  .exact li (F.hOf b B).1 C.heap.size0
  .exact (C.heap.mine b B).1,D l b⟩) [] (λ_ _ _ h=>Dh h)
 have hO':F'.O l []=KI F s.hp l bl:=funext λb=>propext ⟨λh=>h.elim id λh=>(D l b h).elim,.inl⟩
 have A:Bj F' [] l w:=⟨(λf i o I=>by cases I),(λf i f' i' o o' b I=>by cases I),λb B=>(D l b B).elim,Z,Z,Z,Θ _,λ_ _ _=>rfl,λf i b B=>nO B,Θ _⟩
 refine (hc.2 F' l _ Z Z ⟨Z,Z,Z⟩ A h4 (λi j v X hv=>by rw[hO'];exact h5 i j v X hv)).mono λe w' ⟨v,r,R,S,e1,⟨e2,e3⟩,K,k⟩=>?_;subst e1 e2 e3
 have U:Bj (Bz F (.marks w.heap.size) s.hp [] l w N) R S w':=⟨λf i o I=>(k.sim f i o I).unflat (W.at I),k.inj,k.mine,k.os,k.tape,k.output,k.size0,k.keep,k.pins,k.drawn⟩
 obtain ⟨J,g1,g2,g3,g4,g5,g6,g7⟩:=K9 C.heap z M (CH:=[]) Z T hH N G U hR1 hR2;refine ⟨J,SR.put (s:=⟨s.n,y,R++x⟩) ⟨C.size,C.defs.mono g5 g6 g7,λt j X=>?_,g1⟩ (I4 hd) (g2 r v (λf i hf=>Gc.1 (AV.ok_spec Y hf)) (K.unflat V)),g4⟩;rcases Dm hE X with rfl | ⟨a1,a2⟩
 .exact .top
 .exact g3 _ _ a2 (C.env t j a1)
theorem Fe{x:D}(J:List Nat)(L:AI P f c x)(A:S5 s J a c)(H:x.flat=true)(Q:Nat.blt d s.n=true):
  AA P F ⟨some d,.call {callee:= .value (.func f),args:=a.toArray,argTypes:=at_},ty,pos,aft,g⟩ s d (.d x):=by
 refine ⟨Q,Z,λl act w B=>?_⟩;obtain ⟨fn,W,V,U⟩:=L.1;obtain ⟨T,S⟩:=A.rep B;unfold Oper.wp;rw[DU W V U,Oper.upon_enter];have u:∀l b,¬BJ l [] b:=λl b ⟨_,_,_,h,_⟩=>by cases h
 let K:Fr:=Fr.mk none (.marks w.heap.size) w (KI F s.hp l J) (BJ l []) (Cx l []) (λb z=>⟨by
  rcases z.1 with z | z
  .exact li (F.hOf b z).1 B.heap.size0
  .exact (B.heap.mine b z).1,u l b⟩) [] (λ_ _ _ h=>Dh h)
 have I:K.O l []=KI F s.hp l J:=funext λb=>propext ⟨λh=>h.elim id λh=>(u l b h).elim,.inl⟩
 have y:Bj K [] l w:=⟨(λf i o E=>by cases E),(λf i f' i' o o' b E=>by cases E),λb z=>(u l b z).elim,Z,Z,Z,Θ _,λ_ _ _=>rfl,λf i b z=>nO z,Θ _⟩
 refine (L.2 K l _ Z Z ⟨Z,Z,Z⟩ y T (λi j v R O=>by rw[I];exact S i j v R O)).mono λe N ⟨v,r,H',M,e1,⟨Y,X⟩,t,k⟩=>?_;subst e1 Y X;have C:∀b,b<w.heap.size->N.heap[b]? =w.heap[b]?:=λb G=>k.keep b G (u l b);refine ⟨v,Z,?_,B.heap.stay ⟨k.os,k.tape,k.output,jp B.heap.drawn k.drawn⟩ k.size0 C,k.size0,C⟩
 cases t with
 | d t=>exact .d (t.unflat H)
end
theorem AP{a b:Type}{f:a->b}{l:List a}{k:Nat}(h:k<l.length):(l.map f)[k]? =some (f l[k]):=by simp[h]
theorem BF{a b:Nat}(h:(a:Int)<(b:Int)):a<b:=by omega
abbrev Ak(l:List UInt8):D:= .raw (.string ⟨l.toArray⟩)
section
variable{P:Program}{F:Fr}{s:AS}{d:Nat}{ty T T' E:TypeId}{pos:String}{aft:Array Edge}{g:Option (Nat×Bool)}{x y:Operand}
end
end Go.Proofs.YteifpcnphnhaoaaGreat
