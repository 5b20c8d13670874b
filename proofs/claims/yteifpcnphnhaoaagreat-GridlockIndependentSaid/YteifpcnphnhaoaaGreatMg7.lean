import Derived.Test.YteifpcnphnhaoaaGreatMg6
import Derived.Laws.Tables
import Derived.Great.FillDense
namespace Go.Proofs.YteifpcnphnhaoaaGreat
open Go.RowKit
def Au (P:Program) (T:TypeId):Option (List (Nat×Nat)):=match P.underlying T with
 | some (.struct fs)=>fs.toList.mapM λf=>(P.info? f.type).map λi=>(f.offset,i.size)
 | _=>none
def TO (s:AS) (pl:List (Nat×Nat)):List AV ->List (Nat×Operand) ->Option (List AV)
 | cs,[]=>some cs
 | cs,(i,x)::r=>match pl[i]? with
  | none=>none
  | some (off,k)=>match s.ev x with
   | none=>none
   | some a=>match a.cells? with
    | none=>none
    | some l=>match Nat.beq l.length k with
     | false=>none
     | true=>match EE cs off l with
      | none=>none
      | some cs1=>TO s pl cs1 r
theorem Nr {F:Fr} {s:AS} {z:Nat ->Nat ->Value} {o:Act} {w:World} (M:SR F s z o w) {D:List (Nat×Nat)}:∀(parts:List (Nat×Operand)) (v b:List AV) (t:Array Value),TO s D v parts=some b ->t.size=v.length→
  (∀(j:Nat) c u,v[j]? =some c ->t[j]? =some u ->AR w (F.O z s.hp) z c u/\u.oneCell'=true)→
  ∃f,Instr.fill (D.toArray[·]?) t (parts.map λp=>(p.1,o.eval p.2))=some f/\f.size=b.length/\∀(j:Nat) c u,b[j]? =some c ->f[j]? =some u ->AR w (F.O z s.hp) z c u/\u.oneCell'=true
 | [],v,b,t,h,I,E=>by
  simp only [TO,Option.some.injEq] at h;subst h;exact ⟨t,Z,I,E⟩
 | (i,x)::r,v,b,t,h,I,E=>by
  simp only [TO] at h
  split at h
  .cases h
  .rename_i g k G
   split at h
   .cases h
   .rename_i a U
    split at h
    .cases h
    .rename_i l H
     split at h
     .cases h
     .rename_i J
      have J:=fx J
      split at h
      .cases h
      .rename_i L B
       obtain ⟨T,S⟩:=(M.ev U).cells H;obtain ⟨X,O,N⟩:=Cu _ _ _ _ B;obtain ⟨W,V⟩:=Great.foldl_set g (o.eval x).cells.toList 0 t;have A:(o.eval x).cells.size=k:=by rw [<-J,<-T];simp
       obtain ⟨f,R,Q,P⟩:=Nr M r L b ((o.eval x).cells.toList.zipIdx.foldl (λv (x:Value×Nat)=>v.setIfInBounds (g+x.2) x.1) t) h (by rw [W,O];exact I) (λj c u C y=>by
        rw [V j] at y;rw [N] at C;simp only [gg,ib,A] at y
        by_cases K:g<=j/\j<g+l.length
        .rw [ϱ K] at C;rw [ϱ ⟨K.1,by omega,by omega⟩] at y;exact S _ c u C y
        .rw [θ K] at C;rw [θ (by omega)] at y
         exact E j c u C y)
       refine ⟨f,?_,Q,P⟩;rw [gA];unfold Instr.fill;have:(D.toArray)[i]? =some (g,k):=by simpa using G
       simp only [this,A];rw [θ (by simp;omega)];rw [<-R]
       congr 1
       rw [<-Array.foldl_toList,Array.toList_zipIdx]
section
variable {P:Program} {F:Fr} {s:AS} {d:Nat} {ty T:TypeId} {pos:String} {aft:Array Edge} {g:Option (Nat×Bool)}
theorem Fe {l:List (Nat×Operand)} {k f:List AV} {y:List (Nat×Nat)} {A:AV} (E:Ap P T=some k) (b:Au P T=some y) (I:TO s y k l=some f) (H:Iu f=some A) (J:Nat.blt d s.n=true):
  AA P F ⟨some d,.build T l.toArray,ty,pos,aft,g⟩ s d A:=Cd _ J λv h w G=>by
 obtain ⟨i,z,Q,O,N⟩:=H3 E;obtain ⟨M,L⟩:=C5 N w (F.O v s.hp) v;obtain ⟨a,D,C,B⟩:=Nr G l k f z.cells I (by simpa using M) (λj c u t o=>L j c u t (by simpa using o))
 have K:P.built T (l.map λp=>(p.1,h.eval p.2))=some a:=by
  unfold Au at b
  split at b
  .rename_i R r
   unfold Program.built;simp only [Q,r,O,b];exact D
  .cases b
 refine ⟨.agg a,?_,?_⟩
 .have:(l.toArray.map λ(x:Nat×Operand)=>match x with | (i,x)=>(i,h.eval x))=(l.map λp=>(p.1,h.eval p.2)).toArray:=by simp
  simp only [execOp,Sem.run_bind];rw [this,run_build w T _ a (by simpa using K)]
  rfl
 .have:=F3 (us:=a.toList) H (by simpa using C) (λj c u t o=>B j c u t (by simpa using o))
  simpa using this
end
mutual
def AV.ren (σ:Nat ->Nat):AV ->AV
 | .d x=> .d x
 | .top=> .top
 | .tup as=> .tup (I5 σ as)
 | .agg as=> .agg (I5 σ as)
 | .ptr f i off=> .ptr (σ f) i off
 | .own f i n=> .own (σ f) i n
 | .rptr f i k e off=> .rptr (σ f) i k e off
 | .map f i=> .map (σ f) i
 | .ifc T nm f i=> .ifc T nm (σ f) i
 | .fn g caps=> .fn g (I5 σ caps)
def I5 (σ:Nat ->Nat):List AV ->List AV
 | []=> []
 | a::r=>a.ren σ::I5 σ r
end
variable {a:AV}
theorem EH (b:Nat ->Nat) (l:List AV):I5 b l=l.map (AV.ren b):=by
 induction l with
 | nil=>rfl
 | cons a r c=>rw [I5,c];rfl
def Us (σ:Nat ->Nat):List (Nat×AV) ->List (Nat×AV)
 | []=> []
 | (t,a)::r=>(t,a.ren σ)::Us σ r
theorem ao {c:Nat ->Nat} {b:List (Nat×AV)} {t:Nat} (h:get (Us c b) t=some a):∃f,get b t=some f/\a=f.ren c:=by
 induction b with
 | nil=>cases h
 | cons q r i=>
  obtain ⟨k,x⟩:=q;rcases LR h with ⟨rfl,rfl⟩ | ⟨g,h⟩
  all_goals (simp [*,get,HV])
def AI.ren (σ:Nat ->Nat):AI ->AI
 | .blk t cs=> .blk t (I5 σ cs)
 | .row t k xs=> .row t k (I5 σ xs)
 | .rowD t k xs=> .rowD t k xs
 | .loop L=> .loop {L with env:=Us σ L.env}
 | .map bs es=> .map bs es
 | .iter f i c seen=> .iter (σ f) i c seen
 | .addr f i v=> .addr (σ f) i v
 | .any=> .any
 | .nb b t cs=> .nb b t cs
 | .nr b t k cap xs=> .nr b t k cap xs
 | .nm b bs es=> .nm b bs es
 | .itz=> .itz
 | .multi M=> .multi M
def Mq (σ:Nat ->Nat):List AI ->List AI
 | []=> []
 | a::r=>a.ren σ::Mq σ r
def ET (σ:Nat ->Nat):Hp ->Hp
 | []=> []
 | (f,l)::r=>(σ f,Mq σ l)::ET σ r
theorem AR.ren {σ:Nat ->Nat} {w:World} {O:Nat ->Prop} {ρ ρ0:Nat ->Nat ->Value} (b:∀f i,ρ0 f i=ρ (σ f) i) {v:Value} (h:AR w O ρ0 a v):AR w O ρ (a.ren σ) v:=by
 induction h with
 | d h=>exact .d h
 | top=>exact .top
 | tup c _ g=>
  rw [AV.ren,EH];refine .tup (by simpa using c) λi a v k j=>?_
  grind
 | agg c o _ g=>
  rw [AV.ren,EH];refine .agg (by simpa using c) o λi a v k j=>?_
  grind
 | ptr h=>exact .ptr (by rw [<-b];exact h)
 | own h l=>exact .own (by rw [<-b];exact h) l
 | rptr h=>exact .rptr (by rw [<-b];exact h)
 | map h=>exact .map (by rw [<-b];exact h)
 | ifc h=>exact .ifc (by rw [<-b];exact h)
 | fn c _ g=>
  rw [AV.ren,EH];refine .fn (by simpa using c) λi a v k j=>?_
  grind
mutual
theorem AV.ren_ren {h:Nat ->Nat} (b:∀f,h (h f)=f):∀a:AV,(a.ren h).ren h=a
 | .d _=>rfl
 | .top=>rfl
 | .tup l=>by rw [AV.ren,AV.ren,Eh b l]
 | .agg l=>by rw [AV.ren,AV.ren,Eh b l]
 | .ptr f i j=>by rw [AV.ren,AV.ren,b]
 | .own f i n=>by rw [AV.ren,AV.ren,b]
 | .rptr f i k e j=>by rw [AV.ren,AV.ren,b]
 | .map f i=>by rw [AV.ren,AV.ren,b]
 | .ifc T o f i=>by rw [AV.ren,AV.ren,b]
 | .fn g c=>by rw [AV.ren,AV.ren,Eh b c]
theorem Eh {c:Nat ->Nat} (b:∀f,c (c f)=f):∀l:List AV,I5 c (I5 c l)=l
 | []=>rfl
 | a::r=>by rw [I5,I5,AV.ren_ren b a,Eh b r]
end
variable {a:Nat ->Nat ->Value} {c:Nat ->Nat} {w:World} {f:Value} {g h:Nat ->Prop} {H:Hp} {i:List (Nat×Nat)} {k:List Nat} {s:Nat ->Nat ->Value} {P:Program} {u:FuncId} {x:Hp} {F:Fr} {z:Nat}
theorem YG (b:∀f,c (c f)=f) (l:List (Nat×AV)):Us c (Us c l)=l:=by
 induction l with
 | nil=>rfl
 | cons a r g=>obtain ⟨t,a⟩:=a;rw [Us,Us,AV.ren_ren b,g]
theorem AI.ren_ren (b:∀f,c (c f)=f) (o:AI):(o.ren c).ren c=o:=by
 cases o with
 | blk t j=>rw [AI.ren,AI.ren,Eh b]
 | row t k g=>rw [AI.ren,AI.ren,Eh b]
 | rowD t k g=>rfl
 | loop L=>simp only [AI.ren,YG b]
 | map l h=>rfl
 | iter f i a seen=>simp only [AI.ren,b]
 | addr f i v=>simp only [AI.ren,b]
 | any=>rfl
 | nb _ _ _=>rfl
 | nr _ _ _ _ _=>rfl
 | nm _ _ _=>rfl
 | itz=>rfl
 | multi _=>rfl
theorem YF (b:∀f,c (c f)=f) (l:List AI):Mq c (Mq c l)=l:=by
 induction l with
 | nil=>rfl
 | cons a r g=>rw [Mq,Mq,AI.ren_ren b,g]
theorem GF (b:∀f,c (c f)=f) (l:Hp):ET c (ET c l)=l:=by
 induction l with
 | nil=>rfl
 | cons a r g=>obtain ⟨f,x⟩:=a;rw [ET,ET,b,YF b,g]
theorem al (b:Nat ->Nat) (l:List AI) (i:Nat):(Mq b l)[i]? =(l[i]?).map (AI.ren b):=by
 induction l generalizing i with
 | nil=>rfl
 | cons a r c=>
  grind [Mq]
theorem ak (b:Nat ->Nat) (l:List AI):gV (Mq b l)=gV l:=by
 match l with
 | []=>rfl
 | [a]=>cases a<;>rfl
 | _::_::_=>rfl
theorem jv (a:Nat ->Nat) (l:List AI) (i:Nat):gl (Mq a l) i=(gl l i).map (AI.ren a):=by
 unfold gl;rw [ak]
 cases gV l with
 | none=>exact al a l i
 | some M=>
  show (M i).map (A7.at_ i)=((M i).map (A7.at_ i)).map (AI.ren a)
  cases M i with
  | none=>rfl
  | some m=>cases m<;>rfl
theorem am (b:∀f,c (c f)=f) (a:Hp) (f:Nat):eQ (ET c a) (c f)=(eQ a f).map (Mq c):=by
 induction a with
 | nil=>rfl
 | cons p r g=>
  obtain ⟨k,l⟩:=p;simp only [ET,eQ]
  by_cases e:k=f
  .subst e;simp
  grind [HV]
theorem J0 (a:∀f,c (c f)=f) (b:Hp) (f i:Nat):dr (ET c b) (c f) i=(dr b f i).map (AI.ren c):=by
 simp only [dr,am a]
 cases eQ b f with
 | none=>rfl
 | some l=>exact jv c l i
variable {o:AI}
theorem Ae.ren {σ:Nat ->Nat} {ρ ρ0:Nat ->Nat ->Value} (z:∀l i,ρ0 l i=ρ (σ l) i) (h:Ae w g ρ0 o f):Ae w g ρ (o.ren σ) f:=by
 cases o with
 | blk t G=>
  obtain ⟨b,H,D,C,E,F,I⟩:=h;rw [AI.ren,EH];refine ⟨b,H,D,C,by simpa using E,λj c u s M=>?_,I⟩;rw [η] at s
  cases hh:G[j]? with
  | none=>rw [hh] at s;cases s
  | some b=>rw [hh] at s;injection s with s;subst s;exact (F j b u hh M).ren z
 | row t k J=>
  obtain ⟨H,D,C,E,F⟩:=h;rw [AI.ren,EH]
  have A:∀a:AV,(a.ren σ).cells=a.cells.map (AV.ren σ):=λa=>by
   cases a with
   | agg X=>rw [AV.ren,EH];rfl
   | d x=>
    cases x with
    | agg G=>
     show List.map AV.d G=(List.map AV.d G).map (AV.ren σ);rw [fS];exact fi λc _=>rfl
    | _=>rfl
   | _=>rfl
  refine ⟨H,by simpa using D,by simpa using C,λx B=>?_,λi x B j c s=>?_⟩
  .grind
  .rw [η] at B
   cases hh:J[i]? with
   | none=>rw [hh] at B;cases B
   | some y=>
    rw [hh] at B;injection B with B;subst B
    rw [A,η] at s
    cases hh2:y.cells[j]? with
    | none=>rw [hh2] at s;cases s
    | some Q=>
     rw [hh2] at s;injection s with s;subst s
     obtain ⟨u,T,S,R⟩:=F i y hh j Q hh2;exact ⟨u,T,S,R.ren z⟩
 | rowD t k J=>exact h
 | loop L=>
  obtain ⟨r,D,C,E,F,I⟩:=h;refine ⟨r,D,C,E,F,λt a N=>?_⟩;obtain ⟨U,P,rfl⟩:=ao N;exact (I t U P).ren z
 | map W V=>
  exact h
 | iter l i c seen=>
  obtain ⟨r,m,K,D,C,E⟩:=h;exact ⟨r,m,K,D,by rw [<-z];exact C,E⟩
 | addr l i u=>exact ⟨h.1,by rw [<-z];exact h.2⟩
 | any=>trivial
 | nb _ _ _=>exact h
 | nr _ _ _ _ _=>exact h
 | nm _ _ _=>exact h
 | itz=>exact h
 | multi _=>trivial
theorem Am.ren {σ:Nat ->Nat} (a:∀f,σ (σ f)=f) {ρ ρ0:Nat ->Nat ->Value} (c:∀f i,ρ0 f i=ρ (σ f) i) (h:Am ρ0 H z):Am ρ (ET σ H) z:=by grind [J0,Am]
theorem Am.ren_iff (b:∀f,c (c f)=f) (g:∀f i,s f i=a (c f) i):Am a (ET c H)=Am s H:=by grind [Am.ren,GF]
theorem BP.ren {σ:Nat ->Nat} (a:∀f,σ (σ f)=f) {F F':Fr} {ρ ρ0:Nat ->Nat ->Value} (j:∀f i,ρ0 f i=ρ (σ f) i) (k:F'.w0=F.w0) (J:F'.Of=F.Of) (B:F'.own0=F.own0) (I:∀f i,F'.pin f i=F.pin (σ f) i) (h:BP F H ρ0 w):BP F' (ET σ H) ρ w:=by
 have E:F'.O ρ (ET σ H)=F.O ρ0 H:=by unfold Fr.O;rw [J,Am.ren_iff a j]
 have g:∀f i o,dr (ET σ H) f i=some o ->∃l,dr H (σ f) i=some l/\o=l.ren σ:=λf i o r=>by
  have:=J0 a H (σ f) i;rw [a,r] at this
  cases hh:dr H (σ f) i with
  | none=>rw [hh] at this;cases this
  | some l=>rw [hh] at this;injection this with this;exact ⟨l,Z,this⟩
 have c:∀f i,ρ f i=ρ0 (σ f) i:=λf i=>by rw [j,a]
 refine ⟨λf i o r=>?_,λf i K D o C b r x v u=>?_,λb v=>?_,k▸h.os,k▸h.tape,k▸h.output,k▸h.size0,λb s A=>?_,λf i b z=>?_,k▸h.drawn⟩
 .obtain ⟨l,y,rfl⟩:=g f i o r;rw [E,c];exact (h.sim _ _ _ y).ren j
 .obtain ⟨l,y,rfl⟩:=g f i o r;obtain ⟨O,G,rfl⟩:=g K D C x;rw [c] at v u;obtain ⟨Q,P⟩:=h.inj _ _ _ _ _ _ b y G v u
  grind
 .rw [Am.ren_iff a j] at v;rw [k,B];exact h.mine b v
 .rw [k] at s⊢;rw [B] at A;exact h.keep b s A
 .rw [I] at z;obtain ⟨N,t,L,M⟩:=h.pins _ _ _ z;refine ⟨by rw [c];exact N,t,I5 σ L,?_⟩;have:=J0 a H (σ f) i;rw [a,M] at this;exact this
theorem PZ (b:∀f,c (c f)=f) (g:∀f i,s f i=a (c f) i) (f i:Nat):CS s H f i=CS a (ET c H) (c f) i:=by
 unfold CS;rw [J0 b,g]
 cases dr H f i with
 | none=>rfl
 | some o=>
  cases o with
  | blk t j=>simp only [gs,AI.ren];split<;>simp_all
  | row t k h=>rfl
  | rowD t k h=>rfl
  | loop L=>rfl
  | map _ _=>rfl
  | iter _ _ _ _=>rfl
  | addr _ _ _=>rfl
  | any=>rfl
  | nb _ _ _=>rfl
  | nr _ _ _ _ _=>rfl
  | nm _ _ _=>rfl
  | itz=>rfl
  | multi _=>rfl
variable {j:List AV}
theorem AJ.ren {R:AV ->Hp ->Prop} {σ:Nat ->Nat} (b:∀u,σ (σ u)=u) (h:AJ P u j H R):AJ P u (I5 σ j) (ET σ H) λr t=>R (r.ren σ) (ET σ t):=by
 refine ⟨h.1,λF ρ C L B A K J I=>?_⟩
 let ρ0:Nat ->Nat ->Value:=λu i=>ρ (σ u) i
 have c:∀u i,ρ0 u i=ρ (σ u) i:=λ_ _=>rfl;have k:∀u i,ρ u i=ρ0 (σ u) i:=λu i=>by rw [c,b]
 let w:Fr:=Fr.mk F.rnd F.lo F.w0 F.Of F.own0 (CS ρ0 H) F.hOf (gW H) (λ_ _ _ h=>DF h)
 have s:BP w H ρ0 F.w0:=by
  have:=BP.ren (σ:=σ) (F:=F) (F':=w) (ρ:=ρ0) (ρ0:=ρ) b k Z Z Z (λu i=>by
   show CS ρ0 H u i=F.pin (σ u) i
   rw [B];exact PZ b c u i) K
  rwa [GF b] at this
 have O:w.O ρ0 H=F.O ρ (ET σ H):=by unfold Fr.O;rw [Am.ren_iff b c]
 refine (h.2 w ρ0 C (by show F.own0=_;rw [L];exact Am.ren_iff b c) Z ⟨Z,A.2⟩ s (by rw [J,EH,ψ]) (λi a v E D=>?_)).mono λe N ⟨v,r,t,g,M,G,x,y⟩=>?_
 .have:=I i (a.ren σ) v (by rw [EH,η,E];rfl) D;have:=this.ren (ρ:=ρ0) (σ:=σ) k
  grind [AV.ren_ren]
 .let l:Nat ->Nat ->Value:=λu i=>g (σ u) i
  have o:∀u i,g u i=l (σ u) i:=λu i=>by show _=g (σ (σ u)) i;rw [b]
  have z:F.O l (ET σ t)=w.O g t:=by unfold Fr.O;rw [Am.ren_iff b o]
  refine ⟨v,r.ren σ,ET σ t,l,M,by show R ((r.ren σ).ren σ) (ET σ (ET σ t));rw [AV.ren_ren b,GF b];exact G,by rw [z];exact x.ren o,?_⟩
  exact BP.ren b (F:=w) (F':=F) o Z Z Z (λu i=>by
   show F.pin u i=CS ρ0 H (σ u) i
   rw [B,PZ b c,b]) y
def DQ:List (Nat×Nat) ->Nat ->Nat
 | [],x=>x
 | (a,b)::r,x=>match Nat.beq a x with
  | true=>b
  | false=>match Nat.beq b x with
   | true=>a
   | false=>DQ r x
def OR:List (Nat×Nat) ->Bool
 | []=>true
 | (a,b)::r=>!ed a (r.map (·.1)) &&(!ed a (r.map (·.2)) &&(!ed b (r.map (·.1)) &&(!ed b (r.map (·.2)) && OR r)))
theorem Xg {x:Nat} (h:DQ i x≠x):(x∈i.map (·.1)\/x∈i.map (·.2))/\(DQ i x∈i.map (·.1)\/DQ i x∈i.map (·.2)):=by
 induction i with
 | nil=>exact absurd Z h
 | cons p r a=>
  grind [DQ,HV]
theorem DD (h:OR i=true) (x:Nat):DQ i (DQ i x)=x:=by
 induction i with
 | nil=>rfl
 | cons p r k=>
  obtain ⟨a,b⟩:=p;simp only [OR,fV,Bool.not_eq_true'] at h;obtain ⟨z,w,v,u,s⟩:=h;have t:∀{y:Nat} {i:List Nat},ed y i=false ->y∉i:=λf o=>by rw [Fd.2 o] at f;cases f
  have j:=k s
  by_cases g:a=x
  .subst g
   by_cases c:a=b
   .subst c;simp [DQ]
   .simp [DQ,HV c]
  .by_cases c:b=x
   .subst c;simp [DQ,HV g]
   grind [DQ,HV,Xg]
theorem AJ.by (l:List (Nat×Nat)) {g:Hp} {c:AV} (h:AJ P u j H λr a=>r=c/\a=g) (b:OR l=true):
  AJ P u (I5 (DQ l) j) (ET (DQ l) H) λr a=>r=c.ren (DQ l)/\a=ET (DQ l) g:=
 (h.ren (DD b)).mono λr a ⟨k,i⟩=>⟨by rw [<-k,AV.ren_ren (DD b)],by rw [<-i,GF (DD b)]⟩
inductive RZ (hp:Hp) (bl:List Nat):AV ->D ->Prop
 | d {x:D}:RZ hp bl (.d x) x
 | own {f j n:Nat} {t:TypeId} {k:Nat} {xs ys:List D} (ho:dr hp f j=some (.rowD t k xs)) (hb:ed f bl=true) (hn:n<=xs.length) (hys:xs.take n=ys):RZ hp bl (.own f j n) (.sl none ys)
 | ptr {f i off:Nat} {t:TypeId} {cs:List AV} {x:D} (ho:dr hp f i=some (.blk t cs)) (hb:ed f bl=true) (h1:∀c∈x.cells,c.one=true) (g:Nat ->AV) (hg:∀(j:Nat) c,x.cells[j]? =some c ->cs[off+j]? =some (g j)) (hc:∀(j:Nat) c,x.cells[j]? =some c ->RZ hp bl (g j) c):RZ hp bl (.ptr f i off) (.ptr x)
 | agg {as:List AV} {cs:List D} (hl:as.length=cs.length) (h1:∀c∈cs,c.one=true) (hc:∀(j:Nat) a c,as[j]? =some a ->cs[j]? =some c ->RZ hp bl a c):RZ hp bl (.agg as) (.agg cs)
def Hk (F:Fr) (hp:Hp) (ρ:Nat ->Nat ->Value) (bl:List Nat) (b:Nat):Prop:=F.O ρ hp b/\¬∃f i o,ed f bl=true/\dr hp f i=some o/\B6 (ρ f i)=some b
theorem So {f i:Nat} (j:ed f k=true) (g:dr x f i=some o) (c:B6 (a f i)=some z):¬Hk F x a k z:=λh=>h.2 ⟨f,i,o,j,g,c⟩
variable {t:AV} {y:D}
theorem RZ.rep (Z:BP F x a w) (h:RZ x k t y):∀{v:Value},AR w (F.O a x) a t v ->AN w (Hk F x a k) y v:=by
 have O:∀{y:D} {v:Value},AN w (F.O a x) y v ->AN w (Hk F x a k) y v:=λh=>h.mono (ϖ _) (λ_ _ _=>rfl) λb _ U=>U.1
 induction h with
 | d=>intro v E;cases E with | d E=>exact O E
 | @own f j n r s L ys Q U hn P=>
  intro v E;obtain ⟨M,J,h2,h3⟩:=Z.sim f j _ Q
  cases E with
  | @own _ _ _ N K t z hn'=>
   rw [z] at J
   have hN:N=L.length:=by
    rcases J.2 with ⟨e,e0⟩ | ⟨g,c,C,e,_⟩
    .grind
    grind
   subst hN
   have S:n<=K/\K<=maxLen/\(t=none ->K=0)/\(0<L.length ->∃b,t=some ⟨b,0,none⟩/\∃C,w.heap[b]? =some (.cells C r (0,0))/\C.toList.take (L.length*s)=M):=by
    rcases J.2 with ⟨e,e0⟩ | ⟨g,c,C,e,_,c1,c2,c3,c4,c5⟩
    .grind
    grind
   obtain ⟨p1,p2,p3,p4⟩:=S;refine .sl s (λ_ h=>by cases h) p3 (by rw [<-P,Ξ];omega) p1 p2 (λl X=>h2.2.1 l (by rw [<-P] at X;exact gk X)) (λhne=>?_) (λb o G i l X=>?_)
   .grind [Nat.eq_zero_or_pos]
   .have H:L[i]? =some l:=by
     grind
    have hil:i<L.length:=(φ.1 H).1;obtain ⟨V,T,C,c1,c3⟩:=p4 (by omega);rw [T] at G;injection G with G;injection G with hb1 hb2;subst hb1 hb2
    subst T;have A:V<w.heap.size:=(gr.1 c1).1
    have Y:∀(q:Nat) c,l.cells[q]? =some c ->∃u,w.cell? ⟨V,0+i*s+q,none⟩=some u/\AN w (Hk F x a k) c u:=λq c I=>by
     obtain ⟨u,d1,d2,d3⟩:=h2.2.2 i l H q c I
     grind [DT]
    refine .ptr (λq=>(w.cell? ⟨V,0+i*s+q,none⟩).getD undef) A (So U Q (by rw [z];rfl)) (h3 l (ϑ H)) (λq c I=>?_) (λq c I=>?_)
    .grind
    grind
 | @ptr f i B r cs y Q U J g hg I W=>
  intro v E;obtain ⟨b,M,e1,e2,e3,e4,e5⟩:=Z.sim f i _ Q
  cases E with
  | @ptr _ _ _ V z=>
   rw [e1] at z;injection z with z;injection z with z;injection z with z;subst z
   have Y:∀(j:Nat) c,y.cells[j]? =some c ->∃u,w.cell? ⟨b,B+j,none⟩=some u/\AN w (Hk F x a k) c u:=λj c R=>by
    have ha:=hg j c R;have A:B+j<M.length:=by rw [e3];exact (φ.1 ha).1
    refine ⟨M[B+j],by rw [cell_of_row w b (B+j) M.toArray r (0,0) e2];simp [A],?_⟩;exact W j c R (e4 _ _ _ ha (ω A))
   have A:b<w.heap.size:=(gr.1 e2).1;refine .ptr (λq=>(w.cell? ⟨b,B+q,none⟩).getD undef) A (So U Q (by rw [e1];rfl)) J (λq c I=>?_) (λq c I=>?_)
   .grind
   grind
 | agg hl J I W=>
  intro v E
  cases E with
  | agg g1 g2 g3=>
   refine .agg (by omega) J λj c v R hv=>?_
   rename_i as cs vs
   have A:j<as.length:=by rw [hl];exact (φ.1 R).1
   exact W j _ c (ω A) R (g3 j _ v (ω A) hv)
def D.flat:D ->Bool
 | .raw _=>true
 | .agg cs=>cs.all λc=>match c with
  | .raw _=>true
  | _=>false
 | .sl _ xs=>match xs with
  | []=>true
  | _=>false
 | .tup cs=>cs.all λc=>match c with
  | .raw _=>true
  | .sl _ []=>true
  | _=>false
 | .ptr _=>false
 | .fn _ _ _=>false
theorem QY {b:Value} (a:AN w g (.raw b) f):AN w h (.raw b) f:=by
 cases a with | raw a=>exact .raw a
theorem ju {n:Option Bool} (a:AN w g (.sl n []) f):AN w h (.sl n []) f:=by
 cases a with
 | sl k l c b s o r u t=>exact .sl k l c b s o r (λa=>absurd Z a) (λ_ _ _ i x j=>by simp at j)
theorem AN.unflat (b:AN w g y f) (j:y.flat=true):AN w h y f:=by
 cases b with
 | raw b=>exact .raw b
 | agg s F E=>
  refine .agg s F λi c f l B=>?_;have o:=iZ.1 j c (ϑ l)
  grind [QY]
 | tup s E=>
  refine .tup s λi c f l B=>?_;have o:=iZ.1 j c (ϑ l)
  grind [QY,ju]
 | sl k C z r l o D I H=>
  rename_i u t a n G
  cases t with
  | nil=>exact .sl k C z r l o D (λb=>absurd Z b) (λ_ _ _ i y A=>by simp at A)
  | cons _ _=>cases j
 | ptr _ _ _ _ _ _=>cases j
 | fn _ _ _ _=>cases j
def AV.flatS:AV ->Bool
 | .d x=>x.flat
 | .tup _=>false
 | .agg _=>false
 | .fn _ _=>false
 | _=>true
def AV.flat:AV ->Bool
 | .tup as=>as.all AV.flatS
 | .agg as=>as.all AV.flatS
 | a=>a.flatS
theorem AR.unflatS (b:AR w g a t f) (c:t.flatS=true):AR w h a t f:=by
 cases b with
 | d b=>exact .d (b.unflat c)
 | top=>exact .top
 | ptr b=>exact .ptr b
 | own b i=>exact .own b i
 | rptr b=>exact .rptr b
 | map b=>exact .map b
 | ifc b=>exact .ifc b
 | _=>cases c
theorem AR.unflat (b:AR w g a t f) (j:t.flat=true):AR w h a t f:=by
 cases b with
 | tup l b=>exact .tup l λi t f c k=>(b i t f c k).unflatS (iZ.1 j t (ϑ c))
 | agg l r b=>exact .agg l r λi t f c k=>(b i t f c k).unflatS (iZ.1 j t (ϑ c))
 | d b=>exact .d (b.unflat j)
 | top=>exact .top
 | ptr b=>exact .ptr b
 | own b o=>exact .own b o
 | rptr b=>exact .rptr b
 | map b=>exact .map b
 | ifc b=>exact .ifc b
 | fn _ _=>cases j
def AI.Flat:AI ->Prop
 | .blk _ cs=>∀c∈cs,c.flatS=true
 | .row _ _ _=>False
 | .rowD _ _ xs=>∀x∈xs,∀c∈x.cells,c.flat=true
 | .loop _=>False
 | .map _ _=>False
 | .iter _ _ _ _=>False
 | .addr _ _ _=>True
 | .any=>False
 | .nb _ _ _=>False
 | .nr _ _ _ _ _=>False
 | .nm _ _ _=>False
 | .itz=>False
 | .multi _=>False
def eM:List AI ->Prop
 | []=>True
 | o::r=>o.Flat/\eM r
def eN:Hp ->Prop
 | []=>True
 | (_,l)::r=>eM l/\eN r
theorem eN.at (h:eN H) {f i:Nat} (b:dr H f i=some o):o.Flat:=by
 induction H with
 | nil=>simp [dr,eQ] at b
 | cons p r g=>
  obtain ⟨k,l⟩:=p
  by_cases e:k=f
  .subst e;simp only [dr,eQ,gh,i7] at b
   have c:∀(l:List AI),eM l ->o∈l ->o.Flat:=by
    intro l
    induction l with
    | nil=>intro _ h;cases h
    | cons a r g=>
     intro j h;rcases fP.1 h with rfl | h
     .exact j.1
     .exact g j.2 h
   rcases iR b with b | ⟨M,_,e,_,_⟩
   .exact c l h.1 b
   .subst e;exact h.1.1.elim
  .exact g h.2 (by simpa only [dr,eQ,HV e] using b)
theorem Ae.unflat (i:Ae w g a o f) (l:o.Flat):Ae w h a o f:=by
 cases o with
 | blk t G=>
  obtain ⟨b,s,B,A,z,F,E⟩:=i;exact ⟨b,s,B,A,z,λj c u r y=>(F j c u r y).unflatS (l c (ϑ r)),E⟩
 | row t k C=>exact l.elim
 | rowD t k C=>
  obtain ⟨s,B,A,z⟩:=i;exact ⟨s,B,A.mono λx D c r u y=>y.unflat (l x D c r),z⟩
 | loop L=>exact l.elim
 | map _ _=>exact l.elim
 | iter _ _ _ _=>exact l.elim
 | addr _ _ _=>exact i
 | any=>exact l.elim
 | nb _ _ _=>exact l.elim
 | nr _ _ _ _ _=>exact l.elim
 | nm _ _ _=>exact l.elim
 | itz=>exact l.elim
 | multi _=>exact l.elim
section
variable {P:Program} {F:Fr} {s:AS} {d:Nat} {ty:TypeId} {pos:String} {aft:Array Edge} {g:Option (Nat×Bool)} {at_:Array TypeId}
def QH (s:AS) (bl:List Nat):List Operand ->List AV ->Prop
 | [],[]=>True
 | x::xs,a::as=>(s.ev x=some a\/∃a0 y,s.ev x=some a0/\RZ s.hp bl a0 y/\a= .d y)/\QH s bl xs as
 | _,_=>False
theorem QH.rep {l:Nat ->Nat ->Value} {c:Act} {w:World} (j:SR F s l c w) {t:List Nat}:∀{f:List Operand} {k:List AV},QH s t f k ->(f.map c.eval).length=k.length/\∀(i:Nat) a v,k[i]? =some a ->(f.map c.eval)[i]? =some v ->AR w (Hk F s.hp l t) l a v
 | [],[],_=>by simp
 | x::f,a::k,h=>by
  obtain ⟨A,z⟩:=QH.rep j h.2;refine ⟨by simpa using A,λi D v r o=>?_⟩
  cases i with
  | zero=>
   simp at r o;subst r o
   rcases h.1 with h | ⟨E,y,C,B,rfl⟩
   .exact (j.ev h).mono (ϖ _) (λ_ _ _=>rfl) (λb _ u=>u.1) λ_ _ _=>rfl
   .exact .d (B.rep j.heap (j.ev C))
  | succ i=>exact z i D v (by simpa using r) (by simpa using o)
 | [],_::_,h=>h.elim
 | _::_,[],h=>h.elim
theorem IG {f:FuncId} {J:List Operand} {args:List AV} {x:D} (H:List Nat) (K:AK P f args x) (y:QH s H J args) (E:x.flat=true) (O:Nat.blt d s.n=true):
  AA P F ⟨some d,.call {callee:= .value (.func f),args:=J.toArray,argTypes:=at_},ty,pos,aft,g⟩ s d (.d x):=by
 refine ⟨O,Z,λj act w z=>?_⟩;obtain ⟨fn,V,U,T⟩:=K.1;obtain ⟨S,R⟩:=y.rep z;unfold Oper.wp;rw [Cj V U T,Oper.upon_enter];have l:∀j b,¬Am j [] b:=λj b ⟨_,_,_,h,_⟩=>by cases h
 let I:Fr:=Fr.mk none (.marks w.heap.size) w (Hk F s.hp j H) (Am j []) (CS j []) (λb u=>⟨by
  rcases u.1 with u | u
  .exact hU (F.hOf b u).1 z.heap.size0
  .exact (z.heap.mine b u).1,l j b⟩) [] (λ_ _ _ h=>DF h)
 have G:I.O j []=Hk F s.hp j H:=funext λb=>propext ⟨λh=>h.elim id λh=>(l j b h).elim,.inl⟩
 have t:BP I [] j w:=⟨(λf i o B=>by cases B),(λf i f' i' o o' b B=>by cases B),λb u=>(l j b u).elim,Z,Z,Z,ϖ _,λ_ _ _=>rfl,λf i b u=>mL u,ϖ _⟩
 refine (K.2 I j _ Z Z ⟨Z,Z,Z⟩ t S (λi a v Q N=>by rw [G];exact R i a v Q N)).mono λe M ⟨v,r,H',L,Y,⟨X,W⟩,k,c⟩=>?_;subst Y X W;have A:∀b,b<w.heap.size ->M.heap[b]? =w.heap[b]?:=λb C=>c.keep b C (l j b);refine ⟨v,Z,?_,z.heap.stay ⟨c.os,c.tape,c.output,fO z.heap.drawn c.drawn⟩ c.size0 A,c.size0,A⟩
 cases k with
 | d k=>exact .d (k.unflat E)
end
theorem Ab {a b:Type} {f:a ->b} {l:List a} {k:Nat} (h:k<l.length):(l.map f)[k]? =some (f l[k]):=by simp [h]
theorem Ba {a b:Nat} (h:(a:Int)<(b:Int)):a<b:=by omega
abbrev Aj (l:List UInt8):D:= .raw (.string ⟨l.toArray⟩)
section
variable {P:Program} {F:Fr} {s:AS} {d:Nat} {ty T T' E:TypeId} {pos:String} {aft:Array Edge} {g:Option (Nat×Bool)} {x y:Operand}
end
end Go.Proofs.YteifpcnphnhaoaaGreat
