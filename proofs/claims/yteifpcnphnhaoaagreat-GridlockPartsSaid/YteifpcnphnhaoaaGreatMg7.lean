import Derived.Test.YteifpcnphnhaoaaGreatMg6
import Derived.Laws.Tables
import Derived.Great.FillDense
namespace Go.Proofs.YteifpcnphnhaoaaGreat
open Go.RowKit
def Au (P:Program) (T:TypeId):Option (List (Nat×Nat)):=match P.underlying T with
 | some (.struct fs)=>fs.toList.mapM λf=>(P.info? f.type).map λi=>(f.offset,i.size)
 | _=>none
def Ue (s:AS) (pl:List (Nat×Nat)):List AV ->List (Nat×Operand) ->Option (List AV)
 | cs,[]=>some cs
 | cs,(i,x)::r=>match pl[i]? with
  | none=>none
  | some (off,k)=>match s.ev x with
   | none=>none
   | some a=>match a.cells? with
    | none=>none
    | some l=>match Nat.beq l.length k with
     | false=>none
     | true=>match Eh cs off l with
      | none=>none
      | some cs1=>Ue s pl cs1 r
theorem PS {F:Fr} {s:AS} {o:Nat ->Nat ->Value} {f:Act} {w:World} (H:SR F s o f w) {y:List (Nat×Nat)}:∀(parts:List (Nat×Operand)) (m b:List AV) (g:Array Value),Ue s y m parts=some b ->g.size=m.length→
  (∀(j:Nat) c u,m[j]? =some c ->g[j]? =some u ->A9 w (F.O o s.hp) o c u/\u.oneCell'=true)→
  ∃d,Instr.fill (y.toArray[·]?) g (parts.map λp=>(p.1,f.eval p.2))=some d/\d.size=b.length/\∀(j:Nat) c u,b[j]? =some c ->d[j]? =some u ->A9 w (F.O o s.hp) o c u/\u.oneCell'=true
 | [],m,b,g,h,C,z=>by
  simp only [Ue,Option.some.injEq] at h;subst h;exact ⟨g,Z,C,z⟩
 | (i,x)::r,m,b,g,h,C,z=>by
  simp only [Ue] at h
  split at h
  .cases h
  .rename_i e k A
   split at h
   .cases h
   .rename_i a P
    split at h
    .cases h
    .rename_i l B
     split at h
     .cases h
     .rename_i D
      have D:=ωb D
      split at h
      .cases h
      .rename_i G t
       obtain ⟨O,N⟩:=(H.ev P).cells B;obtain ⟨S,J,I⟩:=DX _ _ _ _ t;obtain ⟨R,Q⟩:=Great.foldl_set e (f.eval x).cells.toList 0 g;have q:(f.eval x).cells.size=k:=by rw [<-D,<-O];simp
       obtain ⟨d,M,L,K⟩:=PS H r G b ((f.eval x).cells.toList.zipIdx.foldl (λm (x:Value×Nat)=>m.setIfInBounds (e+x.2) x.1) g) h (by rw [R,J];exact C) (λj c u v n=>by
        rw [Q j] at n;rw [I] at v;simp only [ψx,χb,q] at n
        by_cases E:e<=j/\j<e+l.length
        .rw [ς E] at v;rw [ς ⟨E.1,by omega,by omega⟩] at n;exact N _ c u v n
        .rw [η E] at v;rw [η (by omega)] at n
         exact z j c u v n)
       refine ⟨d,?_,L,K⟩;rw [ψq];unfold Instr.fill;have:(y.toArray)[i]? =some (e,k):=by simpa using A
       simp only [this,q];rw [η (by simp;omega)];rw [<-M]
       congr 1
       rw [<-Array.foldl_toList,Array.toList_zipIdx]
section
variable {P:Program} {F:Fr} {s:AS} {d:Nat} {ty T:TypeId} {pos:String} {aft:Array Edge} {g:Option (Nat×Bool)}
theorem EI {l:List (Nat×Operand)} {h e:List AV} {q:List (Nat×Nat)} {A:AV} (y:At P T=some h) (b:Au P T=some q) (D:Ue s q h l=some e) (C:Jw e=some A) (E:Nat.blt d s.n=true):
  AA P F ⟨some d,.build T l.toArray,ty,pos,aft,g⟩ s d A:=Cz _ E λo f w B=>by
 obtain ⟨i,z,L,K,J⟩:=IT y;obtain ⟨I,H⟩:=Cy J w (F.O o s.hp) o;obtain ⟨a,v,t,r⟩:=PS B l h e z.cells D (by simpa using I) (λj c u n k=>H j c u n (by simpa using k))
 have G:P.built T (l.map λp=>(p.1,f.eval p.2))=some a:=by
  unfold Au at b
  split at b
  .rename_i M m
   unfold Program.built;simp only [L,m,K,b];exact v
  .cases b
 refine ⟨.agg a,?_,?_⟩
 .have:(l.toArray.map λ(x:Nat×Operand)=>match x with | (i,x)=>(i,f.eval x))=(l.map λp=>(p.1,f.eval p.2)).toArray:=by simp
  simp only [execOp,Sem.run_bind];rw [this,run_build w T _ a (by simpa using G)]
  rfl
 .have:=GZ (us:=a.toList) C (by simpa using t) (λj c u n k=>r j c u n (by simpa using k))
  simpa using this
end
mutual
def AV.ren (σ:Nat ->Nat):AV ->AV
 | .d x=> .d x
 | .top=> .top
 | .tup as=> .tup (J9 σ as)
 | .agg as=> .agg (J9 σ as)
 | .ptr f i off=> .ptr (σ f) i off
 | .own f i n=> .own (σ f) i n
 | .rptr f i k e off=> .rptr (σ f) i k e off
 | .map f i=> .map (σ f) i
 | .ifc T nm f i=> .ifc T nm (σ f) i
 | .fn g caps=> .fn g (J9 σ caps)
def J9 (σ:Nat ->Nat):List AV ->List AV
 | []=> []
 | a::r=>a.ren σ::J9 σ r
end
variable {a:AV}
theorem Ej (b:Nat ->Nat) (l:List AV):J9 b l=l.map (AV.ren b):=by
 induction l with
 | nil=>rfl
 | cons a r c=>rw [J9,c];rfl
def WJ (σ:Nat ->Nat):List (Nat×AV) ->List (Nat×AV)
 | []=> []
 | (t,a)::r=>(t,a.ren σ)::WJ σ r
theorem cW {c:Nat ->Nat} {b:List (Nat×AV)} {t:Nat} (h:get (WJ c b) t=some a):∃d,get b t=some d/\a=d.ren c:=by
 induction b with
 | nil=>cases h
 | cons q r f=>
  obtain ⟨k,x⟩:=q;rcases Mp h with ⟨rfl,rfl⟩ | ⟨e,h⟩
  all_goals (simp [*,get,IP])
def AN.ren (σ:Nat ->Nat):AN ->AN
 | .blk t cs=> .blk t (J9 σ cs)
 | .row t k xs=> .row t k (J9 σ xs)
 | .rowD t k xs=> .rowD t k xs
 | .loop L=> .loop {L with env:=WJ σ L.env}
 | .map bs es=> .map bs es
 | .iter f i c seen=> .iter (σ f) i c seen
 | .addr f i v=> .addr (σ f) i v
 | .any=> .any
 | .nb b t cs=> .nb b t cs
 | .nr b t k cap xs=> .nr b t k cap xs
 | .nm b bs es=> .nm b bs es
 | .itz=> .itz
 | .multi M=> .multi M
def O7 (σ:Nat ->Nat):List AN ->List AN
 | []=> []
 | a::r=>a.ren σ::O7 σ r
def Ev (σ:Nat ->Nat):Hp ->Hp
 | []=> []
 | (f,l)::r=>(σ f,O7 σ l)::Ev σ r
theorem A9.ren {σ:Nat ->Nat} {w:World} {O:Nat ->Prop} {ρ ρ0:Nat ->Nat ->Value} (b:∀f i,ρ0 f i=ρ (σ f) i) {v:Value} (h:A9 w O ρ0 a v):A9 w O ρ (a.ren σ) v:=by
 induction h with
 | d h=>exact .d h
 | top=>exact .top
 | tup c _ e=>
  rw [AV.ren,Ej];refine .tup (by simpa using c) λi a v j g=>?_
  grind
 | agg c l _ e=>
  rw [AV.ren,Ej];refine .agg (by simpa using c) l λi a v j g=>?_
  grind
 | ptr h=>exact .ptr (by rw [<-b];exact h)
 | own h k=>exact .own (by rw [<-b];exact h) k
 | rptr h=>exact .rptr (by rw [<-b];exact h)
 | map h=>exact .map (by rw [<-b];exact h)
 | ifc h=>exact .ifc (by rw [<-b];exact h)
 | fn c _ e=>
  rw [AV.ren,Ej];refine .fn (by simpa using c) λi a v j g=>?_
  grind
mutual
theorem AV.ren_ren {h:Nat ->Nat} (b:∀f,h (h f)=f):∀a:AV,(a.ren h).ren h=a
 | .d _=>rfl
 | .top=>rfl
 | .tup l=>by rw [AV.ren,AV.ren,FY b l]
 | .agg l=>by rw [AV.ren,AV.ren,FY b l]
 | .ptr f i j=>by rw [AV.ren,AV.ren,b]
 | .own f i n=>by rw [AV.ren,AV.ren,b]
 | .rptr f i k e j=>by rw [AV.ren,AV.ren,b]
 | .map f i=>by rw [AV.ren,AV.ren,b]
 | .ifc T m f i=>by rw [AV.ren,AV.ren,b]
 | .fn g c=>by rw [AV.ren,AV.ren,FY b c]
theorem FY {c:Nat ->Nat} (b:∀f,c (c f)=f):∀l:List AV,J9 c (J9 c l)=l
 | []=>rfl
 | a::r=>by rw [J9,J9,AV.ren_ren b a,FY b r]
end
variable {a:Nat ->Nat ->Value} {c:Nat ->Nat} {w:World} {d:Value} {e f:Nat ->Prop} {H:Hp} {g:List (Nat×Nat)} {i:List Nat} {j:Nat ->Nat ->Value} {P:Program} {m:FuncId} {n:Hp} {F:Fr} {p:Nat}
theorem ZX (b:∀f,c (c f)=f) (l:List (Nat×AV)):WJ c (WJ c l)=l:=by
 induction l with
 | nil=>rfl
 | cons a r d=>obtain ⟨t,a⟩:=a;rw [WJ,WJ,AV.ren_ren b,d]
theorem AN.ren_ren (b:∀f,c (c f)=f) (o:AN):(o.ren c).ren c=o:=by
 cases o with
 | blk t g=>rw [AN.ren,AN.ren,FY b]
 | row t k d=>rw [AN.ren,AN.ren,FY b]
 | rowD t k d=>rfl
 | loop L=>simp only [AN.ren,ZX b]
 | map h e=>rfl
 | iter f i a seen=>simp only [AN.ren,b]
 | addr f i v=>simp only [AN.ren,b]
 | any=>rfl
 | nb _ _ _=>rfl
 | nr _ _ _ _ _=>rfl
 | nm _ _ _=>rfl
 | itz=>rfl
 | multi _=>rfl
theorem ZW (b:∀f,c (c f)=f) (l:List AN):O7 c (O7 c l)=l:=by
 induction l with
 | nil=>rfl
 | cons a r d=>rw [O7,O7,AN.ren_ren b,d]
theorem Gw (b:∀f,c (c f)=f) (l:Hp):Ev c (Ev c l)=l:=by
 induction l with
 | nil=>rfl
 | cons a r d=>obtain ⟨f,x⟩:=a;rw [Ev,Ev,b,ZW b,d]
theorem cU (b:Nat ->Nat) (l:List AN) (i:Nat):(O7 b l)[i]? =(l[i]?).map (AN.ren b):=by
 induction l generalizing i with
 | nil=>rfl
 | cons a r c=>
  grind [O7]
theorem cT (b:Nat ->Nat) (l:List AN):isM (O7 b l)=isM l:=by
 match l with
 | []=>rfl
 | [a]=>cases a<;>rfl
 | _::_::_=>rfl
theorem renO_gl (a:Nat ->Nat) (l:List AN) (i:Nat):gl (O7 a l) i=(gl l i).map (AN.ren a):=by
 unfold gl;rw [cT]
 cases isM l with
 | none=>exact cU a l i
 | some M=>
  show (M i).map (Ap.at_ i)=((M i).map (Ap.at_ i)).map (AN.ren a)
  cases M i with
  | none=>rfl
  | some m=>cases m<;>rfl
theorem cV (b:∀f,c (c f)=f) (a:Hp) (f:Nat):hfam (Ev c a) (c f)=(hfam a f).map (O7 c):=by
 induction a with
 | nil=>rfl
 | cons p r d=>
  obtain ⟨k,l⟩:=p;simp only [Ev,hfam]
  by_cases e:k=f
  .subst e;simp
  grind [IP]
theorem Kd (a:∀f,c (c f)=f) (b:Hp) (f i:Nat):hget (Ev c b) (c f) i=(hget b f i).map (AN.ren c):=by
 simp only [hget,cV a]
 cases hfam b f with
 | none=>rfl
 | some l=>exact renO_gl c l i
variable {o:AN}
theorem Av.ren {σ:Nat ->Nat} {w:World} {O:Nat ->Prop} {ρ ρ0:Nat ->Nat ->Value} (g:∀f i,ρ0 f i=ρ (σ f) i) {o:AN} {v:Value} (h:Av w O ρ0 o v):Av w O ρ (o.ren σ) v:=by
 cases o with
 | blk t A=>
  obtain ⟨b,B,q,p,s,z,C⟩:=h;rw [AN.ren,Ej];refine ⟨b,B,q,p,by simpa using s,λj c u e F=>?_,C⟩;rw [ν] at e
  cases hh:A[j]? with
  | none=>rw [hh] at e;cases e
  | some b=>rw [hh] at e;injection e with e;subst e;exact (z j b u hh F).ren g
 | row t k D=>
  obtain ⟨B,q,p,s,z⟩:=h;rw [AN.ren,Ej]
  have l:∀a:AV,(a.ren σ).cells=a.cells.map (AV.ren σ):=λa=>by
   cases a with
   | agg R=>rw [AV.ren,Ej];rfl
   | d x=>
    cases x with
    | agg A=>
     show List.map AV.d A=(List.map AV.d A).map (AV.ren σ);rw [ωt];exact ωe λc _=>rfl
    | _=>rfl
   | _=>rfl
  refine ⟨B,by simpa using q,by simpa using p,λx n=>?_,λi x n j c e=>?_⟩
  .grind
  .rw [ν] at n
   cases hh:D[i]? with
   | none=>rw [hh] at n;cases n
   | some y=>
    rw [hh] at n;injection n with n;subst n
    rw [l,ν] at e
    cases hh2:y.cells[j]? with
    | none=>rw [hh2] at e;cases e
    | some I=>
     rw [hh2] at e;injection e with e;subst e
     obtain ⟨u,M,K,J⟩:=z i y hh j I hh2;exact ⟨u,M,K,J.ren g⟩
 | rowD t k D=>exact h
 | loop L=>
  obtain ⟨r,q,p,s,z,C⟩:=h;refine ⟨r,q,p,s,z,λt a G=>?_⟩;obtain ⟨N,H,rfl⟩:=cW G;exact (C t N H).ren g
 | map Q P=>
  exact h
 | iter f i c seen=>
  obtain ⟨r,m,E,q,p,s⟩:=h;exact ⟨r,m,E,q,by rw [<-g];exact p,s⟩
 | addr f i u=>exact ⟨h.1,by rw [<-g];exact h.2⟩
 | any=>trivial
 | nb _ _ _=>exact h
 | nr _ _ _ _ _=>exact h
 | nm _ _ _=>exact h
 | itz=>exact h
 | multi _=>trivial
theorem BK.ren {σ:Nat ->Nat} (a:∀f,σ (σ f)=f) {ρ ρ0:Nat ->Nat ->Value} (c:∀f i,ρ0 f i=ρ (σ f) i) (h:BK ρ0 H p):BK ρ (Ev σ H) p:=by grind [Kd,BK]
theorem BK.ren_iff (b:∀f,c (c f)=f) (d:∀f i,j f i=a (c f) i):BK a (Ev c H)=BK j H:=by grind [BK.ren,Gw]
theorem Ba.ren {σ:Nat ->Nat} (a:∀f,σ (σ f)=f) {F F':Fr} {ρ ρ0:Nat ->Nat ->Value} (e:∀f i,ρ0 f i=ρ (σ f) i) (g:F'.w0=F.w0) (B:F'.Of=F.Of) (u:F'.own0=F.own0) (A:∀f i,F'.pin f i=F.pin (σ f) i) (h:Ba F H ρ0 w):Ba F' (Ev σ H) ρ w:=by
 have y:F'.O ρ (Ev σ H)=F.O ρ0 H:=by unfold Fr.O;rw [B,BK.ren_iff a e]
 have d:∀f i o,hget (Ev σ H) f i=some o ->∃j,hget H (σ f) i=some j/\o=j.ren σ:=λf i o k=>by
  have:=Kd a H (σ f) i;rw [a,k] at this
  cases hh:hget H (σ f) i with
  | none=>rw [hh] at this;cases this
  | some j=>rw [hh] at this;injection this with this;exact ⟨j,Z,this⟩
 have c:∀f i,ρ f i=ρ0 (σ f) i:=λf i=>by rw [e,a]
 refine ⟨λf i o k=>?_,λf i C x o v b k p n m=>?_,λb n=>?_,g▸h.os,g▸h.tape,g▸h.output,g▸h.size0,λb l s=>?_,λf i b r=>?_,g▸h.drawn⟩
 .obtain ⟨j,q,rfl⟩:=d f i o k;rw [y,c];exact (h.sim _ _ _ q).ren e
 .obtain ⟨j,q,rfl⟩:=d f i o k;obtain ⟨I,z,rfl⟩:=d C x v p;rw [c] at n m;obtain ⟨K,J⟩:=h.inj _ _ _ _ _ _ b q z n m
  grind
 .rw [BK.ren_iff a e] at n;rw [g,u];exact h.mine b n
 .rw [g] at l⊢;rw [u] at s;exact h.keep b l s
 .rw [A] at r;obtain ⟨G,t,D,E⟩:=h.pins _ _ _ r;refine ⟨by rw [c];exact G,t,J9 σ D,?_⟩;have:=Kd a H (σ f) i;rw [a,E] at this;exact this
theorem Qi (b:∀f,c (c f)=f) (d:∀f i,j f i=a (c f) i) (f i:Nat):Cp j H f i=Cp a (Ev c H) (c f) i:=by
 unfold Cp;rw [Kd b,d]
 cases hget H f i with
 | none=>rfl
 | some o=>
  cases o with
  | blk t g=>simp only [ψl,AN.ren];split<;>simp_all
  | row t k e=>rfl
  | rowD t k e=>rfl
  | loop L=>rfl
  | map _ _=>rfl
  | iter _ _ _ _=>rfl
  | addr _ _ _=>rfl
  | any=>rfl
  | nb _ _ _=>rfl
  | nr _ _ _ _ _=>rfl
  | nm _ _ _=>rfl
  | itz=>rfl
  | multi _=>rfl
variable {h:List AV}
theorem AT.ren {R:AV ->Hp ->Prop} {σ:Nat ->Nat} (c:∀m,σ (σ m)=m) (b:AT P m h H R):AT P m (J9 σ h) (Ev σ H) λr o=>R (r.ren σ) (Ev σ o):=by
 refine ⟨b.1,λF ρ x E w u D C B=>?_⟩
 let ρ0:Nat ->Nat ->Value:=λm i=>ρ (σ m) i
 have d:∀m i,ρ0 m i=ρ (σ m) i:=λ_ _=>rfl;have j:∀m i,ρ m i=ρ0 (σ m) i:=λm i=>by rw [d,c]
 let p:Fr:=Fr.mk F.rnd F.lo F.w0 F.Of F.own0 (Cp ρ0 H) F.hOf (hpN H) (λ_ _ _ b=>D9 b)
 have n:Ba p H ρ0 F.w0:=by
  have:=Ba.ren (σ:=σ) (F:=F) (F':=p) (ρ:=ρ0) (ρ0:=ρ) c j Z Z Z (λm i=>by
   show Cp ρ0 H m i=F.pin (σ m) i
   rw [w];exact Qi c d m i) D
  rwa [Gw c] at this
 have J:p.O ρ0 H=F.O ρ (Ev σ H):=by unfold Fr.O;rw [BK.ren_iff c d]
 refine (b.2 p ρ0 x (by show F.own0=_;rw [E];exact BK.ren_iff c d) Z ⟨Z,u.2⟩ n (by rw [C,Ej,χ]) (λi a v z y=>?_)).mono λe I ⟨v,r,o,g,G,A,q,s⟩=>?_
 .have:=B i (a.ren σ) v (by rw [Ej,ν,z];rfl) y;have:=this.ren (ρ:=ρ0) (σ:=σ) j
  grind [AV.ren_ren]
 .let k:Nat ->Nat ->Value:=λm i=>g (σ m) i
  have l:∀m i,g m i=k (σ m) i:=λm i=>by show _=g (σ (σ m)) i;rw [c]
  have t:F.O k (Ev σ o)=p.O g o:=by unfold Fr.O;rw [BK.ren_iff c l]
  refine ⟨v,r.ren σ,Ev σ o,k,G,by show R ((r.ren σ).ren σ) (Ev σ (Ev σ o));rw [AV.ren_ren c,Gw c];exact A,by rw [t];exact q.ren l,?_⟩
  exact Ba.ren c (F:=p) (F':=F) l Z Z Z (λm i=>by
   show F.pin m i=Cp ρ0 H (σ m) i
   rw [w,Qi c d,c]) s
def Dm:List (Nat×Nat) ->Nat ->Nat
 | [],x=>x
 | (a,b)::r,x=>match Nat.beq a x with
  | true=>b
  | false=>match Nat.beq b x with
   | true=>a
   | false=>Dm r x
def Pc:List (Nat×Nat) ->Bool
 | []=>true
 | (a,b)::r=>!memB a (r.map (·.1)) &&(!memB a (r.map (·.2)) &&(!memB b (r.map (·.1)) &&(!memB b (r.map (·.2)) && Pc r)))
theorem Yy {x:Nat} (h:Dm g x≠x):(x∈g.map (·.1)\/x∈g.map (·.2))/\(Dm g x∈g.map (·.1)\/Dm g x∈g.map (·.2)):=by
 induction g with
 | nil=>exact absurd Z h
 | cons p r a=>
  grind [Dm,IP]
theorem D5 (h:Pc g=true) (x:Nat):Dm g (Dm g x)=x:=by
 induction g with
 | nil=>rfl
 | cons p r i=>
  obtain ⟨a,b⟩:=p;simp only [Pc,ωd,Bool.not_eq_true'] at h;obtain ⟨s,q,o,n,k⟩:=h;have m:∀{y:Nat} {g:List Nat},memB y g=false ->y∉g:=λd j=>by rw [G4.2 j] at d;cases d
  have f:=i k
  by_cases e:a=x
  .subst e
   by_cases c:a=b
   .subst c;simp [Dm]
   .simp [Dm,IP c]
  .by_cases c:b=x
   .subst c;simp [Dm,IP e]
   grind [Dm,IP,Yy]
theorem AT.by (l:List (Nat×Nat)) {e:Hp} {d:AV} (a:AT P m h H λr b=>r=d/\b=e) (c:Pc l=true):
  AT P m (J9 (Dm l) h) (Ev (Dm l) H) λr b=>r=d.ren (Dm l)/\b=Ev (Dm l) e:=
 (a.ren (D5 c)).mono λr b ⟨i,g⟩=>⟨by rw [<-i,AV.ren_ren (D5 c)],by rw [<-g,Gw (D5 c)]⟩
inductive Sh (hp:Hp) (bl:List Nat):AV ->D ->Prop
 | d {x:D}:Sh hp bl (.d x) x
 | own {f j n:Nat} {t:TypeId} {k:Nat} {xs ys:List D} (ho:hget hp f j=some (.rowD t k xs)) (hb:memB f bl=true) (hn:n<=xs.length) (hys:xs.take n=ys):Sh hp bl (.own f j n) (.sl none ys)
 | ptr {f i off:Nat} {t:TypeId} {cs:List AV} {x:D} (ho:hget hp f i=some (.blk t cs)) (hb:memB f bl=true) (h1:∀c∈x.cells,c.one=true) (g:Nat ->AV) (hg:∀(j:Nat) c,x.cells[j]? =some c ->cs[off+j]? =some (g j)) (hc:∀(j:Nat) c,x.cells[j]? =some c ->Sh hp bl (g j) c):Sh hp bl (.ptr f i off) (.ptr x)
 | agg {as:List AV} {cs:List D} (hl:as.length=cs.length) (h1:∀c∈cs,c.one=true) (hc:∀(j:Nat) a c,as[j]? =some a ->cs[j]? =some c ->Sh hp bl a c):Sh hp bl (.agg as) (.agg cs)
def Ig (F:Fr) (hp:Hp) (ρ:Nat ->Nat ->Value) (bl:List Nat) (b:Nat):Prop:=F.O ρ hp b/\¬∃f i o,memB f bl=true/\hget hp f i=some o/\Bu (ρ f i)=some b
theorem UQ {f c:Nat} (g:memB f i=true) (e:hget n f c=some o) (d:Bu (a f c)=some p):¬Ig F n a i p:=λh=>h.2 ⟨f,c,o,g,e,d⟩
variable {k:AV} {x:D}
theorem Sh.rep (X:Ba F n a w) (h:Sh n i k x):∀{v:Value},A9 w (F.O a n) a k v ->A1 w (Ig F n a i) x v:=by
 have L:∀{x:D} {v:Value},A1 w (F.O a n) x v ->A1 w (Ig F n a i) x v:=λh=>h.mono (Γ _) (λ_ _ _=>rfl) λb _ S=>S.1
 induction h with
 | d=>intro v B;cases B with | d B=>exact L B
 | @own f j l t m J ys O S hn M=>
  intro v B;obtain ⟨K,H,Z,h3⟩:=X.sim f j _ O
  cases B with
  | @own _ _ _ N I k r hn'=>
   rw [r] at H
   have hN:N=J.length:=by
    rcases H.2 with ⟨e,e0⟩ | ⟨g,c,A,e,_⟩
    .grind
    grind
   subst hN
   have Q:l<=I/\I<=maxLen/\(k=none ->I=0)/\(0<J.length ->∃b,k=some ⟨b,0,none⟩/\∃A,w.heap[b]? =some (.cells A t (0,0))/\A.toList.take (J.length*m)=K):=by
    rcases H.2 with ⟨e,e0⟩ | ⟨g,c,A,e,_,c1,c2,c3,c4,c5⟩
    .grind
    grind
   obtain ⟨p1,p2,p3,p4⟩:=Q;refine .sl m (λ_ h=>nomatch h) p3 (by rw [<-M,ϱ];omega) p1 p2 (λy V=>Z.2.1 y (by rw [<-M] at V;exact ωs V)) (λhne=>?_) (λb o C p y V=>?_)
   .grind [Nat.eq_zero_or_pos]
   .have E:J[p]? =some y:=by
     grind
    have hil:p<J.length:=(φ.1 E).1;obtain ⟨T,R,A,c1,c3⟩:=p4 (by omega);rw [R] at C;injection C with C;injection C with hb1 hb2;subst hb1 hb2
    subst R;have s:T<w.heap.size:=(ωn.1 c1).1
    have W:∀(q:Nat) c,y.cells[q]? =some c ->∃u,w.cell? ⟨T,0+p*m+q,none⟩=some u/\A1 w (Ig F n a i) c u:=λq c G=>by
     obtain ⟨u,d1,d2,d3⟩:=Z.2.2 p y E q c G
     grind [Do]
    refine .ptr (λq=>(w.cell? ⟨T,0+p*m+q,none⟩).getD undef) s (UQ S O (by rw [r];rfl)) (h3 y (ξ E)) (λq c G=>?_) (λq c G=>?_)
    .grind
    grind
 | @ptr f p z t cs x O S H g hg G U=>
  intro v B;obtain ⟨b,K,e1,e2,e3,e4,e5⟩:=X.sim f p _ O
  cases B with
  | @ptr _ _ _ T r=>
   rw [e1] at r;injection r with r;injection r with r;injection r with r;subst r
   have W:∀(j:Nat) c,x.cells[j]? =some c ->∃u,w.cell? ⟨b,z+j,none⟩=some u/\A1 w (Ig F n a i) c u:=λj c P=>by
    have Y:=hg j c P;have s:z+j<K.length:=by rw [e3];exact (φ.1 Y).1
    refine ⟨K[z+j],by rw [cell_of_row w b (z+j) K.toArray t (0,0) e2];simp [s],?_⟩;exact U j c P (e4 _ _ _ Y (ω s))
   have s:b<w.heap.size:=(ωn.1 e2).1;refine .ptr (λq=>(w.cell? ⟨b,z+q,none⟩).getD undef) s (UQ S O (by rw [e1];rfl)) H (λq c G=>?_) (λq c G=>?_)
   .grind
   grind
 | agg hl H G U=>
  intro v B
  cases B with
  | agg g1 g2 g3=>
   refine .agg (by omega) H λj c v P hv=>?_
   rename_i as cs vs
   have s:j<as.length:=by rw [hl];exact (φ.1 P).1
   exact U j _ c (ω s) P (g3 j _ v (ω s) hv)
def D.flat:D ->Bool
 | .raw _=>true
 | .agg cs=>cs.all λc=>match c with
  | .raw _=>true
  | _=>false
 | .sl _ xs=>match xs with
  | []=>true
  | _=>false
 | .tup cs=>cs.all λc=>match c with
  | .raw _=>true
  | .sl _ []=>true
  | _=>false
 | .ptr _=>false
 | .fn _ _ _=>false
theorem Rl {a:Value} (h:A1 w e (.raw a) d):A1 w f (.raw a) d:=by
 cases h with | raw h=>exact .raw h
theorem rep_nil {n:Option Bool} (h:A1 w e (.sl n []) d):A1 w f (.sl n []) d:=by
 cases h with
 | sl k g b a m j l p o=>exact .sl k g b a m j l (λh=>absurd Z h) (λ_ _ _ i x c=>by simp at c)
theorem A1.unflat (h:A1 w e x d) (b:x.flat=true):A1 w f x d:=by
 cases h with
 | raw h=>exact .raw h
 | agg m z y=>
  refine .agg m z λi c d g s=>?_;have j:=χm.1 b c (ξ g)
  grind [Rl]
 | tup m y=>
  refine .tup m λi c d g s=>?_;have j:=χm.1 b c (ξ g)
  grind [Rl,rep_nil]
 | sl k t q l g j u C B=>
  rename_i p o a n A
  cases o with
  | nil=>exact .sl k t q l g j u (λh=>absurd Z h) (λ_ _ _ i x r=>by simp at r)
  | cons _ _=>cases b
 | ptr _ _ _ _ _ _=>cases b
 | fn _ _ _ _=>cases b
def AV.flatS:AV ->Bool
 | .d x=>x.flat
 | .tup _=>false
 | .agg _=>false
 | .fn _ _=>false
 | _=>true
def AV.flat:AV ->Bool
 | .tup as=>as.all AV.flatS
 | .agg as=>as.all AV.flatS
 | a=>a.flatS
theorem A9.unflatS {w:World} {O f:Nat ->Prop} {b:Nat ->Nat ->Value} {a:AV} {v:Value} (h:A9 w O b a v) (c:a.flatS=true):A9 w f b a v:=by
 cases h with
 | d h=>exact .d (h.unflat c)
 | top=>exact .top
 | ptr h=>exact .ptr h
 | own h e=>exact .own h e
 | rptr h=>exact .rptr h
 | map h=>exact .map h
 | ifc h=>exact .ifc h
 | _=>cases c
theorem A9.unflat {w:World} {O l:Nat ->Prop} {g:Nat ->Nat ->Value} {a:AV} {v:Value} (h:A9 w O g a v) (c:a.flat=true):A9 w l g a v:=by
 cases h with
 | tup f h=>exact .tup f λi a v b e=>(h i a v b e).unflatS (χm.1 c a (ξ b))
 | agg f k h=>exact .agg f k λi a v b e=>(h i a v b e).unflatS (χm.1 c a (ξ b))
 | d h=>exact .d (h.unflat c)
 | top=>exact .top
 | ptr h=>exact .ptr h
 | own h j=>exact .own h j
 | rptr h=>exact .rptr h
 | map h=>exact .map h
 | ifc h=>exact .ifc h
 | fn _ _=>cases c
def AN.Flat:AN ->Prop
 | .blk _ cs=>∀c∈cs,c.flatS=true
 | .row _ _ _=>False
 | .rowD _ _ xs=>∀x∈xs,∀c∈x.cells,c.flat=true
 | .loop _=>False
 | .map _ _=>False
 | .iter _ _ _ _=>False
 | .addr _ _ _=>True
 | .any=>False
 | .nb _ _ _=>False
 | .nr _ _ _ _ _=>False
 | .nm _ _ _=>False
 | .itz=>False
 | .multi _=>False
def gH:List AN ->Prop
 | []=>True
 | o::r=>o.Flat/\gH r
def gI:Hp ->Prop
 | []=>True
 | (_,l)::r=>gH l/\gI r
theorem gI.at (h:gI H) {f i:Nat} (b:hget H f i=some o):o.Flat:=by
 induction H with
 | nil=>simp [hget,hfam] at b
 | cons p r d=>
  obtain ⟨k,l⟩:=p
  by_cases e:k=f
  .subst e;simp only [hget,hfam,ψw,χk] at b
   have c:∀(l:List AN),gH l ->o∈l ->o.Flat:=by
    intro l
    induction l with
    | nil=>intro _ h;cases h
    | cons a r d=>
     intro g h;rcases Υ.1 h with rfl | h
     .exact g.1
     .exact d g.2 h
   rcases gl_mem b with b | ⟨M,_,e,_,_⟩
   .exact c l h.1 b
   .subst e;exact h.1.1.elim
  .exact d h.2 (by simpa only [hget,hfam,IP e] using b)
theorem Av.unflat (h:Av w e a o d) (g:o.Flat):Av w f a o d:=by
 cases o with
 | blk t A=>
  obtain ⟨b,l,q,p,n,z,y⟩:=h;exact ⟨b,l,q,p,n,λj c u i m=>(z j c u i m).unflatS (g c (ξ i)),y⟩
 | row t k r=>exact g.elim
 | rowD t k r=>
  obtain ⟨l,q,p,n⟩:=h;exact ⟨l,q,p.mono λx s c i u m=>m.unflat (g x s c i),n⟩
 | loop L=>exact g.elim
 | map _ _=>exact g.elim
 | iter _ _ _ _=>exact g.elim
 | addr _ _ _=>exact h
 | any=>exact g.elim
 | nb _ _ _=>exact g.elim
 | nr _ _ _ _ _=>exact g.elim
 | nm _ _ _=>exact g.elim
 | itz=>exact g.elim
 | multi _=>exact g.elim
section
variable {P:Program} {F:Fr} {s:AS} {d:Nat} {ty:TypeId} {pos:String} {aft:Array Edge} {g:Option (Nat×Bool)} {at_:Array TypeId}
def R2 (s:AS) (bl:List Nat):List Operand ->List AV ->Prop
 | [],[]=>True
 | x::xs,a::as=>(s.ev x=some a\/∃a0 y,s.ev x=some a0/\Sh s.hp bl a0 y/\a= .d y)/\R2 s bl xs as
 | _,_=>False
theorem R2.rep {k:Nat ->Nat ->Value} {c:Act} {w:World} (f:SR F s k c w) {n:List Nat}:∀{e:List Operand} {j:List AV},R2 s n e j ->(e.map c.eval).length=j.length/\∀(i:Nat) a v,j[i]? =some a ->(e.map c.eval)[i]? =some v ->A9 w (Ig F s.hp k n) k a v
 | [],[],_=>by simp
 | x::e,a::j,h=>by
  obtain ⟨q,p⟩:=R2.rep f h.2;refine ⟨by simpa using q,λi u v m l=>?_⟩
  cases i with
  | zero=>
   simp at m l;subst m l
   rcases h.1 with h | ⟨z,y,t,r,rfl⟩
   .exact (f.ev h).mono (Γ _) (λ_ _ _=>rfl) (λb _ o=>o.1) λ_ _ _=>rfl
   .exact .d (r.rep f.heap (f.ev t))
  | succ i=>exact p i u v (by simpa using m) (by simpa using l)
 | [],_::_,h=>h.elim
 | _::_,[],h=>h.elim
theorem EN {f:FuncId} {E:List Operand} {args:List AV} {x:D} (B:List Nat) (G:AM P f args x) (p:R2 s B E args) (z:x.flat=true) (K:Nat.blt d s.n=true):
  AA P F ⟨some d,.call {callee:= .value (.func f),args:=E.toArray,argTypes:=at_},ty,pos,aft,g⟩ s d (.d x):=by
 refine ⟨K,Z,λj V w q=>?_⟩;obtain ⟨Y,R,Q,O⟩:=G.1;obtain ⟨N,M⟩:=p.rep q;unfold Oper.wp;rw [DJ R Q O,Oper.upon_enter];have l:∀j b,¬BK j [] b:=λj b ⟨_,_,_,h,_⟩=>nomatch h
 let C:Fr:=Fr.mk none (.marks w.heap.size) w (Ig F s.hp j B) (BK j []) (Cp j []) (λb n=>⟨by
  rcases n.1 with n | n
  .exact ψf (F.hOf b n).1 q.heap.size0
  .exact (q.heap.mine b n).1,l j b⟩) [] (λ_ _ _ h=>D9 h)
 have A:C.O j []=Ig F s.hp j B:=funext λb=>propext ⟨λh=>h.elim id λh=>(l j b h).elim,.inl⟩
 have m:Ba C [] j w:=⟨(λf i o u=>nomatch u),(λf i f' X o W b u=>nomatch u),λb n=>(l j b n).elim,Z,Z,Z,Γ _,λ_ _ _=>rfl,λf i b n=>ZcC n,Γ _⟩
 refine (G.2 C j _ Z Z ⟨Z,Z,Z⟩ m N (λi a v L J=>by rw [A];exact M i a v L J)).mono λe I ⟨v,r,H',H,U,⟨T,S⟩,k,c⟩=>?_;subst U T S;have t:∀b,b<w.heap.size ->I.heap[b]? =w.heap[b]?:=λb y=>c.keep b y (l j b);refine ⟨v,Z,?_,q.heap.stay ⟨c.os,c.tape,c.output,ωa q.heap.drawn c.drawn⟩ c.size0 t,c.size0,t⟩
 cases k with
 | d k=>exact .d (k.unflat z)
end
theorem A3 {a b:Type} {f:a ->b} {l:List a} {k:Nat} (h:k<l.length):(l.map f)[k]? =some (f l[k]):=by simp [h]
theorem BR {a b:Nat} (h:(a:Int)<(b:Int)):a<b:=by omega
abbrev Aq (l:List UInt8):D:= .raw (.string ⟨l.toArray⟩)
section
variable {P:Program} {F:Fr} {s:AS} {d:Nat} {ty T T' E:TypeId} {pos:String} {aft:Array Edge} {g:Option (Nat×Bool)} {x y:Operand}
end
end Go.Proofs.YteifpcnphnhaoaaGreat
