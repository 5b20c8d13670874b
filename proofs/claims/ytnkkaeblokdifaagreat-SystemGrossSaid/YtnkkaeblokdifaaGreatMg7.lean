/- Struct literals. No program in sight. -/
import Derived.Test.YtnkkaeblokdifaaGreatMg6
import Derived.Laws.Tables
import Derived.Great.FillDense
namespace Go.Proofs.YtnkkaeblokdifaaGreat
open Go.RowKit
def BG (P:Program) (T:TypeId):Option (List (Nat×Nat)):=match P.underlying T with
 | some (.struct fs)=>fs.toList.mapM fun f=>(P.info? f.type).map fun i=>(f.offset,i.size)
 | _=>none
def R5 (s:AS) (pl:List (Nat×Nat)):List AV ->List (Nat×Operand) ->Option (List AV)
 | cs,[]=>some cs
 | cs,(i,x)::r=>match pl[i]? with
  | none=>none
  | some (off,k)=>match s.ev x with
   | none=>none
   | some a=>match a.cells? with
    | none=>none
    | some l=>match Nat.beq l.length k with
     | false=>none
     | true=>match D2 cs off l with
      | none=>none
      | some cs1=>R5 s pl cs1 r
theorem NB {F:Fr} {s:AS} {ρ:Nat ->Nat ->Value} {act:Act} {w:World} (hs:SR F s ρ act w) {pl:List (Nat×Nat)}:∀(parts:List (Nat×Operand)) (cs cs':List AV) (us:Array Value),R5 s pl cs parts=some cs' ->us.size=cs.length→
  (∀(j:Nat) c u,cs[j]?=some c ->us[j]?=some u ->A3 w (F.O ρ s.hp) ρ c u∧u.oneCell'=true)→
  ∃us',Instr.fill (pl.toArray[·]?) us (parts.map fun p=>(p.1,act.eval p.2))=some us'∧us'.size=cs'.length∧∀(j:Nat) c u,cs'[j]?=some c ->us'[j]?=some u ->A3 w (F.O ρ s.hp) ρ c u∧u.oneCell'=true
 | [],cs,cs',us,h,hl,hr=>by
  simp only [R5,Option.some.injEq] at h;subst h;exact ⟨us,rfl,hl,hr⟩
 | (i,x)::r,cs,cs',us,h,hl,hr=>by
  simp only [R5] at h
  split at h
  ·cases h
  ·rename_i off k hpl
   split at h
   ·cases h
   ·rename_i a ha
    split at h
    ·cases h
    ·rename_i l hlc
     split at h
     ·cases h
     ·rename_i hk
      have hk:=Nat.eq_of_beq_eq_true hk
      split at h
      ·cases h
      ·rename_i cs1 hset
       obtain ⟨q1,q2⟩:=(hs.ev ha).cells hlc;obtain ⟨s1,s2,s3⟩:=DC _ _ _ _ hset;obtain ⟨g1,g2⟩:=Great.foldl_set off (act.eval x).cells.toList 0 us;have hsz:(act.eval x).cells.size=k:=by rw [←hk,←q1];simp
       obtain ⟨us',r1,r2,r3⟩:=NB hs r cs1 cs' ((act.eval x).cells.toList.zipIdx.foldl (fun cs (x:Value×Nat)=>cs.setIfInBounds (off+x.2) x.1) us) h (by rw [g1,s2];exact hl) (fun j c u hc hu=>by
        rw [g2 j] at hu;rw [s3] at hc;simp only [Nat.add_zero,Array.length_toList,hsz] at hu
        by_cases hj:off≤j∧j<off+l.length
        ·rw [if_pos hj] at hc;rw [if_pos ⟨hj.1,by omega,by omega⟩] at hu;exact q2 _ c u hc hu
        ·rw [if_neg hj] at hc;rw [if_neg (by omega)] at hu
         exact hr j c u hc hu)
       refine ⟨us',?_,r2,r3⟩;rw [List.map_cons];unfold Instr.fill;have:(pl.toArray)[i]?=some (off,k):=by simpa using hpl
       simp only [this,hsz];rw [if_neg (by simp;omega)];rw [←r1]
       congr 1
       rw [←Array.foldl_toList,Array.toList_zipIdx]
section
variable {P:Program} {F:Fr} {s:AS} {d:Nat} {ty T:TypeId} {pos:String} {aft:Array Edge} {g:Option (Nat×Bool)}
theorem DH {l:List (Nat×Operand)} {zs cs':List AV} {pl:List (Nat×Nat)} {A:AV} (hz:BU P T=some zs) (hpl:BG P T=some pl) (hf:R5 s pl zs l=some cs') (hm:Iw cs'=some A) (hd:Nat.blt d s.n=true):
  AA P F ⟨some d,.build T l.toArray,ty,pos,aft,g⟩ s d A:=C1 _ hd fun ρ act w hs=>by
 obtain ⟨i,z,h1,h2,h3⟩:=LF hz;obtain ⟨h4,h5⟩:=E1 h3 w (F.O ρ s.hp) ρ;obtain ⟨us',r1,r2,r3⟩:=NB hs l zs cs' z.cells hf (by simpa using h4) (fun j c u hc hu=>h5 j c u hc (by simpa using hu))
 have hb:P.built T (l.map fun p=>(p.1,act.eval p.2))=some us':=by
  unfold BG at hpl
  split at hpl
  ·rename_i fs hfs
   unfold Program.built;simp only [h1,hfs,h2,hpl];exact r1
  ·cases hpl
 refine ⟨.agg us',?_,?_⟩
 ·have:(l.toArray.map fun (x:Nat×Operand)=>match x with | (i,x)=>(i,act.eval x))=(l.map fun p=>(p.1,act.eval p.2)).toArray:=by simp
  simp only [execOp,Sem.run_bind];rw [this,run_build w T _ us' (by simpa using hb)]
  rfl
 ·have:=F1 (us:=us'.toList) hm (by simpa using r2) (fun j c u hc hu=>r3 j c u hc (by simpa using hu))
  simpa using this
end
mutual
def AV.ren (σ:Nat ->Nat):AV ->AV
 | .d x=> .d x
 | .top=> .top
 | .tup as=> .tup (Ip σ as)
 | .agg as=> .agg (Ip σ as)
 | .ptr f i off=> .ptr (σ f) i off
 | .own f i n=> .own (σ f) i n
 | .rptr f i k e off=> .rptr (σ f) i k e off
 | .map f i=> .map (σ f) i
 | .ifc T nm f i=> .ifc T nm (σ f) i
 | .fn g caps=> .fn g (Ip σ caps)
def Ip (σ:Nat ->Nat):List AV ->List AV
 | []=> []
 | a::r=>a.ren σ::Ip σ r
end
theorem EI (σ:Nat ->Nat) (l:List AV):Ip σ l=l.map (AV.ren σ):=by
 induction l with
 | nil=>rfl
 | cons a r ih=>rw [Ip,ih];rfl
def Sg (σ:Nat ->Nat):List (Nat×AV) ->List (Nat×AV)
 | []=> []
 | (t,a)::r=>(t,a.ren σ)::Sg σ r
theorem XD {σ:Nat ->Nat} {env:List (Nat×AV)} {t:Nat} {a:AV} (h:get (Sg σ env) t=some a):∃a0,get env t=some a0∧a=a0.ren σ:=by
 induction env with
 | nil=>cases h
 | cons q r ih=>
  obtain ⟨k,x⟩:=q;rcases KX h with ⟨rfl,rfl⟩ | ⟨hne,h⟩
  ·exact ⟨x,by simp [get],rfl⟩
  ·obtain ⟨a0,h1,h2⟩:=ih h;exact ⟨a0,by simp only [get,ER hne];exact h1,h2⟩
def AQ.ren (σ:Nat ->Nat):AQ ->AQ
 | .blk t cs=> .blk t (Ip σ cs)
 | .row t k xs=> .row t k (Ip σ xs)
 | .rowD t k xs=> .rowD t k xs
 | .loop L=> .loop {L with env:=Sg σ L.env}
 | .map bs es=> .map bs es
 | .iter f i c seen=> .iter (σ f) i c seen
 | .addr f i v=> .addr (σ f) i v
 | .any=> .any
 | .nb b t cs=> .nb b t cs
 | .nr b t k cap xs=> .nr b t k cap xs
 | .multi M=> .multi M
def MW (σ:Nat ->Nat):List AQ ->List AQ
 | []=> []
 | a::r=>a.ren σ::MW σ r
def Eu (σ:Nat ->Nat):Hp ->Hp
 | []=> []
 | (f,l)::r=>(σ f,MW σ l)::Eu σ r
theorem A3.ren {σ:Nat ->Nat} {w:World} {O:Nat ->Prop} {ρ ρ0:Nat ->Nat ->Value} (hρ:∀f i,ρ0 f i=ρ (σ f) i) {a:AV} {v:Value} (h:A3 w O ρ0 a v):A3 w O ρ (a.ren σ) v:=by
 induction h with
 | d h=>exact .d h
 | top=>exact .top
 | tup hl _ ih=>
  rw [AV.ren,EI];refine .tup (by simpa using hl) fun i a v ha hv=>?_;rw [List.getElem?_map] at ha
  rename_i as vs _
  cases hh:as[i]? with
  | none=>rw [hh] at ha;cases ha
  | some b=>rw [hh] at ha;injection ha with ha;subst ha;exact ih i b v hh hv
 | agg hl h1 _ ih=>
  rw [AV.ren,EI];refine .agg (by simpa using hl) h1 fun i a v ha hv=>?_;rw [List.getElem?_map] at ha
  rename_i as vs _
  cases hh:as[i]? with
  | none=>rw [hh] at ha;cases ha
  | some b=>rw [hh] at ha;injection ha with ha;subst ha;exact ih i b v hh hv
 | ptr h=>exact .ptr (by rw [←hρ];exact h)
 | own h hn=>exact .own (by rw [←hρ];exact h) hn
 | rptr h=>exact .rptr (by rw [←hρ];exact h)
 | map h=>exact .map (by rw [←hρ];exact h)
 | ifc h=>exact .ifc (by rw [←hρ];exact h)
 | fn hl _ ih=>
  rw [AV.ren,EI];refine .fn (by simpa using hl) fun i a v ha hv=>?_;rw [List.getElem?_map] at ha
  rename_i g caps vs _
  cases hh:caps[i]? with
  | none=>rw [hh] at ha;cases ha
  | some b=>rw [hh] at ha;injection ha with ha;subst ha;exact ih i b v hh hv
mutual
theorem AV.ren_ren {σ:Nat ->Nat} (hσ:∀f,σ (σ f)=f):∀a:AV,(a.ren σ).ren σ=a
 | .d _=>rfl
 | .top=>rfl
 | .tup as=>by rw [AV.ren,AV.ren,Eh hσ as]
 | .agg as=>by rw [AV.ren,AV.ren,Eh hσ as]
 | .ptr f i off=>by rw [AV.ren,AV.ren,hσ]
 | .own f i n=>by rw [AV.ren,AV.ren,hσ]
 | .rptr f i k e off=>by rw [AV.ren,AV.ren,hσ]
 | .map f i=>by rw [AV.ren,AV.ren,hσ]
 | .ifc T nm f i=>by rw [AV.ren,AV.ren,hσ]
 | .fn g caps=>by rw [AV.ren,AV.ren,Eh hσ caps]
theorem Eh {σ:Nat ->Nat} (hσ:∀f,σ (σ f)=f):∀l:List AV,Ip σ (Ip σ l)=l
 | []=>rfl
 | a::r=>by rw [Ip,Ip,AV.ren_ren hσ a,Eh hσ r]
end
theorem VP {σ:Nat ->Nat} (hσ:∀f,σ (σ f)=f) (l:List (Nat×AV)):Sg σ (Sg σ l)=l:=by
 induction l with
 | nil=>rfl
 | cons a r ih=>obtain ⟨t,a⟩:=a;rw [Sg,Sg,AV.ren_ren hσ,ih]
theorem AQ.ren_ren {σ:Nat ->Nat} (hσ:∀f,σ (σ f)=f) (o:AQ):(o.ren σ).ren σ=o:=by
 cases o with
 | blk t cs=>rw [AQ.ren,AQ.ren,Eh hσ]
 | row t k xs=>rw [AQ.ren,AQ.ren,Eh hσ]
 | rowD t k xs=>rfl
 | loop L=>simp only [AQ.ren,VP hσ]
 | map bs es=>rfl
 | iter f i c seen=>simp only [AQ.ren,hσ]
 | addr f i v=>simp only [AQ.ren,hσ]
 | any=>rfl
 | nb _ _ _=>rfl
 | nr _ _ _ _ _=>rfl
 | multi _=>rfl
theorem VO {σ:Nat ->Nat} (hσ:∀f,σ (σ f)=f) (l:List AQ):MW σ (MW σ l)=l:=by
 induction l with
 | nil=>rfl
 | cons a r ih=>rw [MW,MW,AQ.ren_ren hσ,ih]
theorem IC {σ:Nat ->Nat} (hσ:∀f,σ (σ f)=f) (l:Hp):Eu σ (Eu σ l)=l:=by
 induction l with
 | nil=>rfl
 | cons a r ih=>obtain ⟨f,x⟩:=a;rw [Eu,Eu,hσ,VO hσ,ih]
theorem XB (σ:Nat ->Nat) (l:List AQ) (i:Nat):(MW σ l)[i]?=(l[i]?).map (AQ.ren σ):=by
 induction l generalizing i with
 | nil=>rfl
 | cons a r ih=>
  cases i with
  | zero=>rfl
  | succ i=>simpa [MW] using ih i
theorem XA (σ:Nat ->Nat) (l:List AQ):isM (MW σ l)=isM l:=by
 match l with
 | []=>rfl
 | [a]=>cases a<;>rfl
 | _::_::_=>rfl
theorem renO_gl (σ:Nat ->Nat) (l:List AQ) (i:Nat):gl (MW σ l) i=(gl l i).map (AQ.ren σ):=by
 unfold gl;rw [XA]
 cases isM l with
 | none=>exact XB σ l i
 | some M=>
  show (M i).map (BW.at_ i)=((M i).map (BW.at_ i)).map (AQ.ren σ)
  cases M i with
  | none=>rfl
  | some m=>cases m<;>rfl
theorem XC {σ:Nat ->Nat} (hσ:∀f,σ (σ f)=f) (hp:Hp) (f:Nat):hfam (Eu σ hp) (σ f)=(hfam hp f).map (MW σ):=by
 induction hp with
 | nil=>rfl
 | cons p r ih=>
  obtain ⟨k,l⟩:=p;simp only [Eu,hfam]
  by_cases e:k=f
  ·subst e;simp
  ·have e':σ k≠σ f:=fun h=>e (by rw [←hσ k,h,hσ]);rw [ER e,ER e'];exact ih
theorem Jm {σ:Nat ->Nat} (hσ:∀f,σ (σ f)=f) (hp:Hp) (f i:Nat):hget (Eu σ hp) (σ f) i=(hget hp f i).map (AQ.ren σ):=by
 simp only [hget,XC hσ]
 cases hfam hp f with
 | none=>rfl
 | some l=>exact renO_gl σ l i
theorem BD.ren {σ:Nat ->Nat} {w:World} {O:Nat ->Prop} {ρ ρ0:Nat ->Nat ->Value} (hρ:∀f i,ρ0 f i=ρ (σ f) i) {o:AQ} {v:Value} (h:BD w O ρ0 o v):BD w O ρ (o.ren σ) v:=by
 cases o with
 | blk t cs=>
  obtain ⟨b,us,h1,h2,h3,h4,h5⟩:=h;rw [AQ.ren,EI];refine ⟨b,us,h1,h2,by simpa using h3,fun j c u hc hu=>?_,h5⟩;rw [List.getElem?_map] at hc
  cases hh:cs[j]? with
  | none=>rw [hh] at hc;cases hc
  | some b=>rw [hh] at hc;injection hc with hc;subst hc;exact (h4 j b u hh hu).ren hρ
 | row t k xs=>
  obtain ⟨us,h1,h2,h3,h4⟩:=h;rw [AQ.ren,EI]
  have hcells:∀a:AV,(a.ren σ).cells=a.cells.map (AV.ren σ):=fun a=>by
   cases a with
   | agg as=>rw [AV.ren,EI];rfl
   | d x=>
    cases x with
    | agg cs=>
     show List.map AV.d cs=(List.map AV.d cs).map (AV.ren σ);rw [List.map_map];exact List.map_congr_left fun c _=>rfl
    | _=>rfl
   | _=>rfl
  refine ⟨us,by simpa using h1,by simpa using h2,fun x hx=>?_,fun i x hx j c hc=>?_⟩
  ·obtain ⟨y,hy,rfl⟩:=List.mem_map.1 hx;rw [hcells,List.length_map];exact h3 y hy
  ·rw [List.getElem?_map] at hx
   cases hh:xs[i]? with
   | none=>rw [hh] at hx;cases hx
   | some y=>
    rw [hh] at hx;injection hx with hx;subst hx
    rw [hcells,List.getElem?_map] at hc
    cases hh2:y.cells[j]? with
    | none=>rw [hh2] at hc;cases hc
    | some c'=>
     rw [hh2] at hc;injection hc with hc;subst hc
     obtain ⟨u,a1,a2,a3⟩:=h4 i y hh j c' hh2;exact ⟨u,a1,a2,a3.ren hρ⟩
 | rowD t k xs=>exact h
 | loop L=>
  obtain ⟨r,h1,h2,h3,h4,h5⟩:=h;refine ⟨r,h1,h2,h3,h4,fun t a ha=>?_⟩;obtain ⟨a0,h6,rfl⟩:=XD ha;exact (h5 t a0 h6).ren hρ
 | map bs es=>
  exact h
 | iter f i c seen=>
  obtain ⟨r,m,sn,h1,h2,h3⟩:=h;exact ⟨r,m,sn,h1,by rw [←hρ];exact h2,h3⟩
 | addr f i u=>exact ⟨h.1,by rw [←hρ];exact h.2⟩
 | any=>trivial
 | nb _ _ _=>exact h
 | nr _ _ _ _ _=>exact h
 | multi _=>trivial
theorem Ar.ren {σ:Nat ->Nat} (hσ:∀f,σ (σ f)=f) {ρ ρ0:Nat ->Nat ->Value} (hρ:∀f i,ρ0 f i=ρ (σ f) i) {H:Hp} {b:Nat} (h:Ar ρ0 H b):Ar ρ (Eu σ H) b:=by
 obtain ⟨f,i,o,h1,h2⟩:=h;exact ⟨σ f,i,o.ren σ,by rw [Jm hσ,h1];rfl,by rw [←hρ];exact h2⟩
theorem Ar.ren_iff {σ:Nat ->Nat} (hσ:∀f,σ (σ f)=f) {ρ ρ0:Nat ->Nat ->Value} (hρ:∀f i,ρ0 f i=ρ (σ f) i) {H:Hp}:Ar ρ (Eu σ H)=Ar ρ0 H:=funext fun b=>propext
 ⟨fun h=>by
  have:=Ar.ren (ρ:=ρ0) (ρ0:=ρ) hσ (fun f i=>by rw [hρ,hσ]) h
  rwa [IC hσ] at this,fun h=>h.ren hσ hρ⟩
theorem B8.ren {σ:Nat ->Nat} (hσ:∀f,σ (σ f)=f) {F F':Fr} {ρ ρ0:Nat ->Nat ->Value} (hρ:∀f i,ρ0 f i=ρ (σ f) i) {H:Hp} {w:World} (h0:F'.w0=F.w0) (h1:F'.Of=F.Of) (h2:F'.own0=F.own0) (h3:∀f i,F'.pin f i=F.pin (σ f) i) (h:B8 F H ρ0 w):B8 F' (Eu σ H) ρ w:=by
 have hO:F'.O ρ (Eu σ H)=F.O ρ0 H:=by unfold Fr.O;rw [h1,Ar.ren_iff hσ hρ]
 have back:∀f i o,hget (Eu σ H) f i=some o ->∃o0,hget H (σ f) i=some o0∧o=o0.ren σ:=fun f i o ho=>by
  have:=Jm hσ H (σ f) i;rw [hσ,ho] at this
  cases hh:hget H (σ f) i with
  | none=>rw [hh] at this;cases this
  | some o0=>rw [hh] at this;injection this with this;exact ⟨o0,rfl,this⟩
 have hρ':∀f i,ρ f i=ρ0 (σ f) i:=fun f i=>by rw [hρ,hσ]
 refine ⟨fun f i o ho=>?_,fun f i f' i' o o' b ho ho' hb hb'=>?_,fun b hb=>?_,h0▸h.os,h0▸h.tape,h0▸h.output,h0▸h.size0,fun b hlt hn=>?_,fun f i b hp=>?_,h0▸h.drawn⟩
 ·obtain ⟨o0,h4,rfl⟩:=back f i o ho;rw [hO,hρ'];exact (h.sim _ _ _ h4).ren hρ
 ·obtain ⟨o0,h4,rfl⟩:=back f i o ho;obtain ⟨o1,h5,rfl⟩:=back f' i' o' ho';rw [hρ'] at hb hb';obtain ⟨e1,e2⟩:=h.inj _ _ _ _ _ _ b h4 h5 hb hb';exact ⟨by rw [←hσ f,e1,hσ],e2⟩
 ·rw [Ar.ren_iff hσ hρ] at hb;rw [h0,h2];exact h.mine b hb
 ·rw [h0] at hlt⊢;rw [h2] at hn;exact h.keep b hlt hn
 ·rw [h3] at hp;obtain ⟨a1,t,cs,a2⟩:=h.pins _ _ _ hp;refine ⟨by rw [hρ'];exact a1,t,Ip σ cs,?_⟩;have:=Jm hσ H (σ f) i;rw [hσ,a2] at this;exact this
theorem OU {σ:Nat ->Nat} (hσ:∀f,σ (σ f)=f) {ρ ρ0:Nat ->Nat ->Value} (hρ:∀f i,ρ0 f i=ρ (σ f) i) {H:Hp} (f i:Nat):Cn ρ0 H f i=Cn ρ (Eu σ H) (σ f) i:=by
 unfold Cn;rw [Jm hσ,hρ]
 cases hget H f i with
 | none=>rfl
 | some o=>
  cases o with
  | blk t cs=>simp only [Option.map_some,AQ.ren];split<;>simp_all
  | row t k xs=>rfl
  | rowD t k xs=>rfl
  | loop L=>rfl
  | map _ _=>rfl
  | iter _ _ _ _=>rfl
  | addr _ _ _=>rfl
  | any=>rfl
  | nb _ _ _=>rfl
  | nr _ _ _ _ _=>rfl
  | multi _=>rfl
theorem A2.ren {P:Program} {f:FuncId} {args:List AV} {H:Hp} {R:AV ->Hp ->Prop} {σ:Nat ->Nat} (hσ:∀f,σ (σ f)=f) (h:A2 P f args H R):A2 P f (Ip σ args) (Eu σ H) fun r H'=>R (r.ren σ) (Eu σ H'):=by
 refine ⟨h.1,fun F ρ vs h1 h2 h2' h3 h4 h5=>?_⟩
 let ρ0:Nat ->Nat ->Value:=fun f i=>ρ (σ f) i
 have hρ:∀f i,ρ0 f i=ρ (σ f) i:=fun _ _=>rfl;have hρ':∀f i,ρ f i=ρ0 (σ f) i:=fun f i=>by rw [hρ,hσ]
 let F0:Fr:=Fr.mk F.rnd F.lo F.w0 F.Of F.own0 (Cn ρ0 H) F.hOf (hpN H) (fun _ _ _ h=>Da h)
 have hheap:B8 F0 H ρ0 F.w0:=by
  have:=B8.ren (σ:=σ) (F:=F) (F':=F0) (ρ:=ρ0) (ρ0:=ρ) hσ hρ' Z Z Z (fun f i=>by
   show Cn ρ0 H f i=F.pin (σ f) i
   rw [h2];exact OU hσ hρ f i) h3
  rwa [IC hσ] at this
 have hO:F0.O ρ0 H=F.O ρ (Eu σ H):=by unfold Fr.O;rw [Ar.ren_iff hσ hρ]
 refine (h.2 F0 ρ0 vs (by show F.own0=_;rw [h1];exact Ar.ren_iff hσ hρ) rfl ⟨rfl,h2'.2⟩ hheap (by rw [h4,EI,List.length_map]) (fun i a v ha hv=>?_)).mono fun e w' ⟨v,r,H',ρ',e1,hR,hrep,hh'⟩=>?_
 ·have:=h5 i (a.ren σ) v (by rw [EI,List.getElem?_map,ha];rfl) hv;have:=this.ren (ρ:=ρ0) (σ:=σ) hρ';rw [AV.ren_ren hσ] at this;show A3 F.w0 (F0.O ρ0 H) ρ0 a v;rw [hO];exact this
 ·let ρ1:Nat ->Nat ->Value:=fun f i=>ρ' (σ f) i
  have hr1:∀f i,ρ' f i=ρ1 (σ f) i:=fun f i=>by show _=ρ' (σ (σ f)) i;rw [hσ]
  have hO1:F.O ρ1 (Eu σ H')=F0.O ρ' H':=by unfold Fr.O;rw [Ar.ren_iff hσ hr1]
  refine ⟨v,r.ren σ,Eu σ H',ρ1,e1,by show R ((r.ren σ).ren σ) (Eu σ (Eu σ H'));rw [AV.ren_ren hσ,IC hσ];exact hR,by rw [hO1];exact hrep.ren hr1,?_⟩
  exact B8.ren hσ (F:=F0) (F':=F) hr1 Z Z Z (fun f i=>by
   show F.pin f i=Cn ρ0 H (σ f) i
   rw [h2,OU hσ hρ,hσ]) hh'
def CM:List (Nat×Nat) ->Nat ->Nat
 | [],x=>x
 | (a,b)::r,x=>match Nat.beq a x with
  | true=>b
  | false=>match Nat.beq b x with
   | true=>a
   | false=>CM r x
def Pv:List (Nat×Nat) ->Bool
 | []=>true
 | (a,b)::r=>!memB a (r.map (·.1)) &&(!memB a (r.map (·.2)) &&(!memB b (r.map (·.1)) &&(!memB b (r.map (·.2)) && Pv r)))
theorem OB {l:List (Nat×Nat)} {x:Nat} (h:CM l x≠x):(x∈l.map (·.1)∨x∈l.map (·.2))∧(CM l x∈l.map (·.1)∨CM l x∈l.map (·.2)):=by
 induction l with
 | nil=>exact absurd rfl h
 | cons p r ih=>
  obtain ⟨a,b⟩:=p
  by_cases e1:a=x
  ·subst e1;simp [CM]
  ·by_cases e2:b=x
   ·subst e2;simp [CM,ER e1]
   ·have e3:CM ((a,b)::r) x=CM r x:=by simp [CM,ER e1,ER e2]
    rw [e3] at h⊢;obtain ⟨h1,h2⟩:=ih h;simp only [List.map_cons,List.mem_cons];exact ⟨h1.imp .inr .inr,h2.imp .inr .inr⟩
theorem HL {l:List (Nat×Nat)} (h:Pv l=true) (x:Nat):CM l (CM l x)=x:=by
 induction l with
 | nil=>rfl
 | cons p r ih=>
  obtain ⟨a,b⟩:=p;simp only [Pv,Bool.and_eq_true,Bool.not_eq_true'] at h;obtain ⟨h1,h2,h3,h4,h5⟩:=h;have hn:∀{y:Nat} {l:List Nat},memB y l=false ->y∉l:=fun hm hy=>by rw [Ek.2 hy] at hm;cases hm
  have ih':=ih h5
  by_cases e1:a=x
  ·subst e1
   by_cases e2:a=b
   ·subst e2;simp [CM]
   ·simp [CM,ER e2]
  ·by_cases e2:b=x
   ·subst e2;simp [CM,ER e1]
   ·have e3:CM ((a,b)::r) x=CM r x:=by simp [CM,ER e1,ER e2]
    rw [e3]
    have ha:a≠CM r x:=fun e=>by
     by_cases hx:CM r x=x
     ·exact e1 (e.trans hx)
     ·have:=(OB hx).2;rw [←e] at this;exact this.elim (hn h1) (hn h2)
    have hb:b≠CM r x:=fun e=>by
     by_cases hx:CM r x=x
     ·exact e2 (e.trans hx)
     ·have:=(OB hx).2;rw [←e] at this;exact this.elim (hn h3) (hn h4)
    simp only [CM,ER ha,ER hb];exact ih'
theorem A2.by (l:List (Nat×Nat)) {P:Program} {f:FuncId} {args:List AV} {H H0:Hp} {r0:AV} (h:A2 P f args H fun r H'=>r=r0∧H'=H0) (hl:Pv l=true):
  A2 P f (Ip (CM l) args) (Eu (CM l) H) fun r H'=>r=r0.ren (CM l)∧H'=Eu (CM l) H0:=
 (h.ren (HL hl)).mono fun r H' ⟨h1,h2⟩=>⟨by rw [←h1,AV.ren_ren (HL hl)],by rw [←h2,IC (HL hl)]⟩
inductive Nw (hp:Hp) (bl:List Nat):AV ->D ->Prop
 | d {x:D}:Nw hp bl (.d x) x
 | own {f j n:Nat} {t:TypeId} {k:Nat} {xs ys:List D} (ho:hget hp f j=some (.rowD t k xs)) (hb:memB f bl=true) (hn:n≤xs.length) (hys:xs.take n=ys):Nw hp bl (.own f j n) (.sl none ys)
 | ptr {f i off:Nat} {t:TypeId} {cs:List AV} {x:D} (ho:hget hp f i=some (.blk t cs)) (hb:memB f bl=true) (h1:∀c∈x.cells,c.one=true) (g:Nat ->AV) (hg:∀(j:Nat) c,x.cells[j]?=some c ->cs[off+j]?=some (g j)) (hc:∀(j:Nat) c,x.cells[j]?=some c ->Nw hp bl (g j) c):Nw hp bl (.ptr f i off) (.ptr x)
 | agg {as:List AV} {cs:List D} (hl:as.length=cs.length) (h1:∀c∈cs,c.one=true) (hc:∀(j:Nat) a c,as[j]?=some a ->cs[j]?=some c ->Nw hp bl a c):Nw hp bl (.agg as) (.agg cs)
def LV (F:Fr) (hp:Hp) (ρ:Nat ->Nat ->Value) (bl:List Nat) (b:Nat):Prop:=F.O ρ hp b∧¬∃f i o,memB f bl=true∧hget hp f i=some o∧CO (ρ f i)=some b
theorem RP {F:Fr} {hp:Hp} {ρ:Nat ->Nat ->Value} {bl:List Nat} {f i b:Nat} {o:AQ} (hb:memB f bl=true) (ho:hget hp f i=some o) (hv:CO (ρ f i)=some b):¬LV F hp ρ bl b:=fun h=>h.2 ⟨f,i,o,hb,ho,hv⟩
theorem Nw.rep {F:Fr} {hp:Hp} {ρ:Nat ->Nat ->Value} {w:World} {bl:List Nat} (hs:B8 F hp ρ w) {a:AV} {x:D} (h:Nw hp bl a x):∀{v:Value},A3 w (F.O ρ hp) ρ a v ->A1 w (LV F hp ρ bl) x v:=by
 have mono:∀{x:D} {v:Value},A1 w (F.O ρ hp) x v ->A1 w (LV F hp ρ bl) x v:=fun h=>h.mono (Nat.le_refl _) (fun _ _ _=>rfl) fun b _ hb=>hb.1
 induction h with
 | d=>intro v hr;cases hr with | d hr=>exact mono hr
 | @own f j n t k xs ys ho hb hn hys=>
  intro v hr;obtain ⟨us,h1,h2,h3⟩:=hs.sim f j _ ho
  cases hr with
  | @own _ _ _ N cap a hρ hn'=>
   rw [hρ] at h1
   have hN:N=xs.length:=by
    rcases h1.2 with ⟨e,e0⟩ | ⟨g,c,cur,e,_⟩
    ·injection e with _ e1 _;omega
    ·injection e with _ e1 _
   subst hN
   have hcap:n≤cap∧cap≤maxLen∧(a=none ->cap=0)∧(0<xs.length ->∃b,a=some ⟨b,0,none⟩∧∃cur,w.heap[b]?=some (.cells cur t (0,0))∧cur.toList.take (xs.length*k)=us):=by
    rcases h1.2 with ⟨e,e0⟩ | ⟨g,c,cur,e,_,c1,c2,c3,c4,c5⟩
    ·injection e with e1 e2 e3;subst e1 e3;exact ⟨by omega,Nat.zero_le _,fun _=>rfl,fun h=>by omega⟩
    ·injection e with e1 e2 e3;subst e1 e3;exact ⟨by omega,c3,(fun e=>by cases e),fun _=>⟨g,rfl,cur,c1,c5⟩⟩
   obtain ⟨p1,p2,p3,p4⟩:=hcap;refine .sl k (fun _ h=>by cases h) p3 (by rw [←hys,List.length_take];omega) p1 p2 (fun y hy=>h2.2.1 y (by rw [←hys] at hy;exact List.mem_of_mem_take hy)) (fun hne=>?_) (fun b o hbb i y hy=>?_)
   ·have:0<xs.length:=by
     rcases Nat.eq_zero_or_pos xs.length with h0 | h0
     ·exfalso;apply hne;rw [←hys,List.eq_nil_of_length_eq_zero h0];simp
     ·exact h0
    obtain ⟨b,hb,_⟩:=p4 this;exact ⟨b,0,hb⟩
   ·have hy':xs[i]?=some y:=by
     rw [←hys,List.getElem?_take] at hy
     split at hy
     ·exact hy
     ·cases hy
    have hil:i<xs.length:=(List.getElem?_eq_some_iff.1 hy').1;obtain ⟨b',hb',cur,c1,c3⟩:=p4 (by omega);rw [hb'] at hbb;injection hbb with hbb;injection hbb with hb1 hb2;subst hb1 hb2
    subst hb';have hlt:b'<w.heap.size:=(Array.getElem?_eq_some_iff.1 c1).1
    have hex:∀(q:Nat) c,y.cells[q]?=some c ->∃u,w.cell? ⟨b',0+i*k+q,none⟩=some u∧A1 w (LV F hp ρ bl) c u:=fun q c hc=>by
     obtain ⟨u,d1,d2,d3⟩:=h2.2.2 i y hy' q c hc;exact ⟨u,by rw [Nat.zero_add];exact EH c1 c3 d1,mono d3⟩
    refine .ptr (fun q=>(w.cell? ⟨b',0+i*k+q,none⟩).getD undef) hlt (RP hb ho (by rw [hρ];rfl)) (h3 y (List.mem_of_getElem? hy')) (fun q c hc=>?_) (fun q c hc=>?_)
    ·obtain ⟨u,d1,_⟩:=hex q c hc;rw [d1];rfl
    ·obtain ⟨u,d1,d2⟩:=hex q c hc;rw [d1];exact d2
 | @ptr f i off t cs x ho hb h1 g hg hc ih=>
  intro v hr;obtain ⟨b,us,e1,e2,e3,e4,e5⟩:=hs.sim f i _ ho
  cases hr with
  | @ptr _ _ _ b' hρ=>
   rw [e1] at hρ;injection hρ with hρ;injection hρ with hρ;injection hρ with hρ;subst hρ
   have hex:∀(j:Nat) c,x.cells[j]?=some c ->∃u,w.cell? ⟨b,off+j,none⟩=some u∧A1 w (LV F hp ρ bl) c u:=fun j c hj=>by
    have ha:=hg j c hj;have hlt:off+j<us.length:=by rw [e3];exact (List.getElem?_eq_some_iff.1 ha).1
    refine ⟨us[off+j],by rw [cell_of_row w b (off+j) us.toArray t (0,0) e2];simp [hlt],?_⟩;exact ih j c hj (e4 _ _ _ ha (List.getElem?_eq_getElem hlt))
   have hlt:b<w.heap.size:=(Array.getElem?_eq_some_iff.1 e2).1;refine .ptr (fun q=>(w.cell? ⟨b,off+q,none⟩).getD undef) hlt (RP hb ho (by rw [e1];rfl)) h1 (fun q c hc=>?_) (fun q c hc=>?_)
   ·obtain ⟨u,d1,_⟩:=hex q c hc;rw [d1];rfl
   ·obtain ⟨u,d1,d2⟩:=hex q c hc;rw [d1];exact d2
 | agg hl h1 hc ih=>
  intro v hr
  cases hr with
  | agg g1 g2 g3=>
   refine .agg (by omega) h1 fun j c v hj hv=>?_
   rename_i as cs vs
   have hlt:j<as.length:=by rw [hl];exact (List.getElem?_eq_some_iff.1 hj).1
   exact ih j _ c (List.getElem?_eq_getElem hlt) hj (g3 j _ v (List.getElem?_eq_getElem hlt) hv)
def D.flat:D ->Bool
 | .raw _=>true
 | .agg cs=>cs.all fun c=>match c with
  | .raw _=>true
  | _=>false
 | .sl _ xs=>match xs with
  | []=>true
  | _=>false
 | .tup cs=>cs.all fun c=>match c with
  | .raw _=>true
  | .sl _ []=>true
  | _=>false
 | .ptr _=>false
 | .fn _ _ _=>false
theorem Tx {w:World} {O O':Nat ->Prop} {v':Value} {v:Value} (h:A1 w O (.raw v') v):A1 w O' (.raw v') v:=by
 cases h with | raw h=>exact .raw h
theorem rep_nil {w:World} {O O':Nat ->Prop} {n:Option Bool} {v:Value} (h:A1 w O (.sl n []) v):A1 w O' (.sl n []) v:=by
 cases h with
 | sl k hn hz hln hc hm hk ha hp=>exact .sl k hn hz hln hc hm hk (fun h=>absurd rfl h) (fun _ _ _ i x hx=>by simp at hx)
theorem A1.unflat {w:World} {O O':Nat ->Prop} {x:D} {v:Value} (h:A1 w O x v) (hf:x.flat=true):A1 w O' x v:=by
 cases h with
 | raw h=>exact .raw h
 | agg hl h1 h2=>
  refine .agg hl h1 fun i c v hc hv=>?_;have hm:=List.all_eq_true.1 hf c (List.mem_of_getElem? hc);have:=h2 i c v hc hv
  cases c with
  | raw _=>exact Tx this
  | _=>cases hm
 | tup hl h2=>
  refine .tup hl fun i c v hc hv=>?_;have hm:=List.all_eq_true.1 hf c (List.mem_of_getElem? hc);have:=h2 i c v hc hv
  cases c with
  | raw _=>exact Tx this
  | sl n xs=>
   cases xs with
   | nil=>exact rep_nil this
   | cons _ _=>cases hm
  | _=>cases hm
 | sl k hn hz hln hc hm hk ha hp=>
  rename_i nil xs a n cap
  cases xs with
  | nil=>exact .sl k hn hz hln hc hm hk (fun h=>absurd rfl h) (fun _ _ _ i x hx=>by simp at hx)
  | cons _ _=>cases hf
 | ptr _ _ _ _ _ _=>cases hf
 | fn _ _ _ _=>cases hf
def AV.flatS:AV ->Bool
 | .d x=>x.flat
 | .tup _=>false
 | .agg _=>false
 | .fn _ _=>false
 | _=>true
def AV.flat:AV ->Bool
 | .tup as=>as.all AV.flatS
 | .agg as=>as.all AV.flatS
 | a=>a.flatS
theorem A3.unflatS {w:World} {O O':Nat ->Prop} {ρ:Nat ->Nat ->Value} {a:AV} {v:Value} (h:A3 w O ρ a v) (hf:a.flatS=true):A3 w O' ρ a v:=by
 cases h with
 | d h=>exact .d (h.unflat hf)
 | top=>exact .top
 | ptr h=>exact .ptr h
 | own h hn=>exact .own h hn
 | rptr h=>exact .rptr h
 | map h=>exact .map h
 | ifc h=>exact .ifc h
 | _=>cases hf
theorem A3.unflat {w:World} {O O':Nat ->Prop} {ρ:Nat ->Nat ->Value} {a:AV} {v:Value} (h:A3 w O ρ a v) (hf:a.flat=true):A3 w O' ρ a v:=by
 cases h with
 | tup hl h=>exact .tup hl fun i a v ha hv=>(h i a v ha hv).unflatS (List.all_eq_true.1 hf a (List.mem_of_getElem? ha))
 | agg hl h1 h=>exact .agg hl h1 fun i a v ha hv=>(h i a v ha hv).unflatS (List.all_eq_true.1 hf a (List.mem_of_getElem? ha))
 | d h=>exact .d (h.unflat hf)
 | top=>exact .top
 | ptr h=>exact .ptr h
 | own h hn=>exact .own h hn
 | rptr h=>exact .rptr h
 | map h=>exact .map h
 | ifc h=>exact .ifc h
 | fn _ _=>cases hf
def AQ.Flat:AQ ->Prop
 | .blk _ cs=>∀c∈cs,c.flatS=true
 | .row _ _ _=>False
 | .rowD _ _ xs=>∀x∈xs,∀c∈x.cells,c.flat=true
 | .loop _=>False
 | .map _ _=>False
 | .iter _ _ _ _=>False
 | .addr _ _ _=>True
 | .any=>False
 | .nb _ _ _=>False
 | .nr _ _ _ _ _=>False
 | .multi _=>False
def ZA:List AQ ->Prop
 | []=>True
 | o::r=>o.Flat∧ZA r
def ZB:Hp ->Prop
 | []=>True
 | (_,l)::r=>ZA l∧ZB r
theorem ZB.at {H:Hp} (h:ZB H) {f i:Nat} {o:AQ} (ho:hget H f i=some o):o.Flat:=by
 induction H with
 | nil=>simp [hget,hfam] at ho
 | cons p r ih=>
  obtain ⟨k,l⟩:=p
  by_cases e:k=f
  ·subst e;simp only [hget,hfam,Nat.beq_refl,Option.bind_some] at ho
   have key:∀(l:List AQ),ZA l ->o∈l ->o.Flat:=by
    intro l
    induction l with
    | nil=>intro _ h;cases h
    | cons a r ih=>
     intro hl h;rcases List.mem_cons.1 h with rfl | h
     ·exact hl.1
     ·exact ih hl.2 h
   rcases gl_mem ho with ho | ⟨M,_,e,_,_⟩
   ·exact key l h.1 ho
   ·subst e;exact h.1.1.elim
  ·exact ih h.2 (by simpa only [hget,hfam,ER e] using ho)
theorem BD.unflat {w:World} {O O':Nat ->Prop} {ρ:Nat ->Nat ->Value} {o:AQ} {v:Value} (h:BD w O ρ o v) (hf:o.Flat):BD w O' ρ o v:=by
 cases o with
 | blk t cs=>
  obtain ⟨b,us,h1,h2,h3,h4,h5⟩:=h;exact ⟨b,us,h1,h2,h3,fun j c u hc hu=>(h4 j c u hc hu).unflatS (hf c (List.mem_of_getElem? hc)),h5⟩
 | row t k xs=>exact hf.elim
 | rowD t k xs=>
  obtain ⟨us,h1,h2,h3⟩:=h;exact ⟨us,h1,h2.mono fun x hx c hc u hu=>hu.unflat (hf x hx c hc),h3⟩
 | loop L=>exact hf.elim
 | map _ _=>exact hf.elim
 | iter _ _ _ _=>exact hf.elim
 | addr _ _ _=>exact h
 | any=>exact hf.elim
 | nb _ _ _=>exact hf.elim
 | nr _ _ _ _ _=>exact hf.elim
 | multi _=>exact hf.elim
section
variable {P:Program} {F:Fr} {s:AS} {d:Nat} {ty:TypeId} {pos:String} {aft:Array Edge} {g:Option (Nat×Bool)} {at_:Array TypeId}
def SC (s:AS) (bl:List Nat):List Operand ->List AV ->Prop
 | [],[]=>True
 | x::xs,a::as=>(s.ev x=some a∨∃a0 y,s.ev x=some a0∧Nw s.hp bl a0 y∧a= .d y)∧SC s bl xs as
 | _,_=>False
theorem SC.rep {ρ:Nat ->Nat ->Value} {act:Act} {w:World} (hs:SR F s ρ act w) {bl:List Nat}:∀{xs:List Operand} {as:List AV},SC s bl xs as ->(xs.map act.eval).length=as.length∧∀(i:Nat) a v,as[i]?=some a ->(xs.map act.eval)[i]?=some v ->A3 w (LV F s.hp ρ bl) ρ a v
 | [],[],_=>by simp
 | x::xs,a::as,h=>by
  obtain ⟨h1,h2⟩:=SC.rep hs h.2;refine ⟨by simpa using h1,fun i a' v hi hv=>?_⟩
  cases i with
  | zero=>
   simp at hi hv;subst hi hv
   rcases h.1 with h | ⟨a0,y,e1,e2,rfl⟩
   ·exact (hs.ev h).mono (Nat.le_refl _) (fun _ _ _=>rfl) (fun b _ hb=>hb.1) fun _ _ _=>rfl
   ·exact .d (e2.rep hs.heap (hs.ev e1))
  | succ i=>exact h2 i a' v (by simpa using hi) (by simpa using hv)
 | [],_::_,h=>h.elim
 | _::_,[],h=>h.elim
theorem Ef {f:FuncId} {xs:List Operand} {args:List AV} {x:D} (bl:List Nat) (hc:AU P f args x) (hargs:SC s bl xs args) (hfl:x.flat=true) (hd:Nat.blt d s.n=true):
  AA P F ⟨some d,.call {callee:= .value (.func f),args:=xs.toArray,argTypes:=at_},ty,pos,aft,g⟩ s d (.d x):=by
 refine ⟨hd,rfl,fun ρ act w hs=>?_⟩;obtain ⟨fn,h1,h2,h3⟩:=hc.1;obtain ⟨h4,h5⟩:=hargs.rep hs;unfold Oper.wp;rw [EG h1 h2 h3,Oper.upon_enter];have hno:∀ρ b,¬Ar ρ [] b:=fun ρ b ⟨_,_,_,h,_⟩=>by cases h
 let F':Fr:=Fr.mk none w.heap.size w (LV F s.hp ρ bl) (Ar ρ []) (Cn ρ []) (fun b hb=>⟨by
  rcases hb.1 with hb | hb
  ·exact Nat.lt_of_lt_of_le (F.hOf b hb).1 hs.heap.size0
  ·exact (hs.heap.mine b hb).1,hno ρ b⟩) [] (fun _ _ _ h=>Da h)
 have hO':F'.O ρ []=LV F s.hp ρ bl:=funext fun b=>propext ⟨fun h=>h.elim id fun h=>(hno ρ b h).elim,.inl⟩
 have hheap':B8 F' [] ρ w:=⟨(fun f i o ho=>by cases ho),(fun f i f' i' o o' b ho=>by cases ho),fun b hb=>(hno ρ b hb).elim,rfl,rfl,rfl,Nat.le_refl _,fun _ _ _=>rfl,fun f i b hb=>Zc9 hb,Nat.le_refl _⟩
 refine (hc.2 F' ρ _ Z Z ⟨rfl,rfl,rfl⟩ hheap' h4 (fun i a v ha hv=>by rw [hO'];exact h5 i a v ha hv)).mono fun e w' ⟨v,r,H',ρ',e1,⟨e2,e3⟩,hrep,hh'⟩=>?_;subst e1 e2 e3;have hbb:∀b,b<w.heap.size ->w'.heap[b]?=w.heap[b]?:=fun b hlt=>hh'.keep b hlt (hno ρ b);refine ⟨v,rfl,?_,hs.heap.stay ⟨hh'.os,hh'.tape,hh'.output,Nat.le_trans hs.heap.drawn hh'.drawn⟩ hh'.size0 hbb,hh'.size0,hbb⟩
 cases hrep with
 | d hrep=>exact .d (hrep.unflat hfl)
end
theorem A0 {α β:Type} {f:α ->β} {l:List α} {k:Nat} (h:k<l.length):(l.map f)[k]?=some (f l[k]):=by simp [h]
theorem DA {a b:Nat} (h:(a:Int)<(b:Int)):a<b:=by omega
abbrev Am (l:List UInt8):D:= .raw (.string ⟨l.toArray⟩)
section
variable {P:Program} {F:Fr} {s:AS} {d:Nat} {ty T T' E:TypeId} {pos:String} {aft:Array Edge} {g:Option (Nat×Bool)} {x y:Operand}
end
end Go.Proofs.YtnkkaeblokdifaaGreat
