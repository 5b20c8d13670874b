/- Rows of a region: their tails, stores, clearing, sorting; a row's tail is forgotten. No program in sight. -/
import Derived.Test.YtlmedakidpaeeaaGreatMg10
import Derived.Lib.SliceRun
import Derived.RangeFuncLeaves
namespace Go.Proofs.YtlmedakidpaeeaaGreat
open Go.RowKit
section
variable {P:Program} {F:Fr} {s:AS} {d:Nat} {x y lo:Operand} {T E:TypeId} {ty:TypeId} {pos:String} {aft:Array Edge} {g:Option (Nat×Bool)} {k:IntKind} {i:Int}
theorem IM {b n cap:Nat} (l:Nat) {kl:IntKind} {il:Int} (hx:s.ev x=some (.d (.raw (sV b n cap)))) (hlo:s.ev lo=some (.d (.raw (.int kl il)))) (hl:il=(l:Int)) (h1:l≤n) (h2:l<cap) (hT:P.underlying T=some (.slice E)) (hE:Aj P E 1=true) (hd:Nat.blt d s.n=true):
  AA P F ⟨some d,.slice T x (some lo) none none,ty,pos,aft,g⟩ s d (.d (.raw (.slice (some ⟨b,l,none⟩) (n - l) (cap - l)))):=
 Bt _ hd fun _ act w hs=>by
  have e:=hs.raw hx;subst hl;refine ⟨.slice (if cap=l then some ⟨b,0,none⟩ else (some (⟨b,0,none⟩:Addr)).map (·.add (l*1))) (n - l) (cap - l),by simp only [execOp,e,Option.map_some,Option.map_none,hs.raw hlo,Sem.run_bind,LP hT (Ow hE) h1,Result.andThen_ok,Sem.run_pure],?_⟩;rw [if_neg (by omega),Option.map_some,Addr.add_mid,Nat.mul_one,Nat.zero_add];exact .d (.raw rfl)
theorem MI {b n cap:Nat} (h:Nat) {kh:IntKind} {ih:Int} (hx:s.ev x=some (.d (.raw (sV b n cap)))) (hhi:s.ev lo=some (.d (.raw (.int kh ih)))) (hh:ih=(h:Int)) (h2:h≤cap) (hT:P.underlying T=some (.slice E)) (hE:Aj P E 1=true) (hd:Nat.blt d s.n=true):
  AA P F ⟨some d,.slice T x none (some lo) none,ty,pos,aft,g⟩ s d (.d (.raw (sV b h cap))):=
 Bt _ hd fun _ act w hs=>by
  have e:=hs.raw hx;subst hh;refine ⟨.slice (if cap=0 then some ⟨b,0,none⟩ else (some (⟨b,0,none⟩:Addr)).map (·.add (0*1))) (h - 0) (cap - 0),by simp only [execOp,e,Option.map_some,Option.map_none,hs.raw hhi,Sem.run_bind,Ek hT (Ow hE) h2,Result.andThen_ok,Sem.run_pure],?_⟩
  have:Value.slice (if cap=0 then some ⟨b,0,none⟩ else (some (⟨b,0,none⟩:Addr)).map (·.add (0*1))) (h - 0) (cap - 0)=sV b h cap:=by
   split<;>simp [Addr.add]
  rw [this];exact .d (.raw rfl)
theorem E0 {b o n cap:Nat} (m:Nat) (hx:s.ev x=some (.d (.raw (.slice (some ⟨b,o,none⟩) n cap)))) (hy:s.ev y=some (.d (.raw (.int k i)))) (hi:i=(m:Int)) (hm:m<n) (hT:P.underlying T=some (.slice E)) (hE:Aj P E 1=true) (hd:Nat.blt d s.n=true):
  AA P F ⟨some d,.indexAddr T x y,ty,pos,aft,g⟩ s d (.d (pD b (o+m))):=
 Bt _ hd fun ρ act w hs=>by
  have hrx:=hs.raw hx;subst hi;exact ⟨pV b (o+m),by simp [execOp,Instr.indexAt,asIntOf,hs.raw hy,hrx,run_underlying hT,hm,Zcl (Ow hE),Addr.add_mid],.d (.raw rfl)⟩
end
theorem GC {z:D} (h:z.one=true):z.cells=[z]:=by
 cases z with
 | agg cs=>simp [D.one] at h
 | _=>rfl
theorem SR.setRN {F:Fr} {s:AS} {ρ:Nat ->Nat ->Value} {act:Act} {w:World} (hs:SR F s ρ act w) {f b:Nat} {M:MF} {t:TypeId} {cap:Nat} {xs zs:List D} {us':List Value} {hp':Hp} (hM:hfam s.hp f=some [.multi M]) (hb:M b=some (.row t 1 cap xs)) (k:Nat) (hk:k+zs.length≤xs.length) (hzu:us'.length=zs.length)
  (hr:∀(j:Nat) z u,zs[j]? =some z ->us'[j]? =some u ->z.one=true∧u.oneCell'=true∧AM w (F.O ρ s.hp) z u) (h1x:∀x∈xs,x.one=true)
  (hh:BC s.hp f (BU M b (.row t 1 cap (setL xs k zs)))=some hp'):SR F ⟨s.n,s.env,hp'⟩ ρ act (w.setCells b k us'):=by
 obtain ⟨hρ,us,q1,q2,q3⟩:=hs.rowN hM hb;obtain ⟨g1,g2,g3,g4⟩:=Zcp (b:=b) us' k w;refine hs.writeN f b hM hb hh g1 g2 g3 g4 (fun b' hb'=>Zcb _ _ _ _ hb') hρ (fun hrep=>?_) (Nat.le_of_eq (C7 _ _ _ _).symm)
 have hrepD:∀(c:D) u,AM w (F.O ρ s.hp) c u ->AM (w.setCells b k us') (F.O ρ hp') c u:=fun c u h=>by
  have:=hrep (.d c) u (.d h)
  cases this with | d h=>exact h
 have hul:us.length=xs.length:=by have:=q2.1;rwa [Nat.mul_one] at this
 have hone:∀z∈setL xs k zs,z.one=true:=fun z hz=>by
  obtain ⟨j,hj,rfl⟩:=List.getElem_of_mem hz;have hj2:=List.getElem?_eq_getElem hj;rw [QJ _ _ _ (by omega)] at hj2
  split at hj2
  ·have hlt:=(List.getElem?_eq_some_iff.1 hj2).1;exact (hr _ _ _ hj2 (List.getElem?_eq_getElem (by omega))).1
  ·exact h1x _ (List.mem_of_getElem? hj2)
 have hlen:(setL xs k zs).length=xs.length:=OX _ _ _;rcases q1.2 with ⟨e,_⟩ | ⟨b',cap',cur,e1,e0,e2,e3,e4,e5,e6⟩
 ·cases e
 ·injection e1 with e1 _ e8
  injection e1 with e1
  injection e1 with e1
  subst e1 e8;rw [Nat.mul_one] at e6;have hcl:us.length≤cur.toList.length:=by rw [←e6,List.length_take];omega
  have e2':w.heap[b]? =some (.cells cur.toList.toArray t (0,0)):=by simpa using e2
  refine ⟨hρ,setL us k us',⟨by rw [OX,hlen,hul,Nat.mul_one],.inr ⟨b,cap,(setL cur.toList k us').toArray,by rw [hlen],e0,by simpa using Zcc (fr:=(0,0)) us' cur.toList k w e2',by rw [hlen];exact e3,e4,by simp [OX,e5],?_⟩⟩,⟨by rw [OX,hlen,hul,Nat.mul_one],fun z hz=>by rw [GC (hone z hz)];rfl,fun j z hj q c hc=>?_⟩,fun z hz c hc=>by rw [GC (hone z hz),List.mem_singleton] at hc;rw [hc];exact hone z hz⟩
  ·rw [hlen,Nat.mul_one];show (setL cur.toList k us').take xs.length=_;rw [←hul,Hb _ _ _ _ (by omega) hcl,hul,e6]
  ·have hzo:=hone z (List.mem_of_getElem? hj);rw [GC hzo] at hc
   cases q with
   | succ q=>cases hc
   | zero=>
    injection hc with hc
    subst hc;rw [Nat.mul_one,Nat.add_zero];rw [QJ _ _ _ (by omega)] at hj;rw [QJ _ _ _ (by omega),hzu]
    by_cases e:k≤j∧j<k+zs.length
    ·rw [if_pos e] at hj⊢;have hlt:=(List.getElem?_eq_some_iff.1 hj).1;have hu:=List.getElem?_eq_getElem (l:=us') (i:=j - k) (by omega);obtain ⟨_,h2,h3⟩:=hr _ _ _ hj hu;exact ⟨_,hu,h2,hrepD _ _ h3⟩
    ·rw [if_neg e] at hj⊢;obtain ⟨u,d1,d2,d3⟩:=q2.2.2 j z hj 0 z (by rw [GC hzo];rfl);rw [Nat.mul_one,Nat.add_zero] at d1;exact ⟨u,d1,d2,hrepD _ _ d3⟩
section
variable {P:Program} {F:Fr} {d:Nat} {x y lo:Operand} {T E:TypeId} {ty:TypeId} {pos:String} {aft:Array Edge} {g:Option (Nat×Bool)} {k:IntKind} {i:Int}
theorem Nc {n:Nat} {env:List (Nat×AV)} {hp hp':Hp} {f b off cap:Nat} {M:MF} {t:TypeId} {xs:List D} {v:D} (hx:AS.ev ⟨n,env,hp⟩ x=some (.d (pD b off))) (hy:AS.ev ⟨n,env,hp⟩ y=some (.d v)) (hv:v.one=true) (hM:hfam hp f=some [.multi M]) (hb:M b=some (.row t 1 cap xs)) (hoff:off<xs.length) (h1x:∀x∈xs,x.one=true)
  (hh:BC hp f (BU M b (.row t 1 cap (setL xs off [v])))=some hp') (hT:Aj P T 1=true):AK P F ⟨none,.store T x y,ty,pos,aft,g⟩ ⟨n,env,hp⟩ ⟨n,env,hp'⟩ (fun _ _=>true):=fun ρ act w hs=>by
 have hrx:=hs.raw hx;have hry:=hs.repD hy;obtain ⟨hρ,us,q1,q2,q3⟩:=hs.rowN hM hb
 generalize hvy:act.eval y=vy at hry
 have hone:=hry.oneCell hv;have hcl:vy.cells.toList=[vy]:=by cases vy<;>first | rfl | cases hone
 rcases q1.2 with ⟨e,_⟩ | ⟨b',cap',cur,e1,e0,e2,e3,e4,e5,e6⟩
 ·cases e
 ·injection e1 with e1 _ e8
  injection e1 with e1
  injection e1 with e1
  subst e1 e8;have hrun:=Cp (P:=P) (T:=T) (o:=off) (v:=vy) (us:=cur.toList) (by simpa using e2) (by rw [hcl];exact Ow hT) (by rw [hcl];simp only [List.length_singleton,Array.length_toList];omega) (by rw [hcl];intro u hu;rw [List.mem_singleton.1 hu];exact hone)
  have hex:(execOp act.eval ⟨none,.store T x y,ty,pos,aft,g⟩).run P w= .ok .skip (w.setCells b off vy.cells.toList):=by
   simp [execOp,hrx,hvy,hrun]
  unfold Oper.wp;rw [hex,hcl];refine ⟨ρ,hs.setRN hM hb off (by simp only [List.length_singleton];omega) rfl (fun j z u hj hu=>?_) h1x hh,fun _ _ _=>rfl⟩
  match j,hj,hu with
  | 0,hj,hu=>
   injection hj with hj;injection hu with hu
   subst hj hu;exact ⟨hv,hone,hry⟩
theorem PP {n:Nat} {env:List (Nat×AV)} {hp hp':Hp} {f b o m c cap:Nat} {M:MF} {t:TypeId} {xs:List D} {z:Value} (hx:AS.ev ⟨n,env,hp⟩ x=some (.d (.raw (.slice (some ⟨b,o,none⟩) m c)))) (hM:hfam hp f=some [.multi M]) (hb:M b=some (.row t 1 cap xs)) (hm:0<m) (hom:o+m=xs.length) (h1x:∀x∈xs,x.one=true)
  (hT:P.underlying T=some (.slice E)) (hz:∀w,(zeroValue E).run P w= .ok z w) (hz1:z.oneCell'=true) (hzc:z.cells= #[z])
  (hh:BC hp f (BU M b (.row t 1 cap (setL xs o (List.replicate m (.raw z)))))=some hp'):
  AK P F ⟨none,.call {callee:= .builtin .clear,args:= #[x],argTypes:= #[T]},ty,pos,aft,g⟩ ⟨n,env,hp⟩ ⟨n,env,hp'⟩ (fun _ _=>true):=fun ρ act w hs=>by
 have hrx:=hs.raw hx;obtain ⟨hρ,us,q1,q2,q3⟩:=hs.rowN hM hb;rcases q1.2 with ⟨e,_⟩ | ⟨b',cap',cur,e1,e0,e2,e3,e4,e5,e6⟩
 ·cases e
 ·injection e1 with e1 _ e8
  injection e1 with e1
  injection e1 with e1
  subst e1 e8
  have hcell:∀j,j<m ->(w.cell? ⟨b,o+j,none⟩).isSome=true:=fun j hj=>by
   rw [cell_of_row w b (o+j) cur t (0,0) e2];simp;omega
  have hfr:∀j,j<m ->w.frozen? ⟨b,o+j,none⟩=false:=fun j hj=>by
   simp only [World.frozen?,e2];simp
  have hrun:=Lib.run_clear_slice (P:=P) w T E ty z hT hz hzc hz1 b o m c hm hcell hfr
  have hex:(execOp act.eval ⟨none,.call {callee:= .builtin .clear,args:= #[x],argTypes:= #[T]},ty,pos,aft,g⟩).run P w= .ok (.value (.tuple #[])) (w.setCells b o (List.replicate m z)):=by
   generalize hV:(Value.slice (some ⟨b,o,none⟩) m c)=V at hrx hrun
   simp [execOp,resolve,invoke,builtin,hrx,hrun]
  unfold Oper.wp;rw [hex];refine ⟨ρ,hs.setRN hM hb o (by rw [List.length_replicate];omega) (by simp) (fun j y u hj hu=>?_) h1x hh,fun _ _ _=>rfl⟩;have h1:=List.eq_of_mem_replicate (List.mem_of_getElem? hj);have h2:=List.eq_of_mem_replicate (List.mem_of_getElem? hu);subst h1 h2;exact ⟨rfl,hz1,.raw hz1⟩
end
theorem SR.shrinkN {F:Fr} {s:AS} {ρ:Nat ->Nat ->Value} {act:Act} {w:World} (hs:SR F s ρ act w) (f b m:Nat) {M:MF} {t:TypeId} {cap:Nat} {xs:List D} {hp':Hp} (hM:hfam s.hp f=some [.multi M]) (hb:M b=some (.row t 1 cap xs)) (hm:m≤xs.length)
  (hh:BC s.hp f (BU M b (.row t 1 cap (xs.take m)))=some hp'):SR F ⟨s.n,s.env,hp'⟩ ρ act w:=by
 obtain ⟨hρ,us,q1,q2,q3⟩:=hs.rowN hM hb;refine hs.writeN f b hM hb hh Z Z Z Z (fun _ _=>rfl) hρ fun hrep=>?_;have hul:us.length=xs.length:=by have:=q2.1;rwa [Nat.mul_one] at this
 have hlen:(xs.take m).length=m:=by rw [List.length_take];omega
 rcases q1.2 with ⟨e,_⟩ | ⟨b',cap',cur,e1,e0,e2,e3,e4,e5,e6⟩
 ·cases e
 ·injection e1 with e1 _ e8
  injection e1 with e1
  injection e1 with e1
  subst e1 e8;rw [Nat.mul_one] at e6;refine ⟨hρ,us.take m,⟨by rw [List.length_take,hlen,Nat.mul_one];omega,.inr ⟨b,cap,cur,by rw [hlen],e0,e2,by rw [hlen];omega,e4,e5,?_⟩⟩,⟨by rw [List.length_take,hlen,Nat.mul_one];omega,fun z hz=>q2.2.1 z (List.mem_of_mem_take hz),fun j z hj q c hc=>?_⟩,fun z hz=>q3 z (List.mem_of_mem_take hz)⟩
  ·rw [hlen,Nat.mul_one,←e6,List.take_take]
   congr 1;omega
  ·rw [List.getElem?_take] at hj
   split at hj
   ·rename_i hjm
    have hz:=q2.2.1 z (List.mem_of_getElem? hj);have hq:q=0:=by have:=(List.getElem?_eq_some_iff.1 hc).1;omega
    subst hq;obtain ⟨u,d1,d2,d3⟩:=q2.2.2 j z hj 0 c hc;rw [Nat.mul_one,Nat.add_zero] at d1;refine ⟨u,by rw [Nat.mul_one,Nat.add_zero,List.getElem?_take_of_lt hjm];exact d1,d2,?_⟩;have:=hrep (.d c) u (.d d3)
    cases this with | d h=>exact h
   ·cases hj
section
variable {P:Program} {F:Fr} {Q:Exit ->AS ->Prop} {c:Code} {ops:Array Oper} {l:List Oper} {n:Nat} {env:List (Nat×AV)} {hp hp':Hp}
theorem QH (f b m:Nat) {M:MF} {t:TypeId} {cap:Nat} {xs:List D} (hM:hfam hp f=some [.multi M]) (hb:M b=some (.row t 1 cap xs)) (hm:m≤xs.length) (hh:BC hp f (BU M b (.row t 1 cap (xs.take m)))=some hp') (h:B9 P F c Q ⟨n,env,hp'⟩):B9 P F c Q ⟨n,env,hp⟩:=fun _ _ _ hs=>h _ _ _ (hs.shrinkN f b m hM hb hm hh)
end
end Go.Proofs.YtlmedakidpaeeaaGreat
/- Layer 27, plain: sorted lists of strings, references, links, groups. No program in sight. -/
namespace Go.Proofs.YtlmedakidpaeeaaGreat
abbrev St:=List UInt8
abbrev Fu (l:List St):Prop:=l.Pairwise (· < ·)
theorem G2 (x:St):¬x<x:=List.lt_irrefl x
theorem OZ {x y z:St} (h:x<y) (h':y<z):x<z:=List.lt_trans h h'
theorem Q3 {x y:St} (h:x<y):¬y<x:=fun h'=>G2 x (OZ h h')
theorem st_tri {x y:St} (h:¬x<y) (hne:x≠y):y<x:=by
 rcases List.le_total x y with h1 | h1
 ·exact absurd (List.le_antisymm h1 (List.not_lt.1 h)) hne
 ·exact Classical.byContradiction fun h2=>hne (List.le_antisymm (List.not_lt.1 h2) h1)
theorem Ih {γ:Type} {R:γ ->γ ->Prop} (irr:∀x,¬R x x) (tr:∀x y z,R x y ->R y z ->R x z):∀{l m:List γ},l.Pairwise R ->m.Pairwise R ->(∀x,x∈l↔x∈m) ->l=m
 | [],[],_,_,_=>rfl
 | [],y::m,_,_,h=>by have:=(h y).2 (by simp);simp at this
 | x::l,[],_,_,h=>by have:=(h x).1 (by simp);simp at this
 | x::l,y::m,hl,hm,h=>by
  have h1:=List.pairwise_cons.1 hl;have h2:=List.pairwise_cons.1 hm
  have hxy:x=y:=by
   rcases List.mem_cons.1 ((h x).1 (by simp)) with e | hx
   ·exact e
   rcases List.mem_cons.1 ((h y).2 (by simp)) with e | hy
   ·exact e.symm
   exact absurd (tr x y x (h1.1 y hy) (h2.1 x hx)) (irr x)
  subst hxy;refine congrArg (x:: ·) (Ih irr tr h1.2 h2.2 fun z=>⟨fun hz=>?_,fun hz=>?_⟩)
  ·rcases List.mem_cons.1 ((h z).1 (List.mem_cons_of_mem _ hz)) with e | hz'
   ·subst e;exact absurd (h1.1 z hz) (irr z)
   ·exact hz'
  ·rcases List.mem_cons.1 ((h z).2 (List.mem_cons_of_mem _ hz)) with e | hz'
   ·subst e;exact absurd (h2.1 z hz) (irr z)
   ·exact hz'
theorem Ii {l m:List St} (hl:Fu l) (hm:Fu m) (h:∀x,x∈l↔x∈m):l=m:=Ih G2 (fun _ _ _=>OZ) hl hm h
theorem DX {l:List St} (h:Fu l):l.Nodup:=List.Pairwise.imp (fun {a b} (h:a<b) (e:a=b)=>by subst e;exact G2 a h) h
theorem JH {l m:List Nat} (hl:l.Pairwise (· < ·)) (hm:m.Pairwise (· < ·)) (h:∀x,x∈l↔x∈m):l=m:=Ih Nat.lt_irrefl (fun _ _ _=>Nat.lt_trans) hl hm h
def BI:List St ->St ->List St
 | [],s=> [s]
 | x::r,s=>if s<x then s::x::r else x::BI r s
theorem LD {l:List St} {s x:St}:x∈BI l s↔x=s∨x∈l:=by
 induction l with
 | nil=>simp [BI]
 | cons y r ih=>
  unfold BI
  split
  ·simp
  ·simp only [List.mem_cons,ih]
   constructor
   ·rintro (h | h | h)<;>simp [h]
   ·rintro (h | h | h)<;>simp [h]
theorem JG {l:List St} {s:St} (h:Fu l) (hs:s∉l):Fu (BI l s):=by
 induction l with
 | nil=>simp [BI]
 | cons y r ih=>
  have h1:=List.pairwise_cons.1 h;unfold BI
  split
  ·rename_i hlt
   refine List.pairwise_cons.2 ⟨fun z hz=>?_,h⟩;rcases List.mem_cons.1 hz with rfl | hz
   ·exact hlt
   ·exact OZ hlt (h1.1 z hz)
  ·rename_i hlt
   refine List.pairwise_cons.2 ⟨fun z hz=>?_,ih h1.2 fun h=>hs (List.mem_cons_of_mem _ h)⟩;rcases LD.1 hz with rfl | hz
   ·exact st_tri hlt fun e=>hs (by rw [e];simp)
   ·exact h1.1 z hz
theorem DE {l:List St} {s:St}:(BI l s).length=l.length+1:=by
 induction l with
 | nil=>rfl
 | cons y r ih=>unfold BI;split<;>simp [ih]
inductive BM {α:Type} (r:α ->α ->Prop) (a:α):α ->Prop
 | refl:BM r a a
 | tail {b c:α} (h:BM r a b) (h':r b c):BM r a c
theorem BM.trans {α:Type} {r:α ->α ->Prop} {a b c:α} (h:BM r a b) (h':BM r b c):BM r a c:=by
 induction h' with
 | refl=>exact h
 | tail _ h2 ih=>exact ih.tail h2
theorem BM.one {α:Type} {r:α ->α ->Prop} {a b:α} (h:r a b):BM r a b:=BM.refl.tail h
theorem BM.mono {α:Type} {r r':α ->α ->Prop} (hr:∀a b,r a b ->r' a b) {a b:α} (h:BM r a b):BM r' a b:=by
 induction h with
 | refl=>exact .refl
 | tail _ h2 ih=>exact ih.tail (hr _ _ h2)
theorem BM.symm {α:Type} {r:α ->α ->Prop} (hr:∀a b,r a b ->r b a) {a b:α} (h:BM r a b):BM r b a:=by
 induction h with
 | refl=>exact .refl
 | tail _ h2 ih=>exact (BM.one (hr _ _ h2)).trans ih
theorem BM.closed {α:Type} {r:α ->α ->Prop} {p:α ->Prop} (hp:∀a b,p a ->r a b ->p b) {a b:α} (ha:p a) (h:BM r a b):p b:=by
 induction h with
 | refl=>exact ha
 | tail _ h2 ih=>exact hp _ _ ih h2
structure Lw where
 f:St
 t:Int
 r:St
deriving instance DecidableEq for Lw
structure Ws where
 R:List St
 K:List Lw
structure B1 (w:Ws):Prop where
 srt:Fu w.R
 nd:w.K.Nodup
 lk:∀l∈w.K,l.f∈w.R∧l.r∈w.R∧l.f≠l.r∧(l.t=0∨l.t=1)
 few:w.R.length≤4096
def KN (w:Ws) (a b:St):Prop:=(⟨a,0,b⟩:Lw)∈w.K∨(⟨b,0,a⟩:Lw)∈w.K
theorem KN.symm {w:Ws} {a b:St} (h:KN w a b):KN w b a:=Or.symm h
abbrev Gm (w:Ws):=BM (KN w)
theorem Gm.symm {w:Ws} {a b:St} (h:Gm w a b):Gm w b a:=BM.symm (fun _ _=>KN.symm) h
theorem KN.mem {w:Ws} (h:B1 w) {a b:St} (hw:KN w a b):a∈w.R∧b∈w.R:=by
 rcases hw with hw | hw
 ·exact ⟨(h.lk _ hw).1,(h.lk _ hw).2.1⟩
 ·exact ⟨(h.lk _ hw).2.1,(h.lk _ hw).1⟩
theorem Gm.mem {w:Ws} (h:B1 w) {a b:St} (ha:a∈w.R) (hc:Gm w a b):b∈w.R:=by
 induction hc with
 | refl=>exact ha
 | tail _ h2 _=>exact (h2.mem h).2
open Classical in
noncomputable def cls (w:Ws) (a:St):List St:=w.R.filter fun x=>decide (Gm w a x)
theorem Jq {w:Ws} {a x:St}:x∈cls w a↔x∈w.R∧Gm w a x:=by simp [cls]
theorem FC {w:Ws} (h:B1 w) (a:St):Fu (cls w a):=List.Pairwise.sublist List.filter_sublist h.srt
theorem Hw {w:Ws} {a b:St} (h:Gm w a b):cls w a=cls w b:=by
 unfold cls;refine List.filter_congr fun x _=>?_
 have:Gm w a x↔Gm w b x:=⟨fun h1=>h.symm.trans h1,fun h1=>h.trans h1⟩
 simp [this]
def KQ (w:Ws) (a:St):Prop:=∀x∈w.R,Gm w a x ->¬x<a
open Classical in
noncomputable def parts (w:Ws):List (List St):=(w.R.filter fun a=>decide (KQ w a)).map (cls w)
theorem least {w:Ws} (h:B1 w) {x:St} (hx:x∈w.R):∃a∈w.R,KQ w a∧Gm w a x:=by
 cases hc:cls w x with
 | nil=>have:x∈cls w x:=Jq.2 ⟨hx,.refl⟩;rw [hc] at this;cases this
 | cons a r=>
  have ha:=Jq.1 (show a∈cls w x by rw [hc];simp);refine ⟨a,ha.1,fun y hy hay hlt=>?_,ha.2.symm⟩;have hs:=FC h x;rw [hc] at hs;have hm:y∈cls w x:=Jq.2 ⟨hy,ha.2.trans hay⟩;rw [hc] at hm;rcases List.mem_cons.1 hm with e | hm
  ·exact G2 a (e▸hlt)
  ·exact Q3 hlt ((List.pairwise_cons.1 hs).1 y hm)
theorem O9 {w:Ws} {g:List St} (hg:g∈parts w):∃a∈w.R,KQ w a∧g=cls w a:=by
 unfold parts at hg;obtain ⟨a,ha,rfl⟩:=List.mem_map.1 hg;have:=List.mem_filter.1 ha;exact ⟨a,this.1,by simpa using this.2,rfl⟩
theorem JS {w:Ws} {g:List St} (hg:g∈parts w) {x:St} (hx:x∈g):x∈w.R∧g=cls w x:=by
 obtain ⟨a,_,_,rfl⟩:=O9 hg;obtain ⟨h1,h2⟩:=Jq.1 hx;exact ⟨h1,Hw h2⟩
theorem Qw {w:Ws} (h:B1 w) {x:St} (hx:x∈w.R):cls w x∈parts w:=by
 obtain ⟨a,ha,hl,hc⟩:=least h hx;unfold parts;rw [←Hw hc];exact List.mem_map_of_mem (List.mem_filter.2 ⟨ha,by simpa using hl⟩)
theorem QQ {w:Ws} {x:St} (hx:x∈w.R):x∈cls w x:=Jq.2 ⟨hx,.refl⟩
theorem Mb {w:Ws} (h:B1 w) {g:List St} (hg:g∈parts w):Fu g:=by
 obtain ⟨a,_,_,rfl⟩:=O9 hg;exact FC h a
theorem P7 {w:Ws} (h:B1 w):(parts w).Pairwise fun g g'=>∀x∈g,x∉g':=by
 unfold parts;rw [List.pairwise_map]
 have hs:(w.R.filter fun a=> @decide (KQ w a) (Classical.propDecidable _)).Pairwise fun a b=>a<b∧(KQ w a∧KQ w b)∧a∈w.R∧b∈w.R:=by
  have h1:(w.R.filter fun a=> @decide (KQ w a) (Classical.propDecidable _)).Pairwise (· < ·):=List.Pairwise.sublist List.filter_sublist h.srt;refine (List.Pairwise.and_mem.1 h1).imp fun ⟨ha,hb,hlt⟩=>?_;have ha':=List.mem_filter.1 ha;have hb':=List.mem_filter.1 hb;exact ⟨hlt,⟨by simpa using ha'.2,by simpa using hb'.2⟩,ha'.1,hb'.1⟩
 refine hs.imp fun {a b} ⟨hlt,⟨_,hb⟩,ha2,_⟩ x hx hx'=>?_;exact hb a ha2 ((Jq.1 hx').2.trans (Jq.1 hx).2.symm) hlt
noncomputable def idx (w:Ws) (x:St):Nat:=(parts w).findIdx fun g=>g.contains x
theorem EI {w:Ws} (h:B1 w) {x:St} (hx:x∈w.R):idx w x<(parts w).length:=
 List.findIdx_lt_length_of_exists ⟨cls w x,Qw h hx,by simpa using QQ hx⟩
theorem Hm {w:Ws} (h:B1 w) {x:St} (hx:x∈w.R):(parts w)[idx w x]? =some (cls w x):=by
 have hlt:=EI h hx;have h1:((parts w)[idx w x]).contains x=true:=List.findIdx_getElem (w:=hlt);rw [List.getElem?_eq_getElem hlt];exact congrArg some (JS (List.getElem_mem hlt) (by simpa using h1)).2
theorem Qv {w:Ws} (h:B1 w) {i j:Nat} {g g':List St} {x:St} (hi:(parts w)[i]? =some g) (hj:(parts w)[j]? =some g') (hx:x∈g) (hx':x∈g'):i=j:=by
 have hd:=List.pairwise_iff_getElem.1 (P7 h);obtain ⟨h1,rfl⟩:=List.getElem?_eq_some_iff.1 hi;obtain ⟨h2,rfl⟩:=List.getElem?_eq_some_iff.1 hj;rcases Nat.lt_trichotomy i j with h3 | h3 | h3
 ·exact absurd hx' (hd i j h1 h2 h3 x hx)
 ·exact h3
 ·exact absurd hx (hd j i h2 h1 h3 x hx')
theorem OF {w:Ws} (h:B1 w) {i:Nat} {g:List St} {x:St} (hi:(parts w)[i]? =some g) (hx:x∈g):idx w x=i:=by
 have hg:=List.mem_of_getElem? hi;obtain ⟨h1,h2⟩:=JS hg hx;exact Qv h (Hm h h1) hi (QQ h1) hx
theorem DR {w:Ws} (h:B1 w) {x y:St} (hx:x∈w.R) (hy:y∈w.R):idx w x=idx w y↔Gm w x y:=by
 constructor
 ·intro e;have h1:=Hm h hx;have h2:=Hm h hy;rw [e,h2] at h1;injection h1 with h1
  have:y∈cls w x:=by rw [←h1];exact QQ hy
  exact (Jq.1 this).2
 ·intro hc;unfold idx;exact (OF h (Hm h hy) (Jq.2 ⟨hx,hc.symm⟩))
def Dep (w:Ws) (i k:Nat):Prop:=i≠k∧∃l∈w.K,l.t=1∧idx w l.f=i∧idx w l.r=k
open Classical in
noncomputable def depL (w:Ws) (i:Nat):List Nat:=(List.range (parts w).length).filter fun k=>decide (Dep w i k)
theorem CK {w:Ws} (h:B1 w) {i k:Nat}:k∈depL w i↔Dep w i k:=by
 simp only [depL,List.mem_filter,List.mem_range,decide_eq_true_eq];refine ⟨fun h=>h.2,fun hd=>⟨?_,hd⟩⟩;obtain ⟨_,l,hl,_,_,e⟩:=hd;rw [←e];exact EI h (h.lk l hl).2.1
theorem Ff (w:Ws) (i:Nat):(depL w i).Pairwise (· < ·):=List.Pairwise.sublist List.filter_sublist List.pairwise_lt_range
theorem GL {w:Ws} {i k:Nat} (h:k∈depL w i):k<(parts w).length:=by
 have:=List.mem_filter.1 h
 simpa using this.1
def GO (dp:Nat ->List Nat) (ord:List Nat) (i:Nat):Bool:=!ord.contains i &&(dp i).all (ord.contains ·)
def Hj (n:Nat) (dp:Nat ->List Nat) (ord:List Nat):Option Nat:=(List.range n).find? (GO dp ord)
def Gt (n:Nat) (dp:Nat ->List Nat):Nat ->List Nat ->Option (List Nat)
 | 0,ord=>some ord
 | k+1,ord=>match Hj n dp ord with
  | none=>none
  | some i=>Gt n dp k (ord++ [i])
def FN (dp:Nat ->List Nat) (ord:List Nat) (i p:Nat):List Nat:=(List.range p).filter fun k=>(dp i).contains (ord.getD k 0)
structure Grp where
 m:List St
 a:List Nat
noncomputable def grpS (w:Ws) (ord:List Nat):List Grp:=(List.range ord.length).map fun p=>⟨(parts w).getD (ord.getD p 0) [],FN (depL w) ord (ord.getD p 0) p⟩
noncomputable def ordW (w:Ws):Option (List Nat):=Gt (parts w).length (depL w) (parts w).length []
noncomputable def groupsW (w:Ws):List Grp:=match ordW w with
 | none=> []
 | some ord=>grpS w ord
noncomputable def acyW (w:Ws):Bool:=(ordW w).isSome
def Aft (w:Ws) (back:Bool) (a b:St):Prop:=match back with
 | false=>(⟨a,1,b⟩:Lw)∈w.K
 | true=>(⟨b,1,a⟩:Lw)∈w.K
def Stp (w:Ws) (back:Bool) (a b:St):Prop:=KN w a b∨Aft w back a b
open Classical in
noncomputable def cloW (w:Ws) (a:St) (back:Bool):List St:=w.R.filter fun x=>decide (BM (Stp w back) a x)
theorem J1 {w:Ws} {a x:St} {back:Bool}:x∈cloW w a back↔x∈w.R∧BM (Stp w back) a x:=by simp [cloW]
theorem NU {w:Ws} (h:B1 w) (a:St) (back:Bool):Fu (cloW w a back):=List.Pairwise.sublist List.filter_sublist h.srt
end Go.Proofs.YtlmedakidpaeeaaGreat
/- Deletion from a map. No program in sight. -/
namespace Go.Proofs.YtlmedakidpaeeaaGreat
open Go.RowKit Go.ChangeMaps
def Nz {α β:Type} [DecidableEq α] (m:List (α×β)) (a:α):List (α×β):=m.eraseIdx (Df m a)
theorem Oe {α β:Type} (f:α ->β):∀(l:List α) (i:Nat),(l.eraseIdx i).map f=(l.map f).eraseIdx i
 | [],i=>by simp
 | a::l,0=>rfl
 | a::l,i+1=>by simp [Oe f l i]
section
variable {α β:Type} [DecidableEq α]
variable {P:Program} {F:Fr} {s:AS} {K:TypeId} {eK:α ->D} {kv:α ->Value} {eV:β ->D}
variable {ty T T2 E:TypeId} {pos:String} {aft:Array Edge} {g:Option (Nat×Bool)} {x y:Operand} {bs:Option (List Nat×Nat)}
omit [DecidableEq α] in
theorem NM (m:List (α×β)) (i:Nat):Ae eK eV (m.eraseIdx i)=(Ae eK eV m).eraseIdx i:=by
 unfold Ae;exact Oe _ m i
end
abbrev mV (b:Nat):Value:= .map (some b)
abbrev mD (b:Nat):D:= .raw (mV b)
theorem GW {hp:Hp} {f b:Nat} {M:MF} {bs:Option (List Nat×Nat)} {es:List (D×D)} (hM:hfam hp f=some [.multi M]) (hb:M b=some (.map bs es)):hget hp f b=some (.nm b bs es):=by rw [ES hM,hb];rfl
theorem simM {w:World} {O:Nat ->Prop} {ρ:Nat ->Nat ->Value} {b:Nat} {bs:Option (List Nat×Nat)} {es:List (D×D)}:Ab w O ρ (.map bs es) (mV b)↔Ab w O ρ (.nm b bs es) (mV b):=by
 constructor
 ·rintro ⟨m,arr,c,e,h⟩;injection e with e;injection e with e;subst e
  exact ⟨rfl,arr,c,h⟩
 ·rintro ⟨_,arr,c,h⟩;exact ⟨b,arr,c,rfl,h⟩
section
variable {α β:Type} [DecidableEq α]
variable {P:Program} {F:Fr} {s:AS} {K:TypeId} {eK:α ->D} {kv:α ->Value} {eV:β ->D}
variable {d:Nat} {ty T T2 E:TypeId} {pos:String} {aft:Array Edge} {g:Option (Nat×Bool)} {x y z:Operand} {bs:Option (List Nat×Nat)}
theorem SR.mapVN {ρ:Nat ->Nat ->Value} {act:Act} {w:World} (hs:SR F s ρ act w) {f b:Nat} {M:MF} {es:List (D×D)} (hx:s.ev x=some (.d (mD b))) (hM:hfam s.hp f=some [.multi M]) (hb:M b=some (.map bs es)):act.eval x=ρ f b:=
 (hs.raw hx).trans (A7.valE hs hM hb).symm
theorem HY (m:List (α×β)) (a:α) (b0 v:β) {f b:Nat} {M:MF} (hx:s.ev x=some (.d (mD b))) (hM:hfam s.hp f=some [.multi M]) (hb:M b=some (.map bs (Ae eK eV m))) (hy:s.ev y=some (.d (eK a))) (hT:BW P T K E=true) (KT:BT P K eK kv) (hz:C6 P E=some (.d (eV b0))) (hv:CJ m a b0=v) (hd:Nat.blt d s.n=true):
  AA P F ⟨some d,.lookup T x y false,ty,pos,aft,g⟩ s d (.d (eV v)):=
 ML m a b0 v (fun _ _ _ hs=>hs.mapVN hx hM hb) (GW hM hb) rfl hy hT KT hz hv hd
theorem Ng (m:List (α×β)) (a:α) (b0:β) {f b:Nat} {M:MF} (hx:s.ev x=some (.d (mD b))) (hM:hfam s.hp f=some [.multi M]) (hb:M b=some (.map bs (Ae eK eV m))) (hy:s.ev y=some (.d (eK a))) (hT:BW P T K E=true) (KT:BT P K eK kv) (hz:C6 P E=some (.d (eV b0))) (hd:Nat.blt d s.n=true):
  AA P F ⟨some d,.lookup T x y true,ty,pos,aft,g⟩ s d (.tup [.d (eV (CJ m a b0)),.d (.raw (.bool (Ib m a)))]):=
 JE m a b0 (fun _ _ _ hs=>hs.mapVN hx hM hb) (GW hM hb) rfl hy hT KT hz hd
theorem Q1 {es:List (D×D)} {f b n:Nat} {M:MF} (hx:s.ev x=some (.d (mD b))) (hM:hfam s.hp f=some [.multi M]) (hb:M b=some (.map bs es)) (hn:es.length=n) (hT:BW P T K E=true) (hd:Nat.blt d s.n=true):
  AA P F ⟨some d,.call {callee:= .builtin .len,args:= #[x],argTypes:= #[T]},ty,pos,aft,g⟩ s d (.d (.raw (.int .i64 (n:Int)))):=
 PN (fun _ _ _ hs=>hs.mapVN hx hM hb) (GW hM hb) rfl hn hT hd
theorem Q0 (a:α) {b0:AV} (hx:s.ev x=some (.d (.raw (.map none)))) (hy:s.ev y=some (.d (eK a))) (hT:BW P T K E=true) (KT:BT P K eK kv) (hz:C6 P E=some b0) (hd:Nat.blt d s.n=true):
  AA P F ⟨some d,.lookup T x y false,ty,pos,aft,g⟩ s d b0:=
 Bt _ hd fun ρ act w hs=>by
  have e1:act.eval x= .map none:=hs.raw hx;have hk:act.eval y=kv a:=(hs.repD hy).val (KT.val a);obtain ⟨zv,hz1,hz2⟩:=Dj hz w;refine ⟨zv,?_,hz2 _ _ _⟩;have hf:=KT.find w a [] [] rfl
  simp [execOp,Instr.lookup,run_underlying (N7 hT),e1,hk,KT.check,hf,Fb,hz1,Result.andThen]
theorem CV (gf:Nat) {f b c:Nat} {B:List Nat} {M:MF} {es:List (D×D)} {env':List (Nat×AV)} {hp1 hp':List (Nat×List AJ)} (hx:s.ev x=some (.d (mD b))) (hM:hfam s.hp f=some [.multi M]) (hb:M b=some (.map (some (B,c)) es)) (hne:Nat.beq f gf=false) (hT:BW P T K E=true)
  (hE:AO gf s.env=some env') (hH:AN gf s.hp=some hp1) (hn:CE hp1 gf (.iter f b c [])=some hp') (hd:Nat.blt d s.n=true):
  AK P F ⟨some d,.range T x,ty,pos,aft,g⟩ s ⟨s.n,(d,.ptr gf 0 0)::env',hp'⟩ (BG gf):=
 PM gf (fun _ _ _ hs=>hs.mapVN hx hM hb) (GW hM hb) rfl hne hT hE hH hn hd
theorem PL (gf:Nat) {env':List (Nat×AV)} {hp1 hp':List (Nat×List AJ)} (hx:s.ev x=some (.d (.raw (.map none)))) (hT:BW P T K E=true)
  (hE:AO gf s.env=some env') (hH:AN gf s.hp=some hp1) (hn:CE hp1 gf .itz=some hp') (hd:Nat.blt d s.n=true):
  AK P F ⟨some d,.range T x,ty,pos,aft,g⟩ s ⟨s.n,(d,.ptr gf 0 0)::env',hp'⟩ (BG gf):=fun ρ act w hs=>by
 have e1:act.eval x= .map none:=hs.raw hx
 have hrun:(execOp act.eval ⟨some d,.range T x,ty,pos,aft,g⟩).run P w= .ok (.value (.pointer (some ⟨w.heap.size,0,none⟩))) (w.alloc (.mapIter none 0 #[] 0)):=by
  simp [execOp,Instr.range,run_underlying (N7 hT),e1,Result.andThen]
 unfold Oper.wp;rw [hrun];have hsr:=hs.new gf .itz (.pointer (some ⟨w.heap.size,0,none⟩)) (.mapIter none 0 #[] 0) hE hH hn rfl (fun hrep=>⟨w.heap.size,rfl,heap_alloc_new w _⟩);exact ⟨_,hsr.put (Fs hd) (.ptr Jp),fun f i h=>I0 fun e=>Lt h e.1⟩
theorem QY {gf:Nat} (hx:s.ev x=some (.ptr gf 0 0)) (hi:hget s.hp gf 0=some .itz) (hd:Nat.blt d s.n=true):
  AA P F ⟨some d,.next x false,ty,pos,aft,g⟩ s d (.tup [.d (.raw (.bool false))]):=
 Bt _ hd fun ρ act w hs=>by
  obtain ⟨r,q1,q2⟩:=hs.heap.sim gf 0 _ hi
  have hxv:act.eval x= .pointer (some ⟨r,0,none⟩):=by
   have hr:=hs.ev hx
   generalize act.eval x=vx at hr
   cases hr with
   | ptr h=>rw [q1] at h;injection h with h;injection h with h;injection h with h;subst h;rfl
  have hg:∀(w:World),w.heap[r]? =some (.mapIter none 0 #[] 0) ->(getObj r).run P w= .ok (.mapIter none 0 #[] 0) w:=fun w h=>by simp only [getObj,Sem.run,h]
  refine ⟨.tuple #[.bool false],by simp [execOp,Instr.next,hxv,hg w q2,Result.andThen],.tup (vs:=[.bool false]) rfl fun i a v ha hv=>?_⟩;rcases i with _ | i
  ·simp at ha hv;subst ha hv;exact .d (.raw rfl)
  ·simp at ha
omit [DecidableEq α] in
theorem Dv {Q:Exit ->AS ->Prop} {ops:Array Oper} {rest:List Oper} {n:Nat} {env:List (Nat×AV)} {hp:List (Nat×List AJ)} (m:List (α×β)) {gf f b c:Nat} {M:MF} {B seen:List Nat} (hx:AS.ev ⟨n,env,hp⟩ x=some (.ptr gf 0 0)) (hi:hget hp gf 0=some (.iter f b c seen)) (hM:hfam hp f=some [.multi M]) (hb:M b=some (.map (some (B,c)) (Ae eK eV m))) (hd:Nat.blt d n=true)
  (h0:Bi m B seen=[] ->As P F ops rest Q ⟨n,(d,.tup [.d (.raw (.bool false))])::env,hp⟩)
  (h1:∀(j b':Nat) (k:α) (v:β),m[j]? =some (k,v) ->B[j]? =some b' ->B.Nodup ->(Bi m B seen).Perm ((k,v)::Bi m B (seen++ [b'])) ->∃hp',Ay hp gf 0 (.iter f b c (seen++ [b']))=some hp'∧As P F ops rest Q ⟨n,(d,.tup [.d (.raw (.bool true)),.d (eK k),.d (eV v)])::env,hp'⟩):
  As P F ops (⟨some d,.next x false,ty,pos,aft,none⟩::rest) Q ⟨n,env,hp⟩:=
 o_next0 m hx hi (GW hM hb) rfl hd h0 h1
omit [DecidableEq α] in
theorem CX (m:List (α×β)) (j b':Nat) {k:α} {v:β} {gf f b c:Nat} {M:MF} {B seen:List Nat} (hx:s.ev x=some (.ptr gf 0 0)) (hi:hget s.hp gf 0=some (.iter f b c (seen++ [b']))) (hM:hfam s.hp f=some [.multi M]) (hb:M b=some (.map (some (B,c)) (Ae eK eV m))) (hm:m[j]? =some (k,v)) (hB:B[j]? =some b') (hd:Nat.blt d s.n=true):
  AA P F ⟨some d,.entry x,ty,pos,aft,g⟩ s d (.tup [.d (eK k),.d (eV v)]):=
 PO m j b' hx hi (GW hM hb) rfl hm hB hd
theorem SR.birthsN {ρ:Nat ->Nat ->Value} {act:Act} {w:World} (hs:SR F s ρ act w) {f b:Nat} {M:MF} {es:List (D×D)} (hM:hfam s.hp f=some [.multi M]) (hb:M b=some (.map bs es)):∃B c,B.length=es.length∧B.Nodup∧∀hp',BC s.hp f (BU M b (.map (some (B,c)) es))=some hp' ->SR F ⟨s.n,s.env,hp'⟩ ρ act w:=by
 obtain ⟨mb,arr,c,h1,h2,h3,h4,h5,h6,_⟩:=(hs.heap.sim f b _ (GW hM hb)).mapO rfl;have hv:ρ f b=mV b:=A7.valE hs hM hb;rw [hv] at h1;injection h1 with h1;injection h1 with h1;subst h1
 refine ⟨arr.toList.map (·.born),c,by simpa using h3,h5,fun hp' hh=>?_⟩;refine hs.writeM f b hM hb hh Z Z Z Z (fun _ _=>rfl) (by rw [hv];rfl) fun hrep=>(⟨hv,arr,c,h2,h3,fun i e x he hx=>?_,h5,h6,fun B c' e=>by injection e with e;injection e with e1 e2;exact ⟨e1.symm,e2.symm⟩⟩);obtain ⟨g1,g2⟩:=h4 i e x he hx;have q1:=hrep (.d x.1) _ (.d g1);have q2:=hrep (.d x.2) _ (.d g2);exact ⟨by cases q1 with | d h=>exact h,by cases q2 with | d h=>exact h⟩
theorem C4 {Q:Exit ->AS ->Prop} {code:Code} {n:Nat} {env:List (Nat×AV)} {hp:Hp} (f b:Nat) {M:MF} {es:List (D×D)} {hp':List Nat ->Nat ->Hp} (hM:hfam hp f=some [.multi M]) (hb:M b=some (.map bs es)) (hh:∀B c,BC hp f (BU M b (.map (some (B,c)) es))=some (hp' B c)) (h:∀B c,B.length=es.length ->B.Nodup ->B9 P F code Q ⟨n,env,hp' B c⟩):B9 P F code Q ⟨n,env,hp⟩:=fun ρ act w hs=>by
 obtain ⟨B,c,h1,h2,h3⟩:=hs.birthsN hM hb;exact h B c h1 h2 ρ act w (h3 _ (hh B c))
theorem SR.hideN {ρ:Nat ->Nat ->Value} {act:Act} {w:World} (hs:SR F s ρ act w) {f b:Nat} {M:MF} {es:List (D×D)} {hp':Hp} (hM:hfam s.hp f=some [.multi M]) (hb:M b=some (.map bs es)) (hh:BC s.hp f (BU M b (.map none es))=some hp'):SR F ⟨s.n,s.env,hp'⟩ ρ act w:=by
 obtain ⟨mb,arr,c,h1,h2,h3,h4,h5,h6,_⟩:=(hs.heap.sim f b _ (GW hM hb)).mapO rfl;have hv:ρ f b=mV b:=A7.valE hs hM hb;rw [hv] at h1;injection h1 with h1;injection h1 with h1;subst h1
 refine hs.writeM f b hM hb hh Z Z Z Z (fun _ _=>rfl) (by rw [hv];rfl) fun hrep=>(⟨hv,arr,c,h2,h3,fun i e x he hx=>?_,h5,h6,fun B c' e=>by cases e⟩);obtain ⟨g1,g2⟩:=h4 i e x he hx;have q1:=hrep (.d x.1) _ (.d g1);have q2:=hrep (.d x.2) _ (.d g2);exact ⟨by cases q1 with | d h=>exact h,by cases q2 with | d h=>exact h⟩
theorem Cq {Q:Exit ->AS ->Prop} {ops:Array Oper} {l:List Oper} {n:Nat} {env:List (Nat×AV)} {hp hp':Hp} (f b:Nat) {M:MF} {es:List (D×D)} (hM:hfam hp f=some [.multi M]) (hb:M b=some (.map bs es)) (hh:BC hp f (BU M b (.map none es))=some hp') (h:As P F ops l Q ⟨n,env,hp'⟩):As P F ops l Q ⟨n,env,hp⟩:=fun ρ act w hs=>h ρ act w (hs.hideN hM hb hh)
theorem F3 {n:Nat} {env:List (Nat×AV)} {hp hp':Hp} (m:List (α×β)) (a:α) (b:β) {f r:Nat} {M:MF} (hx:AS.ev ⟨n,env,hp⟩ x=some (.d (mD r))) (hM:hfam hp f=some [.multi M]) (hb:M r=some (.map bs (Ae eK eV m))) (hy:AS.ev ⟨n,env,hp⟩ y=some (.d (eK a))) (hT:BW P T K E=true) (KT:BT P K eK kv) (hz:AS.ev ⟨n,env,hp⟩ z=some (.d (eV b)))
  (hh:BC hp f (BU M r (.map none (Ae eK eV (Bq m a b))))=some hp'):AK P F ⟨none,.mapUpdate T x y z,ty,pos,aft,g⟩ ⟨n,env,hp⟩ ⟨n,env,hp'⟩ (fun _ _=>true):=fun ρ act w hs=>by
 obtain ⟨mb,arr,c,e1,e2,h1,h2,h3,h4,h5,h6⟩:=hs.mapAt0 (hs.mapVN hx hM hb) (GW hM hb) rfl;have hv:ρ f r=mV r:=A7.valE hs hM hb;have em:mb=r:=by rw [hv] at e2;injection e2 with e2;injection e2 with e2;exact e2.symm
 subst em;have hk:act.eval y=kv a:=(hs.repD hy).val (KT.val a);have hkr:AM w (F.O ρ hp) (eK a) (kv a):=hk▸hs.repD hy;have hvr:=hs.ev hz
 have fin:∀arr' c',(execOp act.eval ⟨none,.mapUpdate T x y z,ty,pos,aft,g⟩).run P w= .ok .skip (setBlock w mb (.map arr' c')) ->((Df m a=m.length∧arr'=arr.push {key:=kv a,val:=act.eval z,born:=c}∧c'=c+1)∨∃e,arr[Df m a]? =some e∧Df m a<m.length∧arr'=(arr.modify (Df m a) fun e=>{e with key:=kv a,val:=act.eval z})∧c'=c)→
   (⟨none,.mapUpdate T x y z,ty,pos,aft,g⟩:Oper).wp P act w (fun act' w'=>∃ρ',SR F ⟨n,env,hp'⟩ ρ' act' w'∧∀f i,(fun _ _=>true) f i=true ->ρ' f i=ρ f i) (fun _ _ _=>False):=fun arr' c' hrun hcase=>by
  unfold Oper.wp;rw [hrun];refine ⟨ρ,hs.writeM f mb hM hb hh Z Z Z Zcq (fun b' hb'=>Zcu hb') (by rw [hv];rfl) fun hrep=>?_,fun _ _ _=>rfl⟩;rw [e2]
  have hkr':AM (setBlock w mb (.map arr' c')) (F.O ρ hp') (eK a) (kv a):=by
   have:=hrep (.d (eK a)) _ (.d hkr)
   cases this with | d h=>exact h
  exact simM.1 (JI (bs:=none) KT h2 h3 h4 h5 (fun _ _ e=>by cases e) hrep (by have:=hrep _ _ hvr;cases this with | d h=>exact h) hkr' hcase (Co h1))
 rcases hit_get KT h2 h3 a b with ⟨g1,_,_,g4⟩ | ⟨j,e,g1,g2,g3,_,g5,g6,_⟩
 ·refine fin _ _ ?_ (.inl ⟨g4,rfl,rfl⟩)
  simp [execOp,Instr.mapUpdate,run_underlying (N7 hT),e1,hk,MapKept.run_getObj_map h1,KT.check,KT.find w a _ _ (QP KT h2 h3),g1,Result.andThen,MapKept.run_setObj_map _ h1,setBlock]
 ·refine fin _ _ ?_ (.inr ⟨e,by rw [g5];exact g2,by rw [g5];exact g6,rfl,rfl⟩)
  simp [execOp,Instr.mapUpdate,run_underlying (N7 hT),e1,hk,MapKept.run_getObj_map h1,KT.check,KT.find w a _ _ (QP KT h2 h3),g1,g2,g3,g5,Result.andThen,MapKept.run_setObj_map _ h1,setBlock,KT.stays]
theorem Gq {n:Nat} {env:List (Nat×AV)} {hp hp':Hp} (m:List (α×β)) (a:α) (b0:β) {f r:Nat} {M:MF} (hx:AS.ev ⟨n,env,hp⟩ x=some (.d (mD r))) (hM:hfam hp f=some [.multi M]) (hb:M r=some (.map bs (Ae eK eV m))) (hy:AS.ev ⟨n,env,hp⟩ y=some (.d (eK a))) (hT:BW P T K E=true) (KT:BT P K eK kv)
  (hh:BC hp f (BU M r (.map none (Ae eK eV (Nz m a))))=some hp'):AK P F ⟨none,.call {callee:= .builtin .delete,args:= #[x,y],argTypes:= #[T,T2]},ty,pos,aft,g⟩ ⟨n,env,hp⟩ ⟨n,env,hp'⟩ (fun _ _=>true):=fun ρ act w hs=>by
 obtain ⟨mb,arr,c,e1,e2,h1,h2,h3,h4,h5,_⟩:=hs.mapAt0 (hs.mapVN hx hM hb) (GW hM hb) rfl;have hv:ρ f r=mV r:=A7.valE hs hM hb;have em:mb=r:=by rw [hv] at e2;injection e2 with e2;injection e2 with e2;exact e2.symm
 subst em;have hk:act.eval y=kv a:=(hs.repD hy).val (KT.val a)
 have fin:∀arr',(execOp act.eval ⟨none,.call {callee:= .builtin .delete,args:= #[x,y],argTypes:= #[T,T2]},ty,pos,aft,g⟩).run P w= .ok (.value (.tuple #[])) (setBlock w mb (.map arr' c)) ->arr'.toList=arr.toList.eraseIdx (Df m a)→
   (⟨none,.call {callee:= .builtin .delete,args:= #[x,y],argTypes:= #[T,T2]},ty,pos,aft,g⟩:Oper).wp P act w (fun act' w'=>∃ρ',SR F ⟨n,env,hp'⟩ ρ' act' w'∧∀f i,(fun _ _=>true) f i=true ->ρ' f i=ρ f i) (fun _ _ _=>False):=fun arr' hrun hcase=>by
  unfold Oper.wp;rw [hrun];refine ⟨ρ,hs.writeM f mb hM hb hh Z Z Z Zcq (fun b' hb'=>Zcu hb') (by rw [hv];rfl) fun hrep=>?_,fun _ _ _=>rfl⟩;rw [e2];have hsz:arr.toList.length=(Ae eK eV m).length:=by rw [Array.length_toList];exact h2
  refine ⟨rfl,arr',c,Co h1,?_,fun j e z he hz=>?_,?_,?_,fun B c' e=>by cases e⟩
  ·rw [←Array.length_toList,hcase];unfold Nz;rw [NM,List.length_eraseIdx,List.length_eraseIdx,hsz]
  ·rw [←Array.getElem?_toList,hcase,List.getElem?_eraseIdx] at he;unfold Nz at hz;rw [NM,List.getElem?_eraseIdx] at hz
   have hq:∃q:Nat,arr[q]? =some e∧(Ae eK eV m)[q]? =some z:=by
    by_cases hj:j<Df m a
    ·rw [if_pos hj] at he hz;exact ⟨j,by rw [←Array.getElem?_toList];exact he,hz⟩
    ·rw [if_neg hj] at he hz;exact ⟨j+1,by rw [←Array.getElem?_toList];exact he,hz⟩
   obtain ⟨q,q1,q2⟩:=hq;obtain ⟨g1,g2⟩:=h3 q e z q1 q2;have r1:=hrep (.d z.1) _ (.d g1);have r2:=hrep (.d z.2) _ (.d g2);exact ⟨by cases r1 with | d h=>exact h,by cases r2 with | d h=>exact h⟩
  ·rw [hcase];exact List.Nodup.sublist ((List.eraseIdx_sublist _ _).map _) h4
  ·intro e he;rw [hcase] at he;exact h5 e ((List.eraseIdx_sublist _ _).mem he)
 rcases hit_get KT h2 h3 a b0 with ⟨g1,_,_,g4⟩ | ⟨j,e,g1,g2,g3,_,g5,g6,_⟩
 ·refine fin arr ?_ ?_
  ·simp [execOp,resolve,invoke,builtin,Builtin.delete_,run_underlying (N7 hT),e1,hk,MapKept.run_getObj_map h1,KT.check,KT.find w a _ _ (QP KT h2 h3),g1,Result.andThen,MapKept.run_setObj_map _ h1,setBlock]
  ·rw [List.eraseIdx_of_length_le (by rw [g4,Array.length_toList,h2];simp [Ae])]
 ·refine fin (arr.eraseIdxIfInBounds j) ?_ ?_
  ·simp [execOp,resolve,invoke,builtin,Builtin.delete_,run_underlying (N7 hT),e1,hk,MapKept.run_getObj_map h1,KT.check,KT.find w a _ _ (QP KT h2 h3),g1,Result.andThen,MapKept.run_setObj_map _ h1,setBlock]
  ·rw [Array.toList_eraseIdxIfInBounds,g5]
end
theorem SR.absorbM {F:Fr} {s:AS} {ρ:Nat ->Nat ->Value} {act:Act} {w:World} (hs:SR F s ρ act w) (t g f:Nat) {M:MF} {bs:Option (List Nat×Nat)} {es:List (D×D)} {pn:List Nat} {env1 env':List (Nat×AV)} {hp1 hp2 hp3:Hp} {hp':Nat ->Hp} (hF:F.pn=pn) (hpn:memB g pn=false) (hne:Nat.beq g f=false)
  (ht:get s.env t=some (.map g 0)) (hone:hfam s.hp g=some [.map bs es]) (hM:hfam s.hp f=some [.multi M]) (hE:AO g s.env=some env1) (hE2:AO f env1=some env') (hH:AN g s.hp=some hp1) (hH2:AN f hp1=some hp2) (hh:B8 g hp2=some hp3) (hm:∀b,BC hp3 f (BU M b (.map bs es))=some (hp' b)):
  ∃b,M b=none∧SR F ⟨s.n,(t,.d (mD b))::env',hp' b⟩ (Da ρ f b (mV b)) act w:=by
 have hgf:g≠f:=Nat.ne_of_beq_eq_false hne;have ho:hget s.hp g 0=some (.map bs es):=by unfold hget;rw [hone];rfl
 have hso:=hs.heap.sim g 0 _ ho;obtain ⟨b,arr,c,hρ,k1⟩:=hso
 have hMb:M b=none:=by
  cases hmb:M b with
  | none=>rfl
  | some m=>
   have h2:hget s.hp f b=some (m.at_ b):=by rw [ES hM,hmb];rfl
   exact absurd (hs.heap.inj g 0 f b _ _ b ho h2 (by rw [hρ];rfl) (A7.val hs hM hmb)).1 hgf
 obtain ⟨m1,m2,m3,m4⟩:=moved hgf hone rfl hM hMb hH hH2 hh (hm b);refine ⟨b,hMb,hs.move g 0 f b ho (by simp only [ES hM,hMb,Option.map_none]) (by rw [hρ]) (JR hF hpn) m1 m2 m3 m4 (IN hs hE hE2 ?_ rfl) ⟨rfl,arr,c,k1⟩⟩;have hr:=hs.env t _ ht
 generalize act.tmps.getD t undef=x at hr⊢
 cases hr with
 | map h1=>rw [hρ] at h1;injection h1 with h1;injection h1 with h1;subst h1;rfl
section
variable {P:Program} {F:Fr} {Q:Exit ->AS ->Prop} {c:Code} {ops:Array Oper} {l:List Oper} {n:Nat} {env env1 env':List (Nat×AV)} {hp hp1 hp2 hp3:Hp}
theorem IA (t g f:Nat) {M:MF} {bs:Option (List Nat×Nat)} {es:List (D×D)} {pn:List Nat} {hp':Nat ->Hp} (hF:F.pn=pn) (hpn:memB g pn=false) (hne:Nat.beq g f=false) (ht:get env t=some (.map g 0)) (hone:hfam hp g=some [.map bs es]) (hM:hfam hp f=some [.multi M]) (hE:AO g env=some env1) (hE2:AO f env1=some env') (hH:AN g hp=some hp1) (hH2:AN f hp1=some hp2) (hh:B8 g hp2=some hp3) (hm:∀b,BC hp3 f (BU M b (.map bs es))=some (hp' b))
  (h:∀b,M b=none ->B9 P F c Q ⟨n,(t,.d (mD b))::env',hp' b⟩):B9 P F c Q ⟨n,env,hp⟩:=fun ρ act w hs=>by
 obtain ⟨b,hb,hs'⟩:=hs.absorbM t g f hF hpn hne ht hone hM hE hE2 hH hH2 hh hm;exact h b hb _ act w hs'
theorem Hi (t g f:Nat) {M:MF} {bs:Option (List Nat×Nat)} {es:List (D×D)} {pn:List Nat} {hp':Nat ->Hp} (hF:F.pn=pn) (hpn:memB g pn=false) (hne:Nat.beq g f=false) (ht:get env t=some (.map g 0)) (hone:hfam hp g=some [.map bs es]) (hM:hfam hp f=some [.multi M]) (hE:AO g env=some env1) (hE2:AO f env1=some env') (hH:AN g hp=some hp1) (hH2:AN f hp1=some hp2) (hh:B8 g hp2=some hp3) (hm:∀b,BC hp3 f (BU M b (.map bs es))=some (hp' b))
  (h:∀b,M b=none ->As P F ops l Q ⟨n,(t,.d (mD b))::env',hp' b⟩):As P F ops l Q ⟨n,env,hp⟩:=fun ρ act w hs=>by
 obtain ⟨b,hb,hs'⟩:=hs.absorbM t g f hF hpn hne ht hone hM hE hE2 hH hH2 hh hm;exact h b hb _ act w hs'
end
end Go.Proofs.YtlmedakidpaeeaaGreat
/- Two regions become one. No program in sight. -/
namespace Go.Proofs.YtlmedakidpaeeaaGreat
open Go.RowKit
def munion (M N:MF):MF:=fun i=>match M i with
 | some m=>some m
 | none=>N i
theorem HL {M N:MF} {b:Nat} {m:A7} (h:M b=some m):munion M N b=some m:=by unfold munion;rw [h]
theorem HK {M N:MF} {b:Nat} {m:A7} (h0:M b=none) (h:N b=some m):munion M N b=some m:=by unfold munion;rw [h0];exact h
theorem SR.merge {F:Fr} {s:AS} {ρ:Nat ->Nat ->Value} {act:Act} {w:World} (hs:SR F s ρ act w) (g f:Nat) {M N:MF} {env1 env':List (Nat×AV)} {hp1 hp2 hp3 hp':Hp} (hne:Nat.beq g f=false)
  (hM:hfam s.hp f=some [.multi M]) (hN:hfam s.hp g=some [.multi N]) (hE:AO g s.env=some env1) (hE2:AO f env1=some env') (hH:AN g s.hp=some hp1) (hH2:AN f hp1=some hp2) (hh:B8 g hp2=some hp3) (hm:BC hp3 f (munion M N)=some hp'):
  (∀i m m',M i=some m ->N i=some m' ->False)∧∃ρ',SR F ⟨s.n,env',hp'⟩ ρ' act w:=by
 have hgf:g≠f:=Nat.ne_of_beq_eq_false hne
 have hgM:∀i m,M i=some m ->hget s.hp f i=some (m.at_ i)∧ρ f i=m.v i:=fun i m h=>⟨by rw [ES hM,h];rfl,A7.valE hs hM h⟩
 have hgN:∀i m,N i=some m ->hget s.hp g i=some (m.at_ i)∧ρ g i=m.v i:=fun i m h=>⟨by rw [ES hN,h];rfl,A7.valE hs hN h⟩
 have hdis:∀i m m',M i=some m ->N i=some m' ->False:=fun i m m' h1 h2=>by
  obtain ⟨e1,e2⟩:=hgM i m h1;obtain ⟨e3,e4⟩:=hgN i m' h2;exact hgf (hs.heap.inj g i f i _ _ i e3 e1 (by rw [e4];exact A7.v_blk) (by rw [e2];exact A7.v_blk)).1
 have hMi:∀i o,hget s.hp f i=some o ->∃m,M i=some m∧o=m.at_ i:=fun i o h=>by
  rw [ES hM] at h
  cases hm:M i with
  | none=>rw [hm] at h;cases h
  | some m=>rw [hm] at h;injection h with h;exact ⟨m,rfl,h.symm⟩
 have hNi:∀i o,hget s.hp g i=some o ->∃m,N i=some m∧o=m.at_ i:=fun i o h=>by
  rw [ES hN] at h
  cases hm:N i with
  | none=>rw [hm] at h;cases h
  | some m=>rw [hm] at h;injection h with h;exact ⟨m,rfl,h.symm⟩
 obtain ⟨a1,a2⟩:=A9 hH;obtain ⟨c1,c2⟩:=A9 hH2;have hd:=Ew hh;have hg':=By hm
 obtain ⟨vl,hvl⟩:∃vl:Nat ->Value,vl=fun i=>((munion M N i).map (A7.v i)).getD (pV i 0):=⟨_,rfl⟩
 have hvb:∀i,BK (vl i)=some i:=fun i=>by
  rw [hvl];show BK (((munion M N i).map (A7.v i)).getD (pV i 0))=some i
  cases munion M N i with
  | none=>rfl
  | some m=>exact A7.v_blk
 have hvM:∀i m,M i=some m ->vl i=m.v i:=fun i m h=>by rw [hvl];show ((munion M N i).map (A7.v i)).getD (pV i 0)=_;rw [HL h];rfl
 have hvN:∀i m,N i=some m ->vl i=m.v i:=fun i m h=>by
  rw [hvl];show ((munion M N i).map (A7.v i)).getD (pV i 0)=_
  cases hmi:M i with
  | some m'=>exact (hdis i _ _ hmi h).elim
  | none=>rw [HK hmi h];rfl
 refine ⟨hdis,fun f' i=>if f'=f then vl i else ρ f' i,?_⟩
 obtain ⟨ρ',hρ'⟩:∃ρ':Nat ->Nat ->Value,ρ'=fun f' i=>if f'=f then vl i else ρ f' i:=⟨_,rfl⟩
 rw [←hρ'];have hf:∀i,ρ' f i=vl i:=fun i=>by rw [hρ'];exact if_pos rfl
 have ho:∀f' i,f'≠f ->ρ' f' i=ρ f' i:=fun f' i e=>by rw [hρ'];exact if_neg e
 -- what lies in the new heap
 have hnew:∀f' i o',hget hp' f' i=some o' ->(f'=f∧∃m,o'=m.at_ i∧((M i=some m)∨(N i=some m)))∨(f'≠f∧f'≠g∧∃o,hget s.hp f' i=some o∧(∀w O ρ v,Ab w O ρ o v ->Ab w O ρ o' v)∧∀j,¬o'.Refs f j):=by
  intro f' i o' hq;rw [hg'] at hq
  by_cases e:f'=f
  ·subst e;rw [if_pos rfl] at hq
   cases hmi:M i with
   | some m=>
    rw [HL hmi] at hq;injection hq with hq
    exact .inl ⟨rfl,m,hq.symm,.inl rfl⟩
   | none=>
    cases hni:N i with
    | none=>
     have:munion M N i=none:=by unfold munion;rw [hmi];exact hni
     rw [this] at hq;cases hq
    | some m=>
     rw [HK hmi hni] at hq;injection hq with hq
     exact .inl ⟨rfl,m,hq.symm,.inr rfl⟩
  ·rw [if_neg e,hd] at hq
   split at hq
   ·cases hq
   ·rename_i e3
    obtain ⟨o2,q1,q2⟩:=c1 _ _ _ hq;obtain ⟨o3,q3,q4⟩:=a1 _ _ _ q1;exact .inr ⟨e,e3,o3,q3,fun w O ρ v h=>q2.1 _ _ _ _ (q4.1 _ _ _ _ h),fun j hr=>Lt (q2.2.1 _ _ hr) rfl⟩
 have hold:∀f' i o,hget s.hp f' i=some o ->f'≠f ->f'≠g ->∃o',hget hp' f' i=some o':=fun f' i o hq e1 e2=>by
  obtain ⟨o2,q1,_⟩:=a2 _ _ _ hq;obtain ⟨o3,q3,_⟩:=c2 _ _ _ q1;exact ⟨o3,by rw [hg',if_neg e1,hd,if_neg e2];exact q3⟩
 have holdM:∀i m,M i=some m∨N i=some m ->hget hp' f i=some (m.at_ i):=fun i m h=>by
  rw [hg',if_pos rfl];rcases h with h | h
  ·rw [HL h];rfl
  ·cases hmi:M i with
   | some m'=>exact (hdis i _ _ hmi h).elim
   | none=>rw [HK hmi h];rfl
 have hown:∀b,Al ρ' hp' b↔Al ρ s.hp b:=fun b=>by
  constructor
  ·rintro ⟨f',i,o',hq,hbk⟩;rcases hnew f' i o' hq with ⟨rfl,m,rfl,h | h⟩ | ⟨e1,e2,o,h1,_⟩
   ·rw [hf,hvM i m h] at hbk;obtain ⟨q1,q2⟩:=hgM i m h;exact ⟨f',i,_,q1,by rw [q2];exact hbk⟩
   ·rw [hf,hvN i m h] at hbk;obtain ⟨q1,q2⟩:=hgN i m h;exact ⟨g,i,_,q1,by rw [q2];exact hbk⟩
   ·rw [ho _ _ e1] at hbk;exact ⟨f',i,o,h1,hbk⟩
  ·rintro ⟨f',i,o,hq,hbk⟩
   by_cases e1:f'=f
   ·subst e1;obtain ⟨m,h1,rfl⟩:=hMi i o hq;exact ⟨f',i,_,holdM i m (.inl h1),by rw [hf,hvM i m h1];rw [(hgM i m h1).2] at hbk;exact hbk⟩
   ·by_cases e2:f'=g
    ·subst e2;obtain ⟨m,h1,rfl⟩:=hNi i o hq;exact ⟨f,i,_,holdM i m (.inr h1),by rw [hf,hvN i m h1];rw [(hgN i m h1).2] at hbk;exact hbk⟩
    ·obtain ⟨o',h3⟩:=hold f' i o hq e1 e2;exact ⟨f',i,o',h3,by rw [ho _ _ e1];exact hbk⟩
 have hO:F.O ρ' hp'=F.O ρ s.hp:=funext fun b=>propext ⟨fun h=>h.imp id (hown b).1,fun h=>h.imp id (hown b).2⟩
 have hblk:∀f' i t cs,hget hp' f' i=some (.blk t cs) ->f'≠f:=fun f' i t cs hq e=>by
  rcases hnew f' i _ hq with ⟨_,m,e1,_⟩ | ⟨e1,_⟩
  ·exact A7.notBlk e1.symm
  ·exact e1 e
 refine ⟨hs.size,hO▸hs.defs,fun t a hta=>?_,?_⟩
 ·show AP w (F.O ρ' hp') _ _ _;rw [hO];rcases Ax hE2 hta with rfl | ⟨h3,h4⟩
  ·exact .top
  ·rcases Ax hE h3 with rfl | ⟨h5,_⟩
   ·exact .top
   ·exact (hs.env t _ h5).mono (Nat.le_refl _) (fun _ _ _=>rfl) (fun _ _ h=>h) fun f' i hr=>ho f' i fun e=>h4 i (by rw [←e];exact hr)
 ·refine ⟨fun f' i o' hq=>?_,fun f1 i1 f2 i2 o1 o2 b h1 h2 hb1 hb2=>?_,fun b hbk=>hs.heap.mine b ((hown b).1 hbk),hs.heap.os,hs.heap.tape,hs.heap.output,hs.heap.size0,hs.heap.keep,fun f' i b hpin=>?_,hs.heap.drawn⟩
  ·show Ab w (F.O ρ' hp') _ _ _;rw [hO];rcases hnew f' i o' hq with ⟨rfl,m,rfl,h⟩ | ⟨e1,e2,o,h1,h2,h3⟩
   ·rw [hf]
    have hsm:Ab w (F.O ρ s.hp) ρ (m.at_ i) (vl i):=by
     rcases h with h | h
     ·obtain ⟨q1,q2⟩:=hgM i m h;rw [hvM i m h,←q2];exact hs.heap.sim _ _ _ q1
     ·obtain ⟨q1,q2⟩:=hgN i m h;rw [hvN i m h,←q2];exact hs.heap.sim _ _ _ q1
    exact hsm.mono (Nat.le_refl _) (fun _ _ _=>rfl) (fun _ _ h=>h) (fun _ _=>rfl) fun f'' i' hr=>(A7.norefs hr).elim
   ·rw [ho _ _ e1];exact (h2 _ _ _ _ (hs.heap.sim f' i o h1)).mono (Nat.le_refl _) (fun _ _ _=>rfl) (fun _ _ h=>h) (fun _ _=>rfl) fun f'' i' hr=>ho f'' i' fun e=>h3 i' (by rw [←e];exact hr)
  ·rcases hnew f1 i1 o1 h1 with ⟨rfl,m1,rfl,k1⟩ | ⟨e1,e1',q1,k1,_⟩<;>rcases hnew f2 i2 o2 h2 with ⟨rfl,m2,rfl,k2⟩ | ⟨e2,e2',q2,k2,_⟩
   ·rw [hf,hvb] at hb1 hb2;injection hb1 with hb1;injection hb2 with hb2
    exact ⟨rfl,Eq.trans hb1 hb2.symm⟩
   ·rw [hf,hvb] at hb1;rw [ho _ _ e2] at hb2
    exfalso
    rcases k1 with k1 | k1
    ·obtain ⟨r1,r2⟩:=hgM i1 m1 k1;exact e2 (hs.heap.inj _ _ _ _ _ _ b k2 r1 hb2 (by rw [r2,A7.v_blk];exact hb1)).1
    ·obtain ⟨r1,r2⟩:=hgN i1 m1 k1;exact e2' (hs.heap.inj _ _ _ _ _ _ b k2 r1 hb2 (by rw [r2,A7.v_blk];exact hb1)).1
   ·rw [hf,hvb] at hb2;rw [ho _ _ e1] at hb1
    exfalso
    rcases k2 with k2 | k2
    ·obtain ⟨r1,r2⟩:=hgM i2 m2 k2;exact e1 (hs.heap.inj _ _ _ _ _ _ b k1 r1 hb1 (by rw [r2,A7.v_blk];exact hb2)).1
    ·obtain ⟨r1,r2⟩:=hgN i2 m2 k2;exact e1' (hs.heap.inj _ _ _ _ _ _ b k1 r1 hb1 (by rw [r2,A7.v_blk];exact hb2)).1
   ·rw [ho _ _ e1] at hb1;rw [ho _ _ e2] at hb2;exact hs.heap.inj _ _ _ _ _ _ b k1 k2 hb1 hb2
  ·obtain ⟨r1,t,cs,r2⟩:=hs.heap.pins f' i b hpin;have e1:f'≠f:=fun e=>by subst e;obtain ⟨m,_,h2⟩:=hMi i _ r2;exact A7.notBlk h2.symm
   have e2:f'≠g:=fun e=>by subst e;obtain ⟨m,_,h2⟩:=hNi i _ r2;exact A7.notBlk h2.symm
   obtain ⟨o2,q1,q2⟩:=a2 _ _ _ r2;obtain ⟨cs2,rfl⟩:=q2.2.2.1 _ _ rfl;obtain ⟨o3,q3,q4⟩:=c2 _ _ _ q1;obtain ⟨cs3,rfl⟩:=q4.2.2.1 _ _ rfl;exact ⟨by rw [ho _ _ e1];exact r1,t,cs3,by rw [hg',if_neg e1,hd,if_neg e2];exact q3⟩
section
variable {P:Program} {F:Fr} {Q:Exit ->AS ->Prop} {c:Code} {ops:Array Oper} {l:List Oper} {n:Nat} {env env1 env':List (Nat×AV)} {hp hp1 hp2 hp3 hp':Hp}
theorem a_merge (g f:Nat) {M N:MF} (hne:Nat.beq g f=false) (hM:hfam hp f=some [.multi M]) (hN:hfam hp g=some [.multi N]) (hE:AO g env=some env1) (hE2:AO f env1=some env') (hH:AN g hp=some hp1) (hH2:AN f hp1=some hp2) (hh:B8 g hp2=some hp3) (hm:BC hp3 f (munion M N)=some hp')
  (h:(∀i m m',M i=some m ->N i=some m' ->False) ->B9 P F c Q ⟨n,env',hp'⟩):B9 P F c Q ⟨n,env,hp⟩:=fun ρ act w hs=>by
 obtain ⟨hd,ρ',hs'⟩:=hs.merge g f hne hM hN hE hE2 hH hH2 hh hm;exact h hd ρ' act w hs'
end
end Go.Proofs.YtlmedakidpaeeaaGreat
/- Layer 27, plain: the order of groups; closures by groups. No program in sight. -/
namespace Go.Proofs.YtlmedakidpaeeaaGreat
theorem Ca {dp:Nat ->List Nat} {ord:List Nat} {i:Nat}:GO dp ord i=true↔i∉ord∧∀k∈dp i,k∈ord:=by
 simp [GO]
theorem Eb {n:Nat} {dp:Nat ->List Nat} {ord:List Nat} {i:Nat} (h:Hj n dp ord=some i):i<n∧i∉ord∧∀k∈dp i,k∈ord:=by
 unfold Hj at h;have h1:=List.mem_of_find?_eq_some h;have h2:=List.find?_some h;exact ⟨by simpa using h1,Ca.1 h2⟩
theorem Pk {n:Nat} {dp:Nat ->List Nat} {ord:List Nat} (h:Hj n dp ord=none) {i:Nat} (hi:i<n) (ho:i∉ord):∃k∈dp i,k∉ord:=by
 have h1:=List.find?_eq_none.1 h i (by simpa using hi);rw [Ca] at h1;refine Classical.byContradiction fun h2=>h1 ⟨ho,fun k hk=>Classical.byContradiction fun h3=>h2 ⟨k,hk,h3⟩⟩
theorem Ep {n:Nat} {dp:Nat ->List Nat} {ord:List Nat} {i:Nat} (hi:i<n) (h:GO dp ord i=true) (hm:∀j,j<i ->GO dp ord j=false):Hj n dp ord=some i:=by
 unfold Hj;rw [List.find?_eq_some_iff_getElem];refine ⟨h,i,by simpa using hi,by simp,fun j hj=>?_⟩
 simp [hm j hj]
theorem Mj {n:Nat} {dp:Nat ->List Nat} {ord:List Nat} (hm:∀j,j<n ->GO dp ord j=false):Hj n dp ord=none:=by
 unfold Hj;rw [List.find?_eq_none];intro j hj
 simp [hm j (by simpa using hj)]
structure Cg (n:Nat) (dp:Nat ->List Nat) (ord:List Nat):Prop where
 nd:ord.Nodup
 lt:∀i∈ord,i<n
 dep:∀(p i:Nat),ord[p]? =some i ->∀k∈dp i,k∈ord.take p
theorem Cg.nil {n:Nat} {dp:Nat ->List Nat}:Cg n dp []:=⟨List.nodup_nil,(fun _ h=>by cases h),(fun _ _ h=>by simp at h)⟩
theorem Cg.snoc {n:Nat} {dp:Nat ->List Nat} {ord:List Nat} (h:Cg n dp ord) {i:Nat} (hi:i<n) (ho:i∉ord) (hd:∀k∈dp i,k∈ord):Cg n dp (ord++ [i]):=by
 refine ⟨?_,fun j hj=>?_,fun p j hj k hk=>?_⟩
 ·rw [List.nodup_append];refine ⟨h.nd,by simp,fun x hx y hy e=>?_⟩
  simp at hy;subst hy;subst e;exact ho hx
 ·rcases List.mem_append.1 hj with hj | hj
  ·exact h.lt j hj
  ·simp at hj;subst hj;exact hi
 ·by_cases hp:p<ord.length
  ·rw [List.getElem?_append_left hp] at hj;rw [List.take_append_of_le_length (Nat.le_of_lt hp)];exact h.dep p j hj k hk
  ·have hp2:p=ord.length:=by
    have:=(List.getElem?_eq_some_iff.1 hj).1
    simp at this;omega
   subst hp2;rw [List.getElem?_append_right (Nat.le_refl _)] at hj
   simp at hj;subst hj
   rw [List.take_append_of_le_length (Nat.le_refl _),List.take_length];exact hd k hk
theorem Cg.len {n:Nat} {dp:Nat ->List Nat} {ord:List Nat} (h:Cg n dp ord):ord.length≤n:=by
 have:=h.nd.length_le_of_subset (l₂:=List.range n) fun i hi=>by simpa using h.lt i hi
 simpa using this
theorem Cg.all {n:Nat} {dp:Nat ->List Nat} {ord:List Nat} (h:Cg n dp ord) (hn:ord.length=n) {i:Nat} (hi:i<n):i∈ord:=by
 refine Classical.byContradiction fun ho=>?_;have hn2:(i::ord).Nodup:=List.nodup_cons.2 ⟨ho,h.nd⟩
 have:=hn2.length_le_of_subset (l₂:=List.range n) fun j hj=>by
  rcases List.mem_cons.1 hj with rfl | hj
  ·simpa using hi
  ·simpa using h.lt j hj
 simp at this;omega
theorem K0 {n:Nat} {dp:Nat ->List Nat}:∀(k:Nat) (ord r:List Nat),Cg n dp ord ->Gt n dp k ord=some r ->Cg n dp r∧r.length=ord.length+k
 | 0,ord,r,h,hr=>by simp only [Gt,Option.some.injEq] at hr;subst hr;exact ⟨h,rfl⟩
 | k+1,ord,r,h,hr=>by
  simp only [Gt] at hr
  split at hr
  ·cases hr
  ·rename_i i hi
   obtain ⟨h1,h2,h3⟩:=Eb hi;obtain ⟨g1,g2⟩:=K0 k _ r (h.snoc h1 h2 h3) hr;exact ⟨g1,by rw [g2];simp;omega⟩
def BadO (n:Nat) (dp:Nat ->List Nat) (X:Nat ->Prop):Prop:=(∃i,X i)∧∀i,X i ->i<n∧∃k∈dp i,X k
theorem MP {n:Nat} {dp:Nat ->List Nat} (hdp:∀i k,k∈dp i ->k<n):∀(k:Nat) (ord:List Nat),Cg n dp ord ->ord.length+k=n ->Gt n dp k ord=none ->∃X,BadO n dp X
 | 0,ord,_,_,hr=>by simp [Gt] at hr
 | k+1,ord,h,hl,hr=>by
  simp only [Gt] at hr
  split at hr
  ·rename_i hn
   refine ⟨fun i=>i<n∧i∉ord,?_,fun i hi=>?_⟩
   ·refine Classical.byContradiction fun hne=>?_;have:∀i,i<n ->i∈ord:=fun i hi=>Classical.byContradiction fun ho=>hne ⟨i,hi,ho⟩;have h2:=List.nodup_range.length_le_of_subset (l₁:=List.range n) (l₂:=ord) fun i hi=>this i (by simpa using hi)
    simp at h2;omega
   ·obtain ⟨j,h1,h2⟩:=Pk hn hi.1 hi.2;exact ⟨hi.1,j,h1,hdp i j h1,h2⟩
  ·rename_i i hi
   obtain ⟨h1,h2,h3⟩:=Eb hi;exact MP hdp k _ (h.snoc h1 h2 h3) (by simp;omega) hr
theorem Cg.noBad {n:Nat} {dp:Nat ->List Nat} {ord:List Nat} (h:Cg n dp ord) (hn:ord.length=n) {X:Nat ->Prop} (hX:BadO n dp X):False:=by
 have key:∀(p i:Nat),ord[p]? =some i ->¬X i:=by
  intro p
  induction p using Nat.strongRecOn with
  | _ p ih=>
   intro i hi hx;obtain ⟨_,k,hk,hxk⟩:=hX.2 i hx;have hm:=h.dep p i hi k hk;obtain ⟨q,hq,e⟩:=List.getElem_of_mem hm;rw [List.length_take] at hq;rw [List.getElem_take] at e;refine ih q (by omega) k ?_ hxk;rw [List.getElem?_eq_getElem (by omega),e]
 obtain ⟨i,hi⟩:=hX.1;obtain ⟨p,hp,e⟩:=List.getElem_of_mem (h.all hn (hX.2 i hi).1);exact key p i (by rw [List.getElem?_eq_getElem hp,e]) hi
theorem Pc {w:Ws} {ord:List Nat} (ho:ordW w=some ord):Cg (parts w).length (depL w) ord∧ord.length=(parts w).length:=by
 have:=K0 _ _ _ Cg.nil ho
 simpa using this
theorem SU {w:Ws}:acyW w=true↔¬∃X,BadO (parts w).length (depL w) X:=by
 unfold acyW
 cases ho:ordW w with
 | none=>
  simp only [Option.isSome_none,Bool.false_eq_true,false_iff,Classical.not_not];exact MP (fun i k h=>GL h) _ _ Cg.nil (by simp) ho
 | some ord=>
  obtain ⟨h1,h2⟩:=Pc ho;simp only [Option.isSome_some,true_iff];rintro ⟨X,hX⟩;exact h1.noBad h2 hX
def BadW (w:Ws) (Y:St ->Prop):Prop:=(∃x,Y x)∧∀x,Y x ->x∈w.R∧∃l∈w.K,l.t=1∧Gm w x l.f∧¬Gm w l.f l.r∧Y l.r
theorem Fm {w:Ws} (h:B1 w):acyW w=true↔¬∃Y,BadW w Y:=by
 rw [SU];refine not_congr ⟨fun ⟨X,hX⟩=>?_,fun ⟨Y,hY⟩=>?_⟩
 ·refine ⟨fun x=>x∈w.R∧X (idx w x),?_,fun x hx=>?_⟩
  ·obtain ⟨i,hi⟩:=hX.1;obtain ⟨hlt,k,hk,hxk⟩:=hX.2 i hi;obtain ⟨_,l,hl,_,e1,_⟩:=(CK h).1 hk;exact ⟨l.f,(h.lk l hl).1,by rw [e1];exact hi⟩
  ·obtain ⟨_,k,hk,hxk⟩:=hX.2 _ hx.2;obtain ⟨hne,l,hl,ht,e1,e2⟩:=(CK h).1 hk;obtain ⟨hf,hr,_,_⟩:=h.lk l hl;refine ⟨hx.1,l,hl,ht,(DR h hx.1 hf).1 e1.symm,fun hc=>?_,hr,by rw [e2];exact hxk⟩;exact hne (by rw [←e1,←e2];exact (DR h hf hr).2 hc)
 ·refine ⟨fun i=>∃x,Y x∧idx w x=i,?_,?_⟩
  ·obtain ⟨x,hx⟩:=hY.1;exact ⟨_,x,hx,rfl⟩
  ·rintro i ⟨x,hx,rfl⟩;obtain ⟨hm,l,hl,ht,hc,hn,hy⟩:=hY.2 x hx;obtain ⟨hf,hr,_,_⟩:=h.lk l hl;refine ⟨EI h hm,idx w l.r,(CK h).2 ⟨fun e=>?_,l,hl,ht,((DR h hm hf).2 hc).symm,rfl⟩,l.r,hy,rfl⟩;exact hn ((DR h hf hr).1 (((DR h hm hf).2 hc).symm.trans e))
noncomputable def nxW (w:Ws) (back:Bool) (i:Nat):List Nat:=match back with
 | false=>depL w i
 | true=>(List.range (parts w).length).filter fun k=>(depL w k).contains i
theorem LX {w:Ws} (h:B1 w) {back:Bool} {i k:Nat}:k∈nxW w back i↔(match back with | false=>Dep w i k | true=>Dep w k i):=by
 cases back with
 | false=>exact CK h
 | true=>
  simp only [nxW,List.mem_filter,List.mem_range,List.contains_iff_mem];rw [CK h];refine ⟨fun h=>h.2,fun hd=>⟨?_,hd⟩⟩;obtain ⟨_,l,hl,_,e,_⟩:=hd;rw [←e];exact EI h (h.lk l hl).1
theorem RO {w:Ws} {back:Bool} {i k:Nat} (hk:k∈nxW w back i):k<(parts w).length:=by
 cases back with
 | false=>exact GL hk
 | true=>have:=(List.mem_filter.1 hk).1;simpa using this
theorem nxW_srt (w:Ws) (back:Bool) (i:Nat):(nxW w back i).Pairwise (· < ·):=by
 cases back with
 | false=>exact Ff w i
 | true=>exact List.Pairwise.sublist List.filter_sublist List.pairwise_lt_range
theorem HG (w:Ws) (back:Bool) (i:Nat):(nxW w back i).length≤(parts w).length:=by
 have h1:(nxW w back i).Nodup:=(nxW_srt w back i).imp fun h e=>by omega
 have:=h1.length_le_of_subset (l₂:=List.range (parts w).length) fun k hk=>by simpa using RO hk
 simpa using this
theorem Oq {w:Ws} (h:B1 w) {back:Bool} {a x:St} (ha:a∈w.R) (hx:x∈w.R):BM (Stp w back) a x↔BM (fun i k=>k∈nxW w back i) (idx w a) (idx w x):=by
 constructor
 ·intro hs
  have key:∀y,BM (Stp w back) a y ->y∈w.R∧BM (fun i k=>k∈nxW w back i) (idx w a) (idx w y):=by
   intro y hy
   induction hy with
   | refl=>exact ⟨ha,.refl⟩
   | @tail b c _ h2 ih=>
    obtain ⟨hb,hs⟩:=ih;rcases h2 with h2 | h2
    ·have hc:=(h2.mem h).2;have:idx w b=idx w c:=(DR h hb hc).2 (.one h2);exact ⟨hc,this▸hs⟩
    ·have hm:c∈w.R∧(idx w b≠idx w c ->idx w c∈nxW w back (idx w b)):=by
      cases back with
      | false=>
       have hl:=h.lk _ h2;exact ⟨hl.2.1,fun hne=>(LX h).2 ⟨hne,_,h2,rfl,rfl,rfl⟩⟩
      | true=>
       have hl:=h.lk _ h2;exact ⟨hl.1,fun hne=>(LX h).2 ⟨hne.symm,_,h2,rfl,rfl,rfl⟩⟩
     refine ⟨hm.1,?_⟩
     by_cases e:idx w b=idx w c
     ·exact e▸hs
     ·exact hs.tail (hm.2 e)
  exact (key x hs).2
 ·intro hs
  have key:∀j,BM (fun i k=>k∈nxW w back i) (idx w a) j ->∀y∈w.R,idx w y=j ->BM (Stp w back) a y:=by
   intro j hj
   induction hj with
   | refl=>exact fun y hy e=>BM.mono (fun _ _ h=> .inl h) ((DR h ha hy).1 e.symm)
   | @tail j k _ h2 ih=>
    intro y hy e;have hd:=(LX h).1 h2
    cases back with
    | false=>
     obtain ⟨_,l,hl,ht,e1,e2⟩:=hd;obtain ⟨hf,hr,_,_⟩:=h.lk l hl;have s1:=ih l.f hf e1;have hl':(⟨l.f,1,l.r⟩:Lw)∈w.K:=by rw [←ht];exact hl
     exact (s1.tail (.inr hl')).trans (BM.mono (fun _ _ h=> .inl h) ((DR h hr hy).1 (e2.trans e.symm)))
    | true=>
     obtain ⟨_,l,hl,ht,e1,e2⟩:=hd;obtain ⟨hf,hr,_,_⟩:=h.lk l hl;have s1:=ih l.r hr e2;have hl':(⟨l.f,1,l.r⟩:Lw)∈w.K:=by rw [←ht];exact hl
     exact (s1.tail (.inr hl')).trans (BM.mono (fun _ _ h=> .inl h) ((DR h hf hy).1 (e1.trans e.symm)))
  exact key _ hs x hx rfl
noncomputable def addW (w:Ws) (s:St):Ws×Int:=
 if s.length<1∨64<s.length then (w,6) else if s∈w.R then (w,7) else if 4096≤w.R.length then (w,8) else (⟨BI w.R s,w.K⟩,0)
def FA (w:Ws) (s:St):Ws:=⟨w.R.filter fun x=>!decide (x=s),w.K.filter fun l=>!decide (l.f=s) && !decide (l.r=s)⟩
noncomputable def remW (w:Ws) (s:St):Ws×Int:=if s∉w.R then (w,9) else if acyW (FA w s)=true then (FA w s,0) else (w,26)
def B3 (w:Ws) (l:Lw):Ws:=⟨w.R,w.K++ [l]⟩
noncomputable def lnkW (w:Ws) (l:Lw):Ws×Int:=
 if l.t≠0∧l.t≠1 then (w,11) else if l.f∉w.R∨l.r∉w.R then (w,9) else if l.f=l.r then (w,26) else if l∈w.K then (w,7) else if acyW (B3 w l)=true then (B3 w l,0) else (w,26)
def C8 (w:Ws) (l:Lw):Ws:=⟨w.R,w.K.filter fun x=>!decide (x=l)⟩
noncomputable def unlW (w:Ws) (l:Lw):Ws×Int:=if l∉w.K then (w,9) else if acyW (C8 w l)=true then (C8 w l,0) else (w,26)
theorem B1.add {w:Ws} (h:B1 w) {s:St} (hs:s∉w.R) (hn:¬4096≤w.R.length):B1 ⟨BI w.R s,w.K⟩:=
 ⟨JG h.srt hs,h.nd,fun l hl=>let ⟨a,b,c⟩:=h.lk l hl;⟨LD.2 (.inr a),LD.2 (.inr b),c⟩,by show (BI w.R s).length≤_;rw [DE];omega⟩
theorem B1.cut {w:Ws} (h:B1 w) (s:St):B1 (FA w s):=by
 refine ⟨List.Pairwise.sublist List.filter_sublist h.srt,List.Nodup.sublist List.filter_sublist h.nd,fun l hl=>?_,Nat.le_trans (List.length_filter_le _ _) h.few⟩;obtain ⟨h1,h2⟩:=List.mem_filter.1 hl;obtain ⟨a,b,c⟩:=h.lk l h1
 simp at h2
 exact ⟨List.mem_filter.2 ⟨a,by simpa using h2.1⟩,List.mem_filter.2 ⟨b,by simpa using h2.2⟩,c⟩
theorem B1.with_ {w:Ws} (h:B1 w) {l:Lw} (ht:l.t=0∨l.t=1) (hf:l.f∈w.R) (hr:l.r∈w.R) (hne:l.f≠l.r) (hn:l∉w.K):B1 (B3 w l):=by
 refine ⟨h.srt,?_,fun x hx=>?_,h.few⟩
 ·show (w.K++ [l]).Nodup;rw [List.nodup_append];refine ⟨h.nd,by simp,fun x hx y hy e=>?_⟩
  simp at hy;subst hy;subst e;exact hn hx
 ·rcases List.mem_append.1 hx with hx | hx
  ·exact h.lk x hx
  ·simp at hx;subst hx;exact ⟨hf,hr,hne,ht⟩
theorem B1.sans {w:Ws} (h:B1 w) (l:Lw):B1 (C8 w l):=
 ⟨h.srt,List.Nodup.sublist List.filter_sublist h.nd,fun x hx=>h.lk x (List.mem_filter.1 hx).1,h.few⟩
theorem acy_add {w:Ws} (h:B1 w) {s:St} (hs:s∉w.R) (hn:¬4096≤w.R.length) (ha:acyW w=true):acyW ⟨BI w.R s,w.K⟩=true:=by
 rw [Fm (h.add hs hn)];rw [Fm h] at ha;rintro ⟨Y,h1,h2⟩;have hc:∀{x y},Gm ⟨BI w.R s,w.K⟩ x y ->Gm w x y:=fun h=>h
 have hsY:¬Y s:=fun hy=>by
  obtain ⟨_,l,hl,_,hcf,_⟩:=h2 s hy;have hls:=(h.lk l hl).1;have hcf':Gm w l.f s:=Gm.symm (hc hcf);exact hs (Gm.mem h hls hcf')
 refine ha ⟨Y,h1,fun x hx=>?_⟩;obtain ⟨hm,l,hl,ht,hcf,hnc,hy⟩:=h2 x hx;rcases LD.1 hm with rfl | hm
 ·exact absurd hx hsY
 ·exact ⟨hm,l,hl,ht,hcf,hnc,hy⟩
structure DH (w:Ws) (n:Nat):Prop where
 ok:B1 w
 acy:acyW w=true
 nR:w.R.length≤n
 nK:w.K.length≤n
 len:∀s∈w.R,s.length≤64
theorem Qy:ordW ⟨[],[]⟩=some []:=by simp [ordW,parts,Gt]
theorem DH.nil:DH ⟨[],[]⟩ 0:=⟨⟨List.Pairwise.nil,List.nodup_nil,(fun _ h=>by cases h),Nat.zero_le _⟩,by simp [acyW,Qy],Nat.le_refl _,Nat.le_refl _,(fun _ h=>by cases h)⟩
theorem DH.mono {w:Ws} {n m:Nat} (h:DH w n) (hm:n≤m):DH w m:=⟨h.ok,h.acy,Nat.le_trans h.nR hm,Nat.le_trans h.nK hm,h.len⟩
theorem DH.add {w:Ws} {n:Nat} (h:DH w n) (s:St):DH (addW w s).1 (n+1):=by
 unfold addW
 split
 ·exact h.mono (Nat.le_succ _)
 split
 ·exact h.mono (Nat.le_succ _)
 split
 ·exact h.mono (Nat.le_succ _)
 rename_i h1 h2 h3
 refine ⟨h.ok.add h2 h3,acy_add h.ok h2 h3 h.acy,?_,Nat.le_succ_of_le h.nK,fun x hx=>?_⟩
 ·show (BI w.R s).length≤_;have:=h.nR;rw [DE];omega
 ·rcases LD.1 hx with rfl | hx
  ·omega
  ·exact h.len x hx
theorem DH.rem {w:Ws} {n:Nat} (h:DH w n) (s:St):DH (remW w s).1 n:=by
 unfold remW
 split
 ·exact h
 split
 ·rename_i ha
  exact ⟨h.ok.cut s,ha,Nat.le_trans (List.length_filter_le _ _) h.nR,Nat.le_trans (List.length_filter_le _ _) h.nK,fun x hx=>h.len x (List.mem_filter.1 hx).1⟩
 ·exact h
theorem DH.lnk {w:Ws} {n:Nat} (h:DH w n) (l:Lw):DH (lnkW w l).1 (n+1):=by
 unfold lnkW
 split
 ·exact h.mono (Nat.le_succ _)
 split
 ·exact h.mono (Nat.le_succ _)
 split
 ·exact h.mono (Nat.le_succ _)
 split
 ·exact h.mono (Nat.le_succ _)
 split
 ·rename_i h1 h2 h3 h4 ha
  refine ⟨h.ok.with_ (by omega) (Classical.byContradiction fun hh=>h2 (.inl hh)) (Classical.byContradiction fun hh=>h2 (.inr hh)) h3 h4,ha,Nat.le_succ_of_le h.nR,?_,h.len⟩;show (w.K++ [l]).length≤_;have:=h.nK
  simp;omega
 ·exact h.mono (Nat.le_succ _)
theorem DH.unl {w:Ws} {n:Nat} (h:DH w n) (l:Lw):DH (unlW w l).1 n:=by
 unfold unlW
 split
 ·exact h
 split
 ·rename_i ha
  exact ⟨h.ok.sans l,ha,h.nR,Nat.le_trans (List.length_filter_le _ _) h.nK,h.len⟩
 ·exact h
theorem KY {w:Ws} {l:Lw} (hn:l∉w.K):C8 (B3 w l) l=w:=by
 obtain ⟨R,K⟩:=w;unfold C8 B3
 congr 1
 rw [List.filter_append,List.filter_eq_self.2 fun x hx=>by simp;rintro rfl;exact hn hx]
 simp
end Go.Proofs.YtlmedakidpaeeaaGreat
/- A variable of one's own that nobody writes any more; a range over a function that reads a region. No program in sight. -/
namespace Go.Proofs.YtlmedakidpaeeaaGreat
open Go.RowKit
theorem SR.freezeB {F:Fr} {s:AS} {ρ:Nat ->Nat ->Value} {act:Act} {w:World} (h:SR F s ρ act w) (t f:Nat) (x:D) {T:TypeId} {cs:List AV} {hp':Hp} (nm:List Nat) {pn:List Nat} (hF:F.pn=pn) (ht:get s.env t=some (.ptr f 0 0)) (hone:hfam s.hp f=some [.blk T cs]) (hcs:cs=x.cells.map .d) (hx1:∀c∈x.cells,c.one=true) (hf:memB f nm=false) (hsub:JB pn nm=true) (hpt:BQ s.hp nm=some hp'):SR F ⟨s.n,(t,.d (.ptr x))::s.env,hp'⟩ ρ act w:=by
 have h1:=h.only nm hF hsub hpt;refine ⟨h1.size,h1.defs,fun t' a ha=>?_,h1.heap⟩;rcases Is ha with ⟨rfl,rfl⟩ | ⟨_,ha⟩
 ·have hr:=h.env t _ ht;have ho:hget s.hp f 0=some (.blk T cs):=by simp [hget,hone,gl,isM]
  obtain ⟨b,us,e1,e2,e3,e4,e5⟩:=h.heap.sim f 0 _ ho;show AP _ _ _ _ (act.tmps.getD t undef)
  generalize act.tmps.getD t undef=v at hr
  cases hr with
  | @ptr _ _ _ b' hb=>
   rw [e1] at hb;injection hb with hb;injection hb with hb;injection hb with hb;subst hb
   have hO:∀b',F.O ρ hp' b' ->F.O ρ s.hp b':=fun b' hb'=>hb'.imp id fun ⟨f',i',o',q1,q2⟩=>by
    obtain ⟨m1,_⟩:=CY hpt;refine ⟨f',i',o',?_,q2⟩;simp only [hget] at q1⊢
    cases hh:hfam hp' f' with
    | none=>rw [hh] at q1;cases q1
    | some l=>rw [(m1 f' l hh).2];rw [hh] at q1;exact q1
   have hnO:¬F.O ρ hp' b:=fun hb'=>by
    rcases hb' with hb' | ⟨f',i',o',q1,q2⟩
    ·exact h.heap.notOf ⟨f,0,_,ho,by rw [e1];rfl⟩ hb'
    ·obtain ⟨m1,_⟩:=CY hpt;simp only [hget] at q1
     cases hh:hfam hp' f' with
     | none=>rw [hh] at q1;cases q1
     | some l=>
      have q3:hget s.hp f' i'=some o':=by simp only [hget];rw [(m1 f' l hh).2];rw [hh] at q1;exact q1
      obtain ⟨e1',_⟩:=h.heap.inj f' i' f 0 _ _ b q3 ho q2 (by rw [e1];rfl);have:=FX.2 (m1 f' l hh).1;rw [e1',hf] at this;cases this
   have hlen:us.length=x.cells.length:=by rw [e3,hcs,List.length_map]
   refine .d (.ptr (fun j=>us.getD j undef) (h.heap.ltO (.inr ⟨f,0,_,ho,by rw [e1];rfl⟩)) hnO hx1 (fun j c hj=>?_) (fun j c hj=>?_))
   ·have hj':j<us.length:=by rw [hlen];exact (List.getElem?_eq_some_iff.1 hj).1
    rw [Nat.zero_add,cell_of_row w b j us.toArray T (0,0) e2]
    simp [hj']
   ·have hj':j<us.length:=by rw [hlen];exact (List.getElem?_eq_some_iff.1 hj).1
    have hc:=e4 j (.d c) us[j] (by rw [hcs,List.getElem?_map,hj];rfl) (List.getElem?_eq_getElem hj');have hg:us.getD j undef=us[j]:=by simp [hj']
    rw [hg]
    cases hc with
    | d hc=>exact hc.mono (Nat.le_refl _) (fun _ _ _=>rfl) fun b' _=>hO b'
 ·exact h1.env t' a ha
theorem Kf {P:Program} {F:Fr} {Q:Exit ->AS ->Prop} {ops:Array Oper} {l':List Oper} {sn:Nat} {env:List (Nat×AV)} {hp hp':Hp} (t f:Nat) (x:D) {T:TypeId} {cs:List AV} (nm:List Nat) {pn:List Nat} (hF:F.pn=pn) (ht:get env t=some (.ptr f 0 0)) (hone:hfam hp f=some [.blk T cs]) (hcs:cs=x.cells.map .d) (hx1:∀c∈x.cells,c.one=true) (hf:memB f nm=false) (hsub:JB pn nm=true) (hpt:BQ hp nm=some hp')
  (h:As P F ops l' Q ⟨sn,(t,.d (.ptr x))::env,hp'⟩):As P F ops l' Q ⟨sn,env,hp⟩:=fun ρ act w hs=>h ρ act w (hs.freezeB t f x nm hF ht hone hcs hx1 hf hsub hpt)
def Fr.withD (F:Fr) (d:DS):Fr:={F with lo:=d}
theorem Ao.withD {F:Fr} {d:DS} {hp:Hp} {ρ:Nat ->Nat ->Value} {w:World} (h:Ao F hp ρ w):Ao (F.withD d) hp ρ w:=⟨h.sim,h.inj,h.mine,h.os,h.tape,h.output,h.size0,h.keep,h.pins,h.drawn⟩
theorem Ao.lessD {F:Fr} {d:DS} {hp:Hp} {ρ:Nat ->Nat ->Value} {w:World} (h:Ao (F.withD d) hp ρ w):Ao F hp ρ w:=⟨h.sim,h.inj,h.mine,h.os,h.tape,h.output,h.size0,h.keep,h.pins,h.drawn⟩
def Jv (P:Program) (f:FuncId) (args:List AV) (H:Hp) (R:AV ->Hp ->Prop):Prop:=
 (∃fn,P.funcs[f]? =some fn∧(fn.name== "runtime.NumGoroutine")=false∧fn.body.isSome=true)∧
 ∀(F:Fr) (ρ:Nat ->Nat ->Value) (vs:List Value),F.own0=Al ρ H ->F.pin=Bx ρ H ->F.pn=Oj H ->F.rnd=none ->F.lo= .exact [] ->Ao F H ρ F.w0 ->vs.length=args.length ->(∀(i:Nat) a v,args[i]? =some a ->vs[i]? =some v ->AP F.w0 (F.O ρ H) ρ a v)→
  ∀u,CallsDIn Fence.wide 0 P f vs.toArray u F.w0 fun e u' w'=>u'=u∧∃v r H' ρ',e= .returned v∧R r H'∧AP w' (F.O ρ' H') ρ' r v∧Ao F H' ρ' w'
theorem Ik {P:Program} {fn:Func} {rs:List ResultVar} {H:Hp} {R:AV ->Hp ->Prop} {F:Fr} {ρ ρ':Nat ->Nat ->Value} {s:AS} {act:Act} {w:World} (hrs:fn.results=rs.toArray) (h2:F.pin=Bx ρ H) (hs:SR F s ρ' act w) (hq:∃r nm H',Res P s rs r∧BQ s.hp nm=some H'∧AT nm H=true∧R r H'):
  ∃v,(results fn act.tmps).run P w= .ok v w∧∃r H' ρ',R r H'∧AP w (F.O ρ' H') ρ' r v∧Ao F H' ρ' w:=by
 obtain ⟨r,nm,H',hr,hpt,hnm,hR⟩:=hq;obtain ⟨v,h6,h7⟩:=hr.spec hs hrs;obtain ⟨p1,p2⟩:=CY hpt
 have hsub:∀f i o,hget H' f i=some o ->hget s.hp f i=some o:=fun f i o ho=>by
  simp only [hget] at ho⊢
  cases hf:hfam H' f with
  | none=>rw [hf] at ho;cases ho
  | some x=>rw [(p1 f x hf).2];rw [hf] at ho;exact ho
 have hown:∀b,Al ρ' H' b ->Al ρ' s.hp b:=fun b ⟨f,i,o,a1,a2⟩=>⟨f,i,o,hsub f i o a1,a2⟩
 have hO:∀b,b<w.heap.size ->F.O ρ' H' b ->F.O ρ' s.hp b:=fun b _ hb=>hb.imp id (hown b);refine ⟨v,h6,r,H',ρ',hR,h7.mono (Nat.le_refl _) (fun _ _ _=>rfl) hO (fun _ _ _=>rfl),?_⟩;refine ⟨fun f i o ho=>(hs.heap.sim f i o (hsub f i o ho)).mono (Nat.le_refl _) (fun _ _ _=>rfl) hO (fun _ _=>rfl) (fun _ _ _=>rfl),fun f i f' i' o o' b ho ho'=>hs.heap.inj f i f' i' o o' b (hsub f i o ho) (hsub f' i' o' ho'),fun b hb=>hs.heap.mine b (hown b hb),hs.heap.os,hs.heap.tape,hs.heap.output,hs.heap.size0,hs.heap.keep,fun f i b hb=>?_,hs.heap.drawn⟩;obtain ⟨a1,t,cs,a2⟩:=hs.heap.pins f i b hb;refine ⟨a1,t,cs,?_⟩;rw [h2] at hb;obtain ⟨_,t',cs',a3⟩:=Zcm hb
 have hfn:f∈nm:=by
  simp only [hget] at a3
  cases hf:hfam H f with
  | none=>rw [hf] at a3;cases a3
  | some x=>exact DA hnm hf
 simp only [hget] at a2⊢;rw [p2 f hfn];exact a2
theorem MM {fn:Func} {n:Nat} {args:List AV} {env:List (Nat×AV)} {H:Hp} {F:Fr} {ρ:Nat ->Nat ->Value} {vs:List Value} (hn:fn.ntmps=n) (henv:Ez 0 args=some env) (hlen:Nat.ble args.length n=true) (hlo:F.lo= .exact []) (h3:Ao F H ρ F.w0) (h4:vs.length=args.length) (h5:∀(i:Nat) a v,args[i]? =some a ->vs[i]? =some v ->AP F.w0 (F.O ρ H) ρ a v):
  SR F ⟨n,env,H⟩ ρ {tmps:=vs.toArray++Array.replicate (fn.ntmps - vs.toArray.size) undef,defers:=[]} F.w0:=by
 have hle:=Nat.le_of_ble_eq_true hlen;refine ⟨?_,by rw [hlo];rfl,fun t a ha=>?_,h3⟩
 ·simp only [Array.size_append,List.size_toArray,Array.size_replicate,hn,h4];omega
 ·obtain ⟨j,hj,ha'⟩:=IV henv ha;rw [Nat.zero_add] at hj;subst hj;have hlt:t<vs.length:=by rw [h4];exact (List.getElem?_eq_some_iff.1 ha').1
  have:(vs.toArray++Array.replicate (fn.ntmps - vs.toArray.size) undef).getD t undef=vs[t]:=by
   rw [Array.getD_eq_getD_getElem?,Array.getElem?_append_left (by simpa using hlt)];simp [hlt]
  show AP _ _ _ _ ((vs.toArray++Array.replicate (fn.ntmps - vs.toArray.size) undef).getD t undef);rw [this];exact h5 t a _ ha' (List.getElem?_eq_getElem hlt)
theorem d_enter {P:Program} {f:FuncId} {fn:Func} {c:Code} {n:Nat} {args:List AV} {env:List (Nat×AV)} {rs:List ResultVar} {H:Hp} {R:AV ->Hp ->Prop} (hf:P.funcs[f]? =some fn) (hname:(fn.name== "runtime.NumGoroutine")=false) (hb:fn.body=some c) (hn:fn.ntmps=n)
  (hrs:fn.results=rs.toArray) (henv:Ez 0 args=some env) (hlen:Nat.ble args.length n=true) (h:∀F:Fr,F.pn=Oj H ->B9 P F c (Ret P rs H R) ⟨n,env,H⟩):Jv P f args H R:=by
 refine ⟨⟨fn,hf,hname,by rw [hb];rfl⟩,fun F ρ vs h1 h2 h2' hr hlo h3 h4 h5 u=>callsDIn_of_wp (n:=0) hf hb trivial ?_⟩;have hfen:Hr F.rnd=Fence.wide:=by rw [hr];rfl
 refine Go.wpIn_mono (hfen▸h F h2' ρ _ _ (MM hn henv hlen hlo h3 h4 h5)) fun e act w ⟨s,ρ',hq,hs⟩=>?_;have hd:act.defers=[]:=by have:=hs.defs;rw [hlo] at this;exact this
 cases e with
 | normal=>
  obtain ⟨v,g1,r,H',ρ2,g2,g3,g4⟩:=Ik hrs h2 hs hq;exact ⟨hd,v,g1,v,r,H',ρ2,rfl,g2,g3,g4⟩
 | ret=>
  obtain ⟨v,g1,r,H',ρ2,g2,g3,g4⟩:=Ik hrs h2 hs hq;exact ⟨hd,v,g1,v,r,H',ρ2,rfl,g2,g3,g4⟩
 | exit _=>exact hq.elim
 | goto _=>exact hq.elim
 | panic _=>exact hq.elim
 | outgrown=>exact hq.elim
def SL (g:FuncId) (caps:List Value):Deferred:={target:= .fn (.func g) caps.toArray,args:= #[]}
def II (s:AS) (a:AV) (v:Value):Prop:=∃f i b g j,a= .ptr f i 0∧v= .pointer (some ⟨b,0,none⟩)∧hget s.hp g j=some (.addr f i v)
theorem II.rep {F:Fr} {s:AS} {ρ:Nat ->Nat ->Value} {act:Act} {w:World} (hs:SR F s ρ act w) {a:AV} {v:Value} (h:II s a v):AP w (F.O ρ s.hp) ρ a v:=by
 obtain ⟨f,i,b,g,j,rfl,rfl,hg⟩:=h;exact .ptr (hs.heap.sim g j _ hg).2
theorem II.val {F:Fr} {s:AS} {ρ:Nat ->Nat ->Value} {act:Act} {w:World} (hs:SR F s ρ act w) {a:AV} {v:Value} (h:II s a v) {t:Nat} (ht:get s.env t=some a):act.tmps.getD t undef=v:=by
 obtain ⟨f,i,b,g,j,rfl,rfl,hg⟩:=h;have hr:=hs.env t _ ht;have hv:=(hs.heap.sim g j _ hg).2
 generalize act.tmps.getD t undef=x at hr
 cases hr with
 | ptr h=>rw [hv] at h;injection h with h;injection h with h;injection h with h;subst h;rfl
theorem II.val2 {F:Fr} {s:AS} {ρ:Nat ->Nat ->Value} {act:Act} {w:World} (hs:SR F s ρ act w) {a:AV} {v x:Value} (h:II s a v) (hr:AP w (F.O ρ s.hp) ρ a x):x=v:=by
 obtain ⟨f,i,b,g,j,rfl,rfl,hg⟩:=h;have hv:=(hs.heap.sim g j _ hg).2
 cases hr with
 | ptr h=>rw [hv] at h;injection h with h;injection h with h;injection h with h;subst h;rfl
def RetD (P:Program) (rs:List ResultVar) (H:Hp) (R:AV ->Hp ->Prop) (g:FuncId) (caps:List Value):Exit ->AS ->Prop
 | .ret,s | .normal,s=>∃as CH R1 nm rest0 rest env',Jv P g as CH R1∧caps.length=as.length∧(∀(i:Nat) a v,as[i]? =some a ->caps[i]? =some v ->II s a v)∧Bc s.hp CH nm∧AT nm CH=true∧CD nm s.hp=some rest0∧BX (BR CH nm) s.env=some env'∧B6 (BR CH nm) rest0=some rest∧
   ∀r H',R1 r H' ->(AT nm H'=true∧EJ nm H'=true∧r.ok (Fa nm)=true)∧Ret P rs H R .ret ⟨s.n,env',H'++rest⟩
 | _,_=>False
def AwpG (P:Program) (F:Fr) (c:Code) (Fi:Exit ->Act ->World ->Prop) (s:AS):Prop:=∀ρ act w,SR F s ρ act w ->c.wpIn (Hr F.rnd) 0 P Fi act w
theorem OM {P:Program} {F:Fr} {g:FuncId} {as:List AV} {CH:Hp} {R1:AV ->Hp ->Prop} {s:AS} {caps:List Value} {L:List Deferred} {ρ:Nat ->Nat ->Value} {act:Act} {w:World} (hs:SR (F.withD (.exact L)) s ρ act w) (hc:Jv P g as CH R1) (hlen:caps.length=as.length) (hvs:∀(i:Nat) a v,as[i]? =some a ->caps[i]? =some v ->AP w (F.O ρ s.hp) ρ a v)
  (nm:List Nat) (hfe:Bc s.hp CH nm) (hcn:AT nm CH=true) {rest0 rest:Hp} {env':List (Nat×AV)} (hr0:CD nm s.hp=some rest0) (hE:BX (BR CH nm) s.env=some env') (hH:B6 (BR CH nm) rest0=some rest)
  (hR:∀r H',R1 r H' ->AT nm H'=true∧EJ nm H'=true∧r.ok (Fa nm)=true) (u:FrameMode):
  CallsDIn Fence.wide 0 P g caps.toArray u w fun e u' w'=>u'=u∧∃v r H' ρ'',e= .returned v∧R1 r H'∧SR (F.withD (.exact L)) ⟨s.n,env',H'++rest⟩ ρ'' act w':=by
 obtain ⟨hOf,hheap,hO⟩:=Ed (.exact []) hs.heap nm hfe hcn;refine (hc.2 (BZ (F.withD (.exact L)) (.exact []) s.hp CH ρ w hOf) ρ caps Z Z Z Z Z hheap hlen (fun i a v ha hv=>by rw [hO];exact hvs i a v ha hv) u).mono fun e u' w' ⟨hu,v,r,H',ρ',e1,hRr,hrep,hh'⟩=>?_;obtain ⟨n1,n2,n3⟩:=hR r H' hRr;obtain ⟨ρ'',g1,g2,g3,g4,g5,g6,g7⟩:=Gc hs.heap nm hfe hcn hr0 hH hOf hheap hh' n1 n2;refine ⟨hu,v,r,H',ρ'',e1,hRr,hs.size,hs.defs.mono g5 g6 g7,fun t a ha=>?_,g1⟩;rcases C1 hE ha with rfl | ⟨h1,h2⟩
 ·exact .top
 ·exact g3 _ _ h2 (hs.env t a h1)
theorem SX {P:Program} {f:FuncId} {fn:Func} {c:Code} {n:Nat} {args:List AV} {env:List (Nat×AV)} {rs:List ResultVar} {H:Hp} {R:AV ->Hp ->Prop} (hf:P.funcs[f]? =some fn) (hname:(fn.name== "runtime.NumGoroutine")=false) (hb:fn.body=some c) (hn:fn.ntmps=n)
  (hrs:fn.results=rs.toArray) (henv:Ez 0 args=some env) (hlen:Nat.ble args.length n=true)
  (h:∀(F:Fr) (Fi:Exit ->Act ->World ->Prop),F.pn=Oj H ->F.rnd=none ->F.lo= .exact [] ->(∀e act w,Ic F (Ret P rs H R) e act w ->Fi e act w) ->(∀g caps e act w,Ic (F.withD (.exact [SL g caps])) (RetD P rs H R g caps) e act w ->Fi e act w) ->AwpG P F c Fi ⟨n,env,H⟩):AQ P f args H R:=by
 refine ⟨⟨fn,hf,hname,by rw [hb];rfl⟩,fun F ρ vs h1 h2 h2' h3 h4 h5=>callsIn_wide.1 (callsIn_of_wp_marks (n:=0) hf hb trivial ?_)⟩;have hfen:Hr (F.withD (.exact [])).rnd=Fence.wide:=by show Hr F.rnd=_;rw [h2'.2.1];rfl
 have key:=h (F.withD (.exact [])) (bodyPostM Fence.wide 0 P fn (fun e w'=>∃v r H' ρ',e= .returned v∧R r H'∧AP w' (F.O ρ' H') ρ' r v∧Ao F H' ρ' w')) h2'.1 h2'.2.1 rfl (fun e act w ⟨s,ρ',hq,hs⟩=>?_) (fun g caps e act w ⟨s,ρ',hq,hs⟩=>?_) ρ _ _ (MM hn henv hlen rfl h3.withD h4 h5)
 ·rw [hfen] at key;exact key
 ·have hd:act.defers=[]:=hs.defs
  have key:(∃r nm H',Res P s rs r∧BQ s.hp nm=some H'∧AT nm H=true∧R r H') ->LeavesInM Fence.wide 0 P fn act.tmps (fun e w'=>∃v r H' ρ',e= .returned v∧R r H'∧AP w' (F.O ρ' H') ρ' r v∧Ao F H' ρ' w') act.defers .returning w:=fun hq=>by
   obtain ⟨v,g1,r,H',ρ2,g2,g3,g4⟩:=Ik (F:=F.withD (.exact [])) hrs h2 hs hq;rw [hd];exact ⟨v,g1,v,r,H',ρ2,rfl,g2,g3,g4.lessD⟩
  cases e with
  | normal=>exact key hq
  | ret=>exact key hq
  | exit _=>exact hq.elim
  | goto _=>exact hq.elim
  | panic _=>exact hq.elim
  | outgrown=>exact hq.elim
 ·have hd:act.defers=[SL g caps]:=hs.defs
  have key:(∃as CH R1 nm rest0 rest env',Jv P g as CH R1∧caps.length=as.length∧(∀(i:Nat) a v,as[i]? =some a ->caps[i]? =some v ->II s a v)∧Bc s.hp CH nm∧AT nm CH=true∧CD nm s.hp=some rest0∧BX (BR CH nm) s.env=some env'∧B6 (BR CH nm) rest0=some rest∧
    ∀r H',R1 r H' ->(AT nm H'=true∧EJ nm H'=true∧r.ok (Fa nm)=true)∧Ret P rs H R .ret ⟨s.n,env',H'++rest⟩) ->LeavesInM Fence.wide 0 P fn act.tmps (fun e w'=>∃v r H' ρ',e= .returned v∧R r H'∧AP w' (F.O ρ' H') ρ' r v∧Ao F H' ρ' w') act.defers .returning w:=by
   rintro ⟨as,CH,R1,nm,rest0,rest,env',hc,hl,hsay,hfe,hcn,hr0,hE,hH,hR⟩;rw [hd];obtain ⟨fg,hg1,hg2,hg3⟩:=hc.1;have hb':¬fg.body=none:=by intro h;rw [h] at hg3;cases hg3
   have hn':¬fg.name= "runtime.NumGoroutine" :=by simpa using hg2
   refine ⟨by simp,.inr ⟨(fun hh=>by cases hh),.func g,caps.toArray,g,caps.toArray,rfl,?_,(fun _ _=>trivial),?_⟩⟩
   ·simp [SL,invoke,callFunc,hg1,hn',hb']
   ·refine (OM (F:=F) hs hc hl (fun i a v ha hv=>(hsay i a v ha hv).rep hs) nm hfe hcn hr0 hE hH (fun r H' h=>(hR r H' h).1) .returning).mono fun e u' w' ⟨hu,v,r,H',ρ'',e1,hRr,hsr⟩=>?_;subst hu e1;obtain ⟨v,g1,r,H',ρ2,g2,g3,g4⟩:=Ik (F:=F.withD (.exact [SL g caps])) hrs h2 hsr (hR r H' hRr).2;exact ⟨v,g1,v,r,H',ρ2,rfl,g2,g3,g4.lessD⟩
  cases e with
  | normal=>exact key hq
  | ret=>exact key hq
  | exit _=>exact hq.elim
  | goto _=>exact hq.elim
  | panic _=>exact hq.elim
  | outgrown=>exact hq.elim
section
variable {P:Program} {F:Fr} {Fi:Exit ->Act ->World ->Prop} {rs:List ResultVar} {H:Hp} {R:AV ->Hp ->Prop} {s:AS}
theorem CM {x y:Code} (hR:∀e act w,Ic F (Ret P rs H R) e act w ->Fi e act w) (h:B9 P F x (Then (fun s=>AwpG P F y Fi s) (Ret P rs H R)) s):AwpG P F (.seq x y) Fi s:=fun ρ act w hs=>
 wpIn_seq (Go.wpIn_mono (h ρ act w hs) fun e a w ⟨s',ρ',h1,h2⟩=>by
  cases e with
  | normal=>exact h1 ρ' a w h2
  | _=>exact hR _ _ _ ⟨s',ρ',h1,h2⟩)
theorem Ol {id g k:Nat} {n:Nat} {env:List (Nat×AV)} {hp:Hp} {ty ty2:TypeId} {pos pos2:String} {aft aft2:Array Edge} {y:Code} {xs:List Nat} {ars:List AV} (caps:List Value) (hD:∀g caps e act w,Ic (F.withD (.exact [SL g caps])) (RetD P rs H R g caps) e act w ->Fi e act w) (hlo:F.lo= .exact []) (hrnd:F.rnd=none)
  (hk:Nat.blt k n=true) (hx:Jc ⟨n,env,hp⟩ (xs.map .tmp)=some ars) (hl:caps.length=ars.length) (hsay:∀(i:Nat) a v,ars[i]? =some a ->caps[i]? =some v ->II ⟨n,env,hp⟩ a v)
  (h:B9 P (F.withD (.exact [SL g caps])) y (RetD P rs H R g caps) ⟨n,(k,.top)::env,hp⟩):
  AwpG P F (.seq (.region id #[⟨some k,.makeFunc (.func g) #[] (xs.map Operand.tmp).toArray,ty,pos,aft,none⟩,⟨none,.defer {callee:= .value (.tmp k),args:= #[],argTypes:= #[]},ty2,pos2,aft2,none⟩] false) y) Fi ⟨n,env,hp⟩:=fun ρ act w hs=>by
 have hvals:(xs.map Operand.tmp).map act.eval=caps:=by
  obtain ⟨h4,h5⟩:=C2 hs hx;refine List.ext_getElem (by rw [hl,←h4]) fun i h1 h2=>?_;have hi:i<ars.length:=by rw [←hl];exact h2
  have h6:=h5 i _ _ (List.getElem?_eq_getElem hi) (List.getElem?_eq_getElem h1);exact (hsay i _ _ (List.getElem?_eq_getElem hi) (List.getElem?_eq_getElem h2)).val2 hs h6
 have hlt:=Fs hk;have hd:act.defers=[]:=by have:=hs.defs;rw [hlo] at this;exact this
 have hfen:Hr F.rnd=Hr none:=by rw [hrnd]
 rw [hfen];refine wpIn_seq (wpIn_region_lit (wpListIn_plain rfl fun K1 hK1=>?_));refine Ch (r:=none) rfl ?_
 have h1:(execOp act.eval (⟨some k,.makeFunc (.func g) #[] (xs.map Operand.tmp).toArray,ty,pos,aft,none⟩:Oper)).run P w= .ok (.value (.func (.func g) #[] caps.toArray)) w:=by
  simp only [execOp,Instr.makeFunc]
  simp [←hvals]
 unfold Oper.wp;rw [h1];refine hK1 _ _ (wpListIn_plain rfl fun K2 hK2=>?_)
 have hk2:(act.put (some k) (.func (.func g) #[] caps.toArray)).tmps.getD k undef= .func (.func g) #[] caps.toArray:=by
  have hsz:k<act.tmps.size:=by rw [hs.size];exact hlt
  simp [Act.put,Array.getD,hsz]
 have h2:(execOp (act.put (some k) (.func (.func g) #[] caps.toArray)).eval (⟨none,.defer {callee:= .value (.tmp k),args:= #[],argTypes:= #[]},ty2,pos2,aft2,none⟩:Oper)).run P w= .ok (.defer (SL g caps)) w:=by
  simp [execOp,resolve,Act.eval,hk2,Deferred.ofValue,SL]
 refine ⟨fun _ _=>trivial,?_⟩;show Oper.uponIn _ _ _ _ _ _ _ ((execOp (act.put (some k) (.func (.func g) #[] caps.toArray)).eval (⟨none,.defer {callee:= .value (.tmp k),args:= #[],argTypes:= #[]},ty2,pos2,aft2,none⟩:Oper)).run P w);rw [h2];refine hK2 _ _ (wpListIn_nil ?_);have hs1:SR F ⟨n,(k,.top)::env,hp⟩ ρ (act.put (some k) (.func (.func g) #[] caps.toArray)) w:=hs.put hlt .top
 have hs2:SR (F.withD (.exact [SL g caps])) ⟨n,(k,.top)::env,hp⟩ ρ {act.put (some k) (.func (.func g) #[] caps.toArray) with defers:=SL g caps::act.defers} w:=
  ⟨hs1.size,by rw [hd];rfl,hs1.env,hs1.heap.withD⟩
 have h3:=h ρ _ w hs2;rw [show Hr (F.withD (.exact [SL g caps])).rnd=Hr none from hfen] at h3;exact Go.wpIn_mono h3 fun e a w hh=>hD g caps e a w hh
end
end Go.Proofs.YtlmedakidpaeeaaGreat
