/- The kit's contract of slices.SortFunc as a contract over an owned row. No program in sight. -/
import Derived.Test.YtnkkaeblokdifaaGreatMg14
import Derived.Shelf.SlSortCmp.WholeK
import Derived.Shelf.SlSortCmp.NoneTotal
namespace Go.Proofs.YtnkkaeblokdifaaGreat
open Go.RowKit Go.Shelf
open Go.Sort (flatK putRow putRowK HoldsK Holds PermIn SortedIn SWO mapBlock onCells putCells)
variable {P:Program}
theorem UA {g:FuncId} {args:List AV} {x:D} (h:AU P g args x) {w:World} {O:Nat ->Prop} (hOl:∀b,O b ->b<w.heap.size) {vs:List Value} (hl:vs.length=args.length)
  (hr:∀(i:Nat) a v,args[i]?=some a ->vs[i]?=some v ->A3 w O (fun _ _=>undef) a v):
  Calls P g vs.toArray w fun e w'=>∃v,e= .returned v∧A1 w' O x v∧(w'.os=w.os∧w'.tape=w.tape∧w'.output=w.output∧w.drawn≤w'.drawn)∧w.heap.size≤w'.heap.size∧∀b,b<w.heap.size ->w'.heap[b]?=w.heap[b]?:=by
 have hno:∀ρ b,¬Ar ρ [] b:=fun ρ b ⟨_,_,_,h,_⟩=>by cases h
 let ρ:Nat ->Nat ->Value:=fun _ _=>undef
 let F:Fr:=Fr.mk none w.heap.size w O (Ar ρ []) (Cn ρ []) (fun b hb=>⟨hOl b hb,hno _ _⟩) [] (fun _ _ _ h=>Da h)
 have hO:∀ρ,F.O ρ []=O:=fun ρ=>funext fun b=>propext ⟨fun h=>h.elim id fun h=>(hno ρ b h).elim,fun h=> .inl h⟩
 have hheap:B8 F [] ρ w:=⟨(fun f i o ho=>by cases ho),(fun f i f' i' o o' b ho=>by cases ho),fun b hb=>(hno ρ b hb).elim,rfl,rfl,rfl,Nat.le_refl _,fun _ _ _=>rfl,fun f i b hb=>Zc9 hb,Nat.le_refl _⟩
 refine (h.2 F ρ vs Z Z ⟨rfl,rfl,rfl⟩ hheap hl (fun i a v ha hv=>by rw [hO];exact hr i a v ha hv)).mono fun e w' ⟨v,r,H',ρ',e1,⟨e2,e3⟩,hrep,hh'⟩=>?_;subst e1 e2 e3;refine ⟨v,rfl,?_,⟨hh'.os,hh'.tape,hh'.output,hh'.drawn⟩,hh'.size0,fun b hlt=>hh'.keep b hlt (hno ρ b)⟩
 cases hrep with
 | d hrep=>rw [hO] at hrep;exact hrep
theorem R3 {w w':World} (h1:w'.os=w.os∧w'.tape=w.tape∧w'.output=w.output∧w.drawn≤w'.drawn) (h2:w.heap.size≤w'.heap.size) (h3:∀b,b<w.heap.size ->w'.heap[b]?=w.heap[b]?):∃q os',w'=Go.Sort.grow (w.drewN q) os':=by
 refine ⟨w'.drawn - w.drawn,w'.heap.extract w.heap.size w'.heap.size,?_⟩;obtain ⟨hp,tp,dr,os,out⟩:=w';obtain ⟨hp0,tp0,dr0,os0,out0⟩:=w;obtain ⟨e1,e2,e3,e4⟩:=h1;simp only at e1 e2 e3 e4 h2 h3;subst e1 e2 e3
 have hh:hp=hp0++hp.extract hp0.size hp.size:=by
  apply Array.ext_getElem?
  intro i
  by_cases hi:i<hp0.size
  ·rw [Array.getElem?_append_left hi];exact h3 i hi
  ·rw [Array.getElem?_append_right (by omega),Array.getElem?_extract]
   split
   ·congr 1;omega
   ·rw [Array.getElem?_eq_none (by omega)]
 have hd:dr=dr0+(dr - dr0):=by omega
 show World.mk hp _ dr _ _=World.mk (hp0++hp.extract hp0.size hp.size) _ (dr0+(dr - dr0)) _ _;rw [World.mk.injEq];exact ⟨hh,rfl,hd,rfl,rfl⟩
section
variable {ρr:Ren} {τ:Type}
theorem Zdo {α:Type} [Inhabited α] {enc:α ->List Value} {k:Nat} {w:World} {b off m:Nat} {dk:Array α} {os:Array Obj} {b':Nat} (hne:b'≠b) (hlt:b'<w.heap.size):(sortWorldK enc k w b off m dk os).heap[b']?=w.heap[b']?:=by
 unfold sortWorldK;rw [Go.Sort.heap_grow_old _ _ (by rw [Go.Sort.size_putRowK];exact hlt)];show (w.heap.modify b _)[b']?=_;rw [Array.getElem?_modify,if_neg (Ne.symm hne)]
theorem SR.writeG {F:Fr} {s:AS} {ρ:Nat ->Nat ->Value} {act:Act} {w w':World} (h:SR F s ρ act w) (f0 i0:Nat) (o o':AQ) {hp':List (Nat×List AQ)} (ho:hget s.hp f0 i0=some o)
  (hset:∀f i,hget hp' f i=if f=f0∧i=i0 then some o' else hget s.hp f i) (hos:w'.os=w.os) (htape:w'.tape=w.tape) (hout:w'.output=w.output) (hs:w.heap.size≤w'.heap.size) (hdr:w.drawn≤w'.drawn)
  (hb:∀b,b<w.heap.size ->CO (ρ f0 i0)≠some b ->w'.heap[b]?=w.heap[b]?)
  (hbl:∀t cs,o= .blk t cs ->∃t' cs',o'= .blk t' cs') (hsim:(∀A v,A3 w (F.O ρ s.hp) ρ A v ->A3 w' (F.O ρ hp') ρ A v) ->BD w' (F.O ρ hp') ρ o' (ρ f0 i0)):SR F ⟨s.n,s.env,hp'⟩ ρ act w':=by
 have hO:∀b,F.O ρ hp' b ->F.O ρ s.hp b:=fun b hh=>by
  rcases hh with hh | ⟨f,i,o1,h1,h2⟩
  ·exact .inl hh
  ·refine .inr ?_
   by_cases e:f=f0∧i=i0
   ·obtain ⟨rfl,rfl⟩:=e;exact ⟨f,i,o,ho,h2⟩
   ·rw [hset,if_neg e] at h1;exact ⟨f,i,o1,h1,h2⟩
 have hbb:∀b,b<w.heap.size ->¬F.O ρ s.hp b ->w'.heap[b]?=w.heap[b]?:=fun b hl hn=>hb b hl fun e=>hn (.inr ⟨f0,i0,o,ho,e⟩);have hrep:∀A v,A3 w (F.O ρ s.hp) ρ A v ->A3 w' (F.O ρ hp') ρ A v:=fun A v hr=>hr.mono hs hbb (fun b _=>hO b) fun _ _ _=>rfl;refine ⟨h.size,h.defs.mono hs hbb (fun b _=>hO b),fun t a ha=>hrep _ _ (h.env t a ha),?_⟩;refine h.heap.one f0 i0 o' hset (fun _ _ _=>rfl) (fun b hv=> .inl ⟨⟨o,ho⟩,hv⟩) hos htape hout hs hdr (fun b hl hn=>hb b hl fun e=>hn ⟨⟨o,ho⟩,e⟩) (.inl rfl) (fun b hp=>?_) (hsim hrep);obtain ⟨_,t,cs,h1⟩:=h.heap.pins f0 i0 b hp;rw [ho] at h1;injection h1 with h1
 obtain ⟨t',cs',h2⟩:=hbl t cs h1;exact ⟨rfl,t',cs',h2⟩
def Gw (us:List Value) (k n i:Nat):List Value:=(us.drop ((if i<n then i else 0)*k)).take k
theorem Kz {us:List Value} {k n i:Nat} (hn:0<n) (hu:us.length=n*k):(Gw us k n i).length=k:=by
 have:(if i<n then i else 0)<n:=by split<;>omega
 have h2:=Nat.mul_le_mul_right k (Nat.succ_le_of_lt this);rw [Nat.succ_mul] at h2;simp only [Gw,List.length_take,List.length_drop,hu];omega
theorem Vx {us:List Value} {k n i j:Nat} (_:0<n) (hi:i<n) (hj:j<k):(Gw us k n i)[j]?=us[i*k+j]?:=by
 simp only [Gw,if_pos hi];rw [List.getElem?_take_of_lt hj,List.getElem?_drop]
theorem Ka {w:World} {O:Nat ->Prop} {us:List Value} {k:Nat} {emb:τ ->D} {xs:List τ} (hne:xs≠ []) (hL:HI D.cells k (A1 w O) (xs.map emb) us) (h1:∀x∈xs.map emb,∀c∈x.cells,c.one=true) (hagg:∀x,∃cs,emb x= .agg cs) (x0:τ) (i:Nat):
  A1 w O (emb ((xs[if i<xs.length then i else 0]?).getD x0)) (.agg (Gw us k xs.length i).toArray):=by
 have hn:0<xs.length:=List.length_pos_iff.2 hne;have hix:(if i<xs.length then i else 0)<xs.length:=by split<;>omega
 rw [List.getElem?_eq_getElem hix];simp only [Option.getD_some];have hul:us.length=xs.length*k:=by have:=hL.1;rwa [List.length_map] at this
 obtain ⟨cs,hcs⟩:=hagg xs[if i<xs.length then i else 0];have hm:(xs.map emb)[if i<xs.length then i else 0]?=some (.agg cs):=by rw [List.getElem?_map,List.getElem?_eq_getElem hix,←hcs];rfl
 have hmem:=List.mem_of_getElem? hm;have hck:cs.length=k:=hL.2.1 _ hmem;rw [hcs];refine .agg (by rw [Kz hn hul,hck]) (h1 _ hmem) fun j c v hc hv=>?_;have hj:j<k:=by rw [←hck];exact (List.getElem?_eq_some_iff.1 hc).1
 obtain ⟨u,hu,_,hr⟩:=hL.2.2 _ _ hm j c hc
 have hv':us[(if i<xs.length then i else 0)*k+j]?=some v:=by
  simp only [Gw] at hv
  rwa [List.getElem?_take_of_lt hj,List.getElem?_drop] at hv
 rw [hv'] at hu;injection hu with hu;subst hu;exact hr
theorem Oe {α:Type} [Inhabited α] (l:List α) (j:Nat):l[j]! =(l[j]?).getD default:=List.getElem!_eq_getElem?_getD
theorem Ph {g:FuncId}:∀w O ρ v,A3 w O ρ (.d (.raw (.func (.func g) #[] #[]))) v ->v= .func (.func g) #[] #[]:=fun w O ρ v h=>by
 cases h with
 | d h=>cases h with
  | raw _=>rfl
theorem PO (L:SlLaysF0.n6 P ρr) {k:Nat} (hk:0<k) (aE:∀w,(isAgg (ρr.t 24)).run P w= .ok true w) (zE:∀w,(Go.sizeOf (ρr.t 24)).run P w= .ok k w) {E:TypeId} {g g6:FuncId} {fn:Func} (hfn:P.funcs[g]?=some fn) (hnm:(fn.name== "runtime.NumGoroutine")=false) {c:Code} (hbody:fn.body=some c)
  {emb:τ ->D} (hagg:∀x,∃cs,emb x= .agg cs) (cf:τ ->τ ->Int) (hO:SWO (ltOf cf)) (xs ys0:List τ) (hsz:xs.length<4611686018427387904) (hc:∀x∈xs,∀y∈xs,AU P g [.d (emb x),.d (emb y)] (.raw (.int .i64 (cf x y))))
  (hu:∀ys:List τ,ys.Perm xs ->ys.Pairwise (fun a b=>¬cf b a<0) ->ys=ys0)
  {F:Fr} {s:AS} {d:Nat} {x y:Operand} {ty:TypeId} {pos:String} {aft:Array Edge} {gd:Option (Nat×Bool)} {at_:Array TypeId} {f n:Nat} {fa:AV} {row:List D} {hp':Hp}
  (hg:ρr.f 6=g6) (hx:s.ev x=some (.own f 0 n)) (hy:s.ev y=some fa) (hfa:∀w O ρ v,A3 w O ρ fa v ->v= .func (.func g) #[] #[]) (ho:hget s.hp f 0=some (.rowD E k row)) (hrow:row=xs.map emb) (hn:n=xs.length) (hh:Bn s.hp f 0 (.rowD E k (ys0.map emb))=some hp') (hd:Nat.blt d s.n=true):
  AR P F ⟨some d,.call {callee:= .value (.func g6),args:= #[x,y],argTypes:=at_},ty,pos,aft,gd⟩ s ⟨s.n,(d,.d (.tup []))::s.env,hp'⟩ (fun _ _=>true):=by
 subst hg hrow hn;intro ρ act w hs
 obtain ⟨fn6,hf1,hf2,hf3⟩:∃fn,P.funcs[ρr.f 6]?=some fn∧(fn.name== "runtime.NumGoroutine")=false∧fn.body.isSome=true:=by
  obtain ⟨nm,hn,hf⟩:=L.f6;exact ⟨_,hf,hn,rfl⟩
 unfold Oper.wp;rw [show (#[x,y]:Array Operand)=[x,y].toArray from rfl,EG hf1 hf2 hf3,Oper.upon_enter]
 suffices key:Calls P (ρr.f 6) ([x,y].map act.eval).toArray w fun e w'=>e= .returned (.tuple #[])∧SR F ⟨s.n,s.env,hp'⟩ ρ act w' by
  refine key.mono fun e w' ⟨e1,hsr⟩=>?_;subst e1;exact ⟨ρ,hsr.put (KZ hd) (.d (.tup rfl fun i c v hc=>by cases hc)),fun _ _ _=>rfl⟩
 have r0:=hs.ev hx;have r1:=hfa _ _ _ _ (hs.ev hy);have hg0:=ho;have h3:=hs.heap;have hset:=BN hh;obtain ⟨us,q1,q2,q3⟩:=h3.sim f 0 _ hg0;show Calls P (ρr.f 6) #[act.eval x,act.eval y] w _;rw [r1]
 generalize act.eval x=V0 at r0
 cases r0 with
 | own hρ hle=>
  rename_i N cap a
  by_cases hx:xs=[]
  ·subst hx;refine (AnyF.slices_SortFunc_none L a cap _ w).mono fun e w' ⟨e1,e2⟩=>?_;subst e1 e2;refine ⟨rfl,hs.writeG f 0 _ _ ho hset Z Z Z (Nat.le_refl _) (Nat.le_refl _) (fun _ _ _=>rfl) (fun _ _ e=>by cases e) fun hrep=>?_⟩;rw [←hu [] (List.Perm.refl _) List.Pairwise.nil];exact ⟨us,q1,⟨by simpa using q2.1,fun x hx=>(by cases hx),fun i x hx=>by simp at hx⟩,fun x hx=>(by cases hx)⟩
  ·have hn:0<xs.length:=List.length_pos_iff.2 hx;have hul:us.length=xs.length*k:=by have:=q2.1;rwa [List.length_map] at this
   have hblkeq:∃b cur,a=some ⟨b,0,none⟩∧w.heap[b]?=some (.cells cur E (0,0))∧cur.size=N*0+cap*k∧xs.length≤cap∧cap≤maxLen∧cur.toList.take (xs.length*k)=us∧N=xs.length:=by
    rcases q1.2 with ⟨_,h⟩ | ⟨b,cap',cur,e1,_,e2,e3,e4,e5,e6⟩
    ·rw [List.length_map] at h;omega
    ·rw [hρ] at e1;injection e1 with e1 e7 e8
     subst e1 e8;rw [List.length_map] at e3 e6 e7;exact ⟨b,cur,rfl,e2,by omega,e3,e4,e6,e7⟩
   obtain ⟨b,cur,rfl,p1,p2,p3,p3',p4,rfl⟩:=hblkeq;have hb:CO (ρ f 0)=some b:=by rw [hρ];rfl
   have hOb:F.O ρ s.hp b:= .inr ⟨f,0,_,hg0,hb⟩;have hlt:b<w.heap.size:=(Array.getElem?_eq_some_iff.1 p1).1;have hOl:∀b',F.O ρ s.hp b' ->b'<w.heap.size:=fun b' h=>h3.ltO h
   let x0:τ:=xs[0]
   let ix:Nat ->Nat:=fun i=>if i<xs.length then i else 0
   let el:Nat ->τ:=fun i=>(xs[ix i]?).getD x0
   have hel:∀i,el i∈xs:=fun i=>by
    have hix:ix i<xs.length:=by show (if _ then _ else _)<_;split<;>omega
    show (xs[ix i]?).getD x0∈xs;rw [List.getElem?_eq_getElem hix];exact List.getElem_mem hix
   let enc:Nat ->List Value:=Gw us k xs.length
   let cf':Nat ->Nat ->Int:=fun i j=>cf (el i) (el j)
   have hO':SWO (ltOf cf'):=⟨fun x=>hO.irrefl (el x),fun x y z=>hO.trans (el x) (el y) (el z),fun x y z=>hO.ntrans (el x) (el y) (el z)⟩
   have hlen:∀x,(enc x).length=k:=fun x=>Kz hn hul
   have hus1:∀v∈us,v.oneCell'=true:=fun v hv=>by
    obtain ⟨j,hj⟩:=List.getElem?_of_mem hv;have hj':j<xs.length*k:=by rw [←hul];exact (List.getElem?_eq_some_iff.1 hj).1
    have hd:j / k<xs.length:=Nat.div_lt_of_lt_mul (by rw [Nat.mul_comm];exact hj');have hm:(xs.map emb)[j / k]?=some (emb xs[j / k]):=by rw [List.getElem?_map,List.getElem?_eq_getElem hd];rfl
    have hck:=q2.2.1 _ (List.mem_of_getElem? hm);have hjm:j % k<(emb xs[j / k]).cells.length:=by rw [hck];exact Nat.mod_lt _ hk
    obtain ⟨u,hu,hu1,_⟩:=q2.2.2 _ _ hm (j % k) _ (List.getElem?_eq_getElem hjm);rw [show j / k*k+j % k=j by rw [Nat.mul_comm];exact Nat.div_add_mod j k,hj] at hu;injection hu with hu;subst hu;exact hu1
   have henc1:∀x,∀v∈enc x,v.oneCell'=true:=fun x v hv=>hus1 v (List.mem_of_mem_drop (List.mem_of_mem_take hv));have hd0:∀i,i<xs.length ->(Array.range xs.length)[i]! =i:=fun i hi=>by rw [getElem!_pos _ i (by simpa using hi)];simp
   have hH:HoldsK enc k w b 0 (Array.range xs.length):=by
    intro j hj;simp only [Go.Sort.size_flatK,Array.size_range] at hj;have hd:j / k<xs.length:=Nat.div_lt_of_lt_mul (by rw [Nat.mul_comm];exact hj);have hm:j % k<k:=Nat.mod_lt _ hk;refine ⟨?_,?_⟩
    ·rw [Go.Sort.get_flatK _ _ _ _ (by simpa using hj),hd0 _ hd,Oe,Vx hn hd hm,show j / k*k+j % k=j by rw [Nat.mul_comm];exact Nat.div_add_mod j k];have hj2:j<us.length:=by omega
     have hju:us[j]?=cur.toList[j]?:=by rw [←p4,List.getElem?_take_of_lt hj]
     simp only [World.cell?,p1,Nat.zero_add];rw [hju]
     have hjc:j<cur.size:=by
      have:=(List.getElem?_eq_some_iff.1 (hju▸List.getElem?_eq_getElem hj2)).1
      simpa using this
     simp [hjc]
    ·simp only [World.frozen?,p1]
     simp
   have hcmp:CmpLays P g #[] enc k cf' b 0 (Array.range xs.length).size w:=by
    intro m os dk _ x y;have hW:∀b',b'<w.heap.size ->¬F.O ρ s.hp b' ->(sortWorldK enc k w b 0 m dk os).heap[b']?=w.heap[b']?:=fun b' hl hno=>Zdo (fun e=>hno (e▸hOb)) hl;have hWs:w.heap.size≤(sortWorldK enc k w b 0 m dk os).heap.size:=size_sortWorldK_c _ _ _ _ _ _ _ _;have ra:=(Ka hx q2 q3 hagg x0 x).mono hWs hW (fun _ _ h=>h);have rb:=(Ka hx q2 q3 hagg x0 y).mono hWs hW (fun _ _ h=>h)
    refine (UA (hc (el x) (hel x) (el y) (hel y)) (w:=sortWorldK enc k w b 0 m dk os) (fun b' h=>Nat.lt_of_lt_of_le (hOl b' h) hWs) (vs:=[.agg (enc x).toArray,.agg (enc y).toArray]) rfl (fun i a v ha hv=>?_)).mono fun e w' ⟨v,e1,e2,e3,e4,e5⟩=>⟨?_,R3 e3 e4 e5⟩
    ·match i,ha,hv with
     | 0,ha,hv=>injection ha with ha;injection hv with hv;subst ha hv;exact .d ra
     | 1,ha,hv=>injection ha with ha;injection hv with hv;subst ha hv;exact .d rb
    ·cases e2 with
     | raw _=>exact e1
   have eg:∀args w,(callFunc g args).run P w= .ok (.enter g args) w:=enters_of hfn hnm hbody;have key:=AnyQ.slices_SortFunc L k aE zE enc hlen henc1 cf' hO' g #[] b 0 cap (Array.range xs.length) w eg hcmp hH hlt (by simpa using hsz);rw [Array.size_range] at key;refine key.mono fun e w' ⟨e1,d',n,os,hp,hsort,hw⟩=>?_;subst e1 hw;obtain ⟨s1,_,s3⟩:=hp;rw [Array.size_range] at s1
   have hperm:d'.toList.Perm (List.range xs.length):=by
    have e1:d'.extract 0 xs.length=d':=by rw [←s1];exact Array.extract_size
    have e2:(Array.range xs.length).extract 0 xs.length=Array.range xs.length:=by
     conv=>lhs;arg 3;rw [←Array.size_range (n:=xs.length)]
     exact Array.extract_size
    rw [e1,e2] at s3
    simpa using s3
   have hmem:∀i,i<xs.length ->d'[i]!<xs.length:=fun i hi=>by
    have:d'[i]!∈d'.toList:=by rw [getElem!_pos _ i (by omega)];exact Array.getElem_mem_toList (by omega)
    exact List.mem_range.1 (hperm.mem_iff.1 this)
   refine ⟨rfl,?_⟩
   have hys:d'.toList.map el=ys0:=by
    apply hu
    ·refine (hperm.map el).trans (List.Perm.of_eq ?_)
     apply List.ext_getElem (by simp)
     intro i h5 h6;simp only [List.getElem_map,List.getElem_range];show (xs[ix i]?).getD x0=_;rw [show ix i=i from if_pos h6,List.getElem?_eq_getElem h6];rfl
    ·rw [List.pairwise_iff_getElem];intro i j hi hj hij;simp only [List.length_map,Array.length_toList] at hi hj;have:=hsort i j (Nat.zero_le _) hij (by omega);rw [getElem!_pos _ j hj,getElem!_pos _ i hi] at this;simp only [ltOf,decide_eq_false_iff_not] at this
     simpa using this
   have hWs:w.heap.size≤(sortWorldK enc k w b 0 n d' os).heap.size:=size_sortWorldK_c _ _ _ _ _ _ _ _;have hlen':((d'.toList.map el).map emb).length=xs.length:=by simp [s1]
   refine hs.writeG f 0 _ _ ho hset Z Z Z hWs (Nat.le_add_right _ _) (fun b' hl hno=>Zdo (fun e=>hno (by rw [e];exact hb)) hl) (fun _ _ e=>by cases e) fun hrep=>?_;rw [←hys]
   have hO2:∀b',F.O ρ hp' b' ->F.O ρ s.hp b':=fun b' h=>h.imp id fun ⟨g,i,o,h1,h2⟩=>by
    rw [hset] at h1
    split at h1
    ·rename_i e;obtain ⟨rfl,rfl⟩:=e;exact ⟨g,0,_,hg0,h2⟩
    ·exact ⟨g,i,o,h1,h2⟩
   have hW:∀b',b'<w.heap.size ->¬F.O ρ s.hp b' ->(sortWorldK enc k w b 0 n d' os).heap[b']?=w.heap[b']?:=fun b' hl hno=>Zdo (fun e=>hno (e▸hOb)) hl;have hfs:(flatK enc k d').size=xs.length*k:=by rw [Go.Sort.size_flatK,s1]
   have hheap:(sortWorldK enc k w b 0 n d' os).heap[b]?=some (.cells (putCells id 0 (flatK enc k d') cur) E (0,0)):=by
    unfold sortWorldK;rw [Go.Sort.heap_grow_old _ _ (by rw [Go.Sort.size_putRowK];exact hlt)];show (w.heap.modify b _)[b]?=_;rw [Array.getElem?_modify,if_pos rfl,p1];rfl
   have hcs:(putCells id 0 (flatK enc k d') cur).size=cap*k:=by simp only [putCells,Array.size_mapIdx];omega
   have hle2:xs.length*k≤cap*k:=Nat.mul_le_mul_right k p3;refine ⟨(flatK enc k d').toList,⟨by rw [hlen',Array.length_toList,hfs],.inr ⟨b,cap,_,by rw [hρ,hlen'],Nat.zero_le _,hheap,by rw [hlen'];exact p3,p3',hcs,?_⟩⟩,⟨by rw [hlen',Array.length_toList,hfs],fun x hx2=>?_,fun i x hx2 j c hc2=>?_⟩,fun x hx2 c hc2=>?_⟩
   ·rw [hlen']
    apply List.ext_getElem?
    intro i
    by_cases hi:i<xs.length*k
    ·rw [List.getElem?_take_of_lt hi,Array.getElem?_toList,Array.getElem?_toList,Array.getElem?_eq_getElem (by omega),Array.getElem?_eq_getElem (by omega)];simp only [putCells,Array.getElem_mapIdx];rw [if_pos ⟨Nat.zero_le _,by omega⟩];simp only [id,Nat.sub_zero];rw [getElem!_pos _ i (by omega)]
    ·rw [List.getElem?_eq_none (by rw [List.length_take];omega),List.getElem?_eq_none (by rw [Array.length_toList];omega)]
   ·rw [List.map_map] at hx2;obtain ⟨i,_,rfl⟩:=List.mem_map.1 hx2;exact q2.2.1 _ (List.mem_map.2 ⟨_,hel i,rfl⟩)
   ·rw [List.getElem?_map,List.getElem?_map] at hx2
    cases hdi:d'.toList[i]? with
    | none=>rw [hdi] at hx2;cases hx2
    | some q=>
     rw [hdi] at hx2;injection hx2 with hx2;subst hx2
     have hiq:=(List.getElem?_eq_some_iff.1 hdi).1;rw [Array.length_toList,s1] at hiq;have hq!:d'[i]! =q:=by rw [getElem!_pos _ i (by omega)];rw [Array.getElem?_toList,Array.getElem?_eq_getElem (by omega)] at hdi;injection hdi
     have hck:(emb (el q)).cells.length=k:=q2.2.1 _ (List.mem_map.2 ⟨_,hel q,rfl⟩);have hj:j<k:=by rw [←hck];exact (List.getElem?_eq_some_iff.1 hc2).1
     have hr:=(Ka hx q2 q3 hagg x0 q).mono (O':=F.O ρ hp') hWs hW (fun b' _=>hO2 b')
     change A1 _ _ (emb (el q)) _ at hr
     obtain ⟨cs,hcs2⟩:=hagg (el q);rw [hcs2] at hr hc2
     generalize hV:Value.agg (Gw us k xs.length q).toArray=V at hr
     cases hr with
     | agg hl2 _ hall=>
      rename_i ws _
      injection hV with hV
      have hws:Gw us k xs.length q=ws:=by simpa using hV
      subst hws;have hjl:j<(Gw us k xs.length q).length:=by rw [Kz hn hul];exact hj
      refine ⟨(Gw us k xs.length q)[j],?_,henc1 q _ (List.getElem_mem hjl),hall j c _ hc2 (List.getElem?_eq_getElem hjl)⟩
      have hlt3:i*k+j<xs.length*k:=by
       have:=Nat.mul_le_mul_right k (Nat.succ_le_of_lt hiq);rw [Nat.succ_mul] at this;omega
      rw [Array.getElem?_toList,Array.getElem?_eq_getElem (by omega)];have hgf:=Go.Sort.get_flatK enc k d' (i*k+j) (by rw [s1];exact hlt3);rw [getElem!_pos _ _ (by omega)] at hgf;rw [hgf,show (i*k+j) / k=i by rw [Nat.mul_comm,Nat.mul_add_div hk,Nat.div_eq_of_lt hj];rfl,show (i*k+j) % k=j by rw [Nat.mul_comm,Nat.mul_add_mod,Nat.mod_eq_of_lt hj],hq!,Oe];show some ((Gw us k xs.length q)[j]?.getD default)=_;rw [List.getElem?_eq_getElem hjl];rfl
   ·rw [List.map_map] at hx2;obtain ⟨i,_,rfl⟩:=List.mem_map.1 hx2;exact q3 _ (List.mem_map.2 ⟨_,hel i,rfl⟩) c hc2
end
end Go.Proofs.YtnkkaeblokdifaaGreat
