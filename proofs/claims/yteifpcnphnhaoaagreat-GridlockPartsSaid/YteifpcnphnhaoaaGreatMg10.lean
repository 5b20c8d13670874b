import Derived.Test.YteifpcnphnhaoaaGreatMg9
import Derived.Maps.RangeRun
import Derived.Laws.StructEq
import Derived.WideLaws
namespace Go.Proofs.YteifpcnphnhaoaaGreat
open Go.RowKit
def TZ:List D->Option (List Value)
 | []=>some []
 | d::r=>match TZ r with
  | none=>none
  | some l=>match d with
   | .raw v=>some (v::l)
   | _=>none
def D.val?:D->Option Value
 | .raw v=>some v
 | .agg cs=>match TZ cs with
  | none=>none
  | some l=>some (.agg l.toArray)
 | _=>none
theorem OT{w:World}{O:Nat->Prop}:∀{f:List D} {l vs:List Value},TZ f=some l->vs.length=f.length->(∀(i:Nat) c v,f[i]? =some c->vs[i]? =some v->AY w O c v)->vs=l
 | [],l,vs,h,a,_=>by
  simp only[TZ,Option.some.injEq] at h;subst h;exact je a
 | d::r,l,vs,h,a,g=>by
  simp only[TZ] at h
  split at h
  .cases h
  .rename_i t b
   split at h
   .rename_i v
    injection h with h;subst h
    match vs,a with
    | u::j,a=>
     have s:=g 0 _ u Z Z
     cases s with
     | raw _=>rw[OT (w:=w) (O:=O) (vs:=j) b (by simpa using a) λi c v o k=>g (i+1) c v (by simpa using o) (by simpa using k)]
   .cases h
theorem AY.val{w:World}{O:Nat->Prop}{d:D}{v b:Value}(h:AY w O d v)(a:d.val? =some b):v=b:=by
 cases d with
 | raw u=>simp only[D.val?,Option.some.injEq] at a;subst a;cases h;rfl
 | agg i=>
  simp only[D.val?] at a
  split at a
  .cases a
  .rename_i l c
   injection a with a;subst a
   cases h with
   | agg g _ f=>rw[OT c g f]
 | _=>cases a
section
variable{α:Type}[DecidableEq α]
variable{a:α->Value}{c:TypeDesc}{P:Program}{K:TypeId}
def Jc(a:α):List α->List MapEntry->Nat->Option (Nat×Value)
 | b::r,e::es,i=>if a=b then some (i,e.val) else Jc a r es (i+1)
 | _,_,_=>none
theorem Qm{a:α}:∀{l:List α} {g:List MapEntry} {i:Nat},g.length=l.length->Jc a l g i=none->a∉l
 | [],_,_,_,_=>by simp
 | b::r,[],_,h,_=>by simp at h
 | b::r,e::g,i,h,c=>by
  simp only[Jc] at c
  split at c
  .cases c
  .rename_i f
   simp only[Υ,not_or];exact ⟨f,Qm (by simpa using h) c⟩
theorem Ql{a:α}:∀{l:List α} {o:List MapEntry} {i j:Nat} {v:Value},Jc a l o i=some (j,v)->i<=j/\l[j-i]? =some a/\(∃e,o[j-i]? =some e/\e.val=v)/\∀k,k<j-i->l[k]?≠some a
 | [],[],_,_,_,h=>by simp[Jc] at h
 | [],_::_,_,_,_,h=>by simp[Jc] at h
 | b::r,[],i,_,_,h=>by simp[Jc] at h
 | b::r,e::o,i,j,v,h=>by
  simp only[Jc] at h
  split at h
  .rename_i f
   injection h with h;injection h with t g;subst t g f
   refine ⟨Γ _,by simp,⟨e,by simp,Z⟩,λk u=>by omega⟩
  .rename_i c
   obtain ⟨t,g,⟨z,y,x⟩,w⟩:=Ql h;have s:j-i=(j-(i+1))+1:=by omega
   refine ⟨by omega,by rw[s];simpa using g,⟨z,by rw[s];simpa using y,x⟩,λk u=>?_⟩
   cases k with
   | zero=>simp;exact λe=>c e.symm
   | succ k=>simpa using w k (by omega)
structure Bs (P:Program) (K:TypeId) (eK:α->D) (kv:α->Value):Prop where
 val:∀a,(eK a).val? =some (kv a)
 check:∀w em a,(Instr.checkKey em 10000 K (kv a)).run P w= .ok () w
 find:∀w a (es:List MapEntry) (l:List α),es.map (·.key)=l.map kv->(Instr.findKey K (kv a) es).run P w= .ok (Jc a l es 0) w
 stays:∀w a,(Instr.keyThatStays (kv a) (kv a)).run P w= .ok (kv a) w
theorem Mv{d:TypeDesc}{g:α->Value}(j:∀a b,Instr.sameNow d (g a) (g b)=some (decide (a=b)))(a:α):∀(l:List α) (f:List MapEntry) (i:Nat),f.map (·.key)=l.map g->Instr.findNow d (g a) f i=some (Jc a l f i)
 | [],[],i,_=>rfl
 | [],_::_,_,h=>by simp at h
 | _::_,[],_,h=>by simp at h
 | b::r,e::f,i,h=>by
  simp only[ie,List.cons.injEq] at h;simp only[Instr.findNow,h.1,j,Jc]
  by_cases c:a=b
  .simp[c]
  .simp only[c,decide_false,if_false];exact Mv j a r f (i+1) h.2
theorem Io{P:Program}{K:TypeId}{g:α->Value}(j:∀w a b,(Op.equal K (g a) (g b)).run P w= .ok (decide (a=b)) w)(w:World)(a:α):∀(l:List α) (f:List MapEntry) (i:Nat),f.map (·.key)=l.map g->(Instr.findAsking K (g a) f i).run P w= .ok (Jc a l f i) w
 | [],[],i,_=>rfl
 | [],_::_,_,h=>by simp at h
 | _::_,[],_,h=>by simp at h
 | b::r,e::f,i,h=>by
  simp only[ie,List.cons.injEq] at h;simp only[Instr.findAsking,Sem.run_bind,h.1,j,Result.andThen_ok,Jc]
  by_cases c:a=b
  .simp[c]
  .simp only[c,decide_false,Bool.false_eq_true,if_false];exact Io j w a r f (i+1) h.2
theorem Bs.plain{eK:α->D}(i:P.underlying K=some c)(j:∀f,(eK f).val? =some (a f))(g:∀f,MapKept.IsKey c (a f))(k:∀f b,Instr.sameNow c (a f) (a b)=some (decide (f=b))):Bs P K eK a where
 val:=j
 check _ em f:=MapKept.run_checkKey i (g f) em 9999
 find _ f es l h:=MapKept.run_findKey i (Mv k f l es 0 h)
 stays _ f:=MapKept.run_keyThatStays (g f)
theorem Bs.asking{eK:α->D}(s:P.underlying K=some c)(i:∀f,(eK f).val? =some (a f))(t:∀w v f,(Instr.checkKey v 10000 K (a f)).run P w= .ok () w)(k:∀w f b,(Op.equal K (a f) (a b)).run P w= .ok (decide (f=b)) w)(o:∀f b,Instr.sameNow c (a f) (a b)=none)(j:∀w f,(Instr.keyThatStays (a f) (a f)).run P w= .ok (a f) w):Bs P K eK a where
 val:=i
 check:=t
 find w f g l h:=by
  simp only[Instr.findKey,Sem.run_bind,run_underlying s,Result.andThen_ok]
  cases g with
  | nil=>
   cases l with
   | nil=>rfl
   | cons _ _=>simp at h
  | cons e g=>
   cases l with
   | nil=>simp at h
   | cons b r=>
    have u:=h;simp only[ie,List.cons.injEq] at h;simp only[Instr.findNow,h.1,o];exact Io k w f _ _ 0 u
 stays:=j
variable{β:Type}
variable{a:List (α×β)}{c:α}{f z:β}
def Ac:List (α×β)->α->β->β
 | [],_,z=>z
 | (k,b)::r,a,z=>if a=k then b else Ac r a z
def Oa:List (α×β)->α->Bool
 | [],_=>false
 | (k,_)::r,a=>decide (a=k) || Oa r a
def BX:List (α×β)->α->β->List (α×β)
 | [],a,b=> [(a,b)]
 | (k,b')::r,a,b=>if a=k then (k,b)::r else (k,b')::BX r a b
def gT:List (α×β)->α->Nat
 | [],_=>0
 | (k,_)::r,a=>if a=k then 0 else gT r a+1
def Bd(m:List (α×β))(a:α)(z:β):List (α×β):=BX m a (Ac m a z)
theorem HH(m:List (α×β))(a c:α)(b z:β):Ac (BX m a b) c z=if c=a then b else Ac m c z:=by
 induction m with
 | nil=>simp[BX,Ac]
 | cons p r f=>
  grind[BX,Ac]
theorem EV(m:List (α×β))(a b:α)(z:β):Ac (Bd m a z) b z=Ac m b z:=by grind[Bd,HH]
theorem WE(m:List (α×β))(a:α)(b z:β):BX (Bd m a z) a b=BX m a b:=by
 unfold Bd
 generalize Ac m a z=c
 induction m with
 | nil=>simp[BX]
 | cons p r f=>
  grind[BX]
theorem ME(m:List (α×β))(a:α)(z:β):gT (Bd m a z) a=gT m a:=by
 unfold Bd
 generalize Ac m a z=c
 induction m with
 | nil=>simp[BX,gT]
 | cons p r b=>
  grind[BX,gT]
theorem N8{m:List (α×β)}{a:α}{b:β}:(BX m a b)[gT m a]? =some (a,b)/\∀j,j≠gT m a->(BX m a b)[j]? =m[j]?:=by
 induction m with
 | nil=>
  grind[BX,gT]
 | cons p r c=>
  grind[BX,gT]
theorem Kp{m:List (α×β)}{a:α}{b:β}:(BX m a b).length=max m.length (gT m a+1)/\gT m a<=m.length:=by
 induction m with
 | nil=>simp[BX,gT]
 | cons p r c=>
  grind[BX,gT]
theorem Fu:Oa a c=true↔c∈a.map Prod.fst:=by
 induction a with
 | nil=>simp[Oa]
 | cons p r f=>obtain ⟨k,b⟩:=p;simp[Oa,f]
theorem MC:(BX a c f).map Prod.fst=if c∈a.map Prod.fst then a.map Prod.fst else a.map Prod.fst++ [c]:=by
 induction a with
 | nil=>simp[BX]
 | cons p r g=>
  grind[BX]
theorem O9(h:(a.map Prod.fst).Nodup):((BX a c f).map Prod.fst).Nodup:=by grind[MC]
theorem D8{z:β}(i:(a.map Prod.fst).Nodup)(h:(c,f)∈a):Ac a c z=f:=by
 induction a with
 | nil=>cases h
 | cons p r g=>
  grind[Ac]
theorem JS(h:c∉a.map Prod.fst):Ac a c z=z:=by
 induction a with
 | nil=>rfl
 | cons p r b=>
  grind[Ac]
theorem Ie(h:c∈a.map Prod.fst):(c,Ac a c z)∈a:=by
 induction a with
 | nil=>simp at h
 | cons p r b=>
  grind[Ac]
def CC(m:List (α×β))(B seen:List Nat):List (α×β):=((m.zip B).filter λp=>!(seen.contains p.2)).map Prod.fst
omit [DecidableEq α] in
theorem nX{B:List Nat}(h:B.length=a.length):CC a B []=a:=by
 unfold CC;rw[List.filter_eq_self.2 (by simp)];exact List.map_fst_zip (by omega)
omit [DecidableEq α] in
theorem Tv:∀{m:List (α×β)} {B seen:List Nat} {j b:Nat} {x:α×β},B.Nodup->m[j]? =some x->B[j]? =some b->b∉seen->(CC m B seen).Perm (x::CC m B (seen++ [b]))
 | [],_,_,_,_,_,_,h,_,_=>by simp at h
 | y::m,[],_,_,_,_,_,_,h,_=>by simp at h
 | y::m,c::B,seen,j,b,x,i,l,k,t=>by
  simp only[kL] at i
  cases j with
  | zero=>
   simp at l k;subst l k
   have e:∀(m:List (α×β)) (B:List Nat),c∉B->CC m B (seen++ [c])=CC m B seen:=λm B h=>by
    unfold CC
    congr 1
    refine jy λp u=>?_;have:p.2≠c:=λe=>h (by rw[<-e];exact (List.of_mem_zip u).2)
    simp[this]
   have g:CC (y::m) (c::B) seen=y::CC m B seen:=by simp[CC,t]
   have f:CC (y::m) (c::B) (seen++ [c])=CC m B (seen++ [c]):=by simp[CC]
   rw[g,f,e m B i.1]
  | succ j=>
   have s:=Tv (seen:=seen) i.2 (by simpa using l) (by simpa using k) t;have r:b∈B:=ξ (by simpa using k);have o:c≠b:=λe=>i.1 (by rw[e];exact r)
   by_cases a:c∈seen
   .have g:CC (y::m) (c::B) seen=CC m B seen:=by simp[CC,a]
    have f:CC (y::m) (c::B) (seen++ [b])=CC m B (seen++ [b]):=by simp[CC,a]
    rw[g,f];exact s
   .have g:CC (y::m) (c::B) seen=y::CC m B seen:=by simp[CC,a]
    have f:CC (y::m) (c::B) (seen++ [b])=y::CC m B (seen++ [b]):=by simp[CC,a,o]
    rw[g,f];exact (List.Perm.cons _ s).trans (List.Perm.swap _ _ _)
end
variable{P:Program}{T:TypeId}{a:AV}
def ak:Value->Option AV
 | .agg cs=>match IB cs.toList with
  | none=>none
  | some l=>Jt l
 | v=>Iv v
def Cy(P:Program)(T:TypeId):Option AV:=match P.info? T with
 | none=>none
 | some i=>match i.zero with
  | none=>none
  | some z=>ak z
theorem V1{v:Value}(h:ak v=some a)(w:World)(O:Nat->Prop)(ρ:Nat->Nat->Value):A7 w O ρ a v:=by
 unfold ak at h
 split at h
 .rename_i g
  split at h
  .cases h
  .rename_i l b
   obtain ⟨f,c⟩:=Cu b w O ρ;have:=G0 (w:=w) (O:=O) (ρ:=ρ) h f c;omega
 .exact (Lp h).1
theorem Eh(h:Cy P T=some a)(w:World):∃z,(zeroValue T).run P w= .ok z w/\∀(b:World) O ρ,A7 b O ρ a z:=by
 unfold Cy at h
 split at h
 .cases h
 .rename_i i c
  split at h
  .cases h
  simp[*,zeroValue,typeInfo,V1]
def Bm(P:Program)(T K E:TypeId):Bool:=match P.underlying T with
 | some (.map k e)=>Nat.beq k K && Nat.beq e E
 | _=>false
theorem Wi{K E:TypeId}(h:Bm P T K E=true):P.underlying T=some (.map K E):=by grind[Bm,iG]
section
variable{α β:Type}[DecidableEq α]
def B4(eK:α->D)(eV:β->D)(m:List (α×β)):List (D×D):=m.map λx=>(eK x.1,eV x.2)
def BY(eK:α->D)(eV:β->D)(m:List (α×β)):AM:= .map (some (List.range m.length,m.length)) (B4 eK eV m)
variable{P:Program}{F:Fr}{s:AS}{K:TypeId}{eK:α->D}{kv:α->Value}{eV:β->D}
variable{a:Array MapEntry}{c:List (α×β)}{f:Nat->Prop}{w:World}
theorem YT(k:Bs P K eK kv)(g:a.size=(B4 eK eV c).length)(h:∀(i:Nat) e x,a[i]? =some e->(B4 eK eV c)[i]? =some x->AY w f x.1 e.key/\AY w f x.2 e.val):a.toList.map (·.key)=(c.map Prod.fst).map kv:=by
 simp only[B4,χ] at g;refine jk λi=>?_;simp only[ν,jH]
 cases ha:a[i]? with
 | none=>
  grind
 | some e=>
  have b:i<c.length:=by have:=(iq.1 ha).1;omega
  rw[ω b];have j:=(h i e (eK c[i].1,eV c[i].2) ha (by simp[B4,b])).1;simp only[ij,Option.some.injEq];exact j.val (k.val _)
theorem gn(J:Bs P K eK kv)(A:a.size=(B4 eK eV c).length)(h:∀(i:Nat) e x,a[i]? =some e->(B4 eK eV c)[i]? =some x->AY w f x.1 e.key/\AY w f x.2 e.val)(g:α)(z:β):
  (Jc g (c.map Prod.fst) a.toList 0=none/\Oa c g=false/\Ac c g z=z/\gT c g=c.length)\/∃i e,Jc g (c.map Prod.fst) a.toList 0=some (i,e.val)/\a[i]? =some e/\e.key=kv g/\Oa c g=true/\gT c g=i/\i<c.length/\AY w f (eV (Ac c g z)) e.val:=by
 have j:a.toList.length=(c.map Prod.fst).length:=by simpa [B4] using A
 cases hh:Jc g (c.map Prod.fst) a.toList 0 with
 | none=>
  have B:=Qm j hh;refine .inl ⟨Z,?_,JS B,?_⟩
  .cases hm:Oa c g with
   | false=>rfl
   | true=>exact absurd (Fu.1 hm) B
  .clear hh j A h
   induction c with
   | nil=>rfl
   | cons p r E=>
    grind[gT]
 | some q=>
  obtain ⟨i,v⟩:=q;obtain ⟨_,y,⟨e,u,D⟩,C⟩:=Ql hh;simp only[Nat.sub_zero,jH] at y u C;rw[ν] at y
  have o:i<c.length:=by
   grind
  have t:(c[i]).1=g:=by rw[ω o] at y;simpa using y
  have l:gT c g=i/\Ac c g z=(c[i]).2:=by
   clear hh j A h u D
   induction c generalizing i with
   | nil=>simp at o
   | cons p r E=>
    obtain ⟨k,b⟩:=p
    cases i with
    | zero=>simp at t;subst t;simp[gT,Ac]
    | succ i=>
     have G:g≠k:=λe=>C 0 (by omega) (by simp[e])
     grind[gT,Ac]
  obtain ⟨I,H⟩:=h i e (eK c[i].1,eV c[i].2) u (by simp[B4,o]);refine .inr ⟨i,e,by rw[<-D],u,?_,Fu.2 (by rw[<-t];exact jg (ϑ o)),l.1,o,by rw[l.2];exact H⟩;have:=I.val (J.val _);rw[this,t]
variable{d:Nat}{ty T E:TypeId}{pos:String}{aft:Array Edge}{g:Option (Nat×Bool)}{x y z:Operand}{bs:Option (List Nat×Nat)}
variable{a:Nat->Nat->Value}{c:List (D×D)}{w:World}{f i:Nat}{h:Act}{o:AM}
def Kq:AM->Option (Option (List Nat×Nat)×List (D×D))
 | .map bs es=>some (bs,es)
 | .nm _ bs es=>some (bs,es)
 | _=>none
theorem At.mapO{O:Nat->Prop}{v:Value}(h:At w O a o v)(k:Kq o=some (bs,c)):
  ∃(l:Nat) (j:Array MapEntry) (f:Nat),v= .map (some l)/\w.heap[l]? =some (.map j f)/\j.size=c.length/\(∀(i:Nat) e x,j[i]? =some e->c[i]? =some x->AY w O x.1 e.key/\AY w O x.2 e.val)/\
   (j.toList.map (·.born)).Nodup/\(∀e∈j.toList,e.born<f)/\∀B r,bs=some (B,r)->B=j.toList.map (·.born)/\r=f:=by
 cases o with
 | map _ _=>simp only[Kq,Option.some.injEq,Prod.mk.injEq] at k;obtain ⟨rfl,rfl⟩:=k;exact h
 | nm b _ _=>simp only[Kq,Option.some.injEq,Prod.mk.injEq] at k;obtain ⟨rfl,rfl⟩:=k;exact ⟨b,h.2.choose,h.2.choose_spec.choose,h.1,h.2.choose_spec.choose_spec⟩
 | _=>cases k
theorem SR.mapV(k:SR F s a h w)(j:s.ev x=some (.map f i)):h.eval x=a f i:=by
 have c:=k.ev j
 generalize h.eval x=l at c
 cases c with
 | map b=>exact b.symm
theorem SR.mapAt0(t:SR F s a h w)(v:h.eval x=a f i)(u:ey s.hp f i=some o)(l:Kq o=some (bs,c)):
  ∃(k:Nat) (j:Array MapEntry) (b:Nat),h.eval x= .map (some k)/\a f i= .map (some k)/\w.heap[k]? =some (.map j b)/\j.size=c.length/\(∀(i:Nat) e x,j[i]? =some e->c[i]? =some x->AY w (F.O a s.hp) x.1 e.key/\AY w (F.O a s.hp) x.2 e.val)/\
   (j.toList.map (·.born)).Nodup/\(∀e∈j.toList,e.born<b)/\∀B r,bs=some (B,r)->B=j.toList.map (·.born)/\r=b:=by
 obtain ⟨k,j,b,C,A⟩:=(t.heap.sim f i _ u).mapO l
 grind
theorem SR.mapAt(l:SR F s a h w)(r:s.ev x=some (.map f i))(t:ey s.hp f i=some (.map bs c)):
  ∃(k:Nat) (j:Array MapEntry) (b:Nat),h.eval x= .map (some k)/\a f i= .map (some k)/\w.heap[k]? =some (.map j b)/\j.size=c.length/\(∀(i:Nat) e x,j[i]? =some e->c[i]? =some x->AY w (F.O a s.hp) x.1 e.key/\AY w (F.O a s.hp) x.2 e.val)/\
   (j.toList.map (·.born)).Nodup/\(∀e∈j.toList,e.born<b)/\∀B o,bs=some (B,o)->B=j.toList.map (·.born)/\o=b:=
 l.mapAt0 (l.mapV r) t rfl
theorem TA(m:List (α×β))(a:α)(D v:β)(O:∀k b w,SR F s k b w->b.eval x=k f i)(R:ey s.hp f i=some o)(u:Kq o=some (bs,B4 eK eV m))(N:s.ev y=some (.d (eK a)))(H:Bm P T K E=true)(h:Bs P K eK kv)(M:Cy P E=some (.d (eV D)))(Q:Ac m a D=v)(S:Nat.blt d s.n=true):
  AA P F ⟨some d,.lookup T x y false,ty,pos,aft,g⟩ s d (.d (eV v)):=
 Cv _ S λk b w t=>by
  obtain ⟨X,W,c,J,_,I,B,A,_⟩:=t.mapAt0 (O _ _ _ t) R u;have G:b.eval y=kv a:=(t.repD N).val (h.val a);obtain ⟨L,r,l⟩:=Eh M w;subst Q;rcases gn h B A a D with ⟨C,_,V,_⟩ | ⟨j,e,C,Y,_,_,_,_,U⟩
  .refine ⟨L,?_,by rw[V];exact l _ _ _⟩
   simp[execOp,Instr.lookup,run_underlying (Wi H),J,G,MapKept.run_getObj_map I,h.check,h.find w a _ _ (YT h B A),C,r,Result.andThen]
  .refine ⟨e.val,?_,.d U⟩
   simp[execOp,Instr.lookup,run_underlying (Wi H),J,G,MapKept.run_getObj_map I,h.check,h.find w a _ _ (YT h B A),C,Result.andThen]
theorem IV(m:List (α×β))(a:α)(b v:β)(j:s.ev x=some (.map f i))(o:ey s.hp f i=some (.map bs (B4 eK eV m)))(h:s.ev y=some (.d (eK a)))(t:Bm P T K E=true)(u:Bs P K eK kv)(c:Cy P E=some (.d (eV b)))(k:Ac m a b=v)(r:Nat.blt d s.n=true):
  AA P F ⟨some d,.lookup T x y false,ty,pos,aft,g⟩ s d (.d (eV v)):=
 TA m a b v (λ_ _ _ l=>l.mapV j) o Z h t u c k r
theorem Vc(m:List (α×β))(a:α)(M:β)(Y:∀b h w,SR F s b h w->h.eval x=b f i)(ho:ey s.hp f i=some o)(I:Kq o=some (bs,B4 eK eV m))(X:s.ev y=some (.d (eK a)))(R:Bm P T K E=true)(l:Bs P K eK kv)(W:Cy P E=some (.d (eV M)))(hd:Nat.blt d s.n=true):
  AA P F ⟨some d,.lookup T x y true,ty,pos,aft,g⟩ s d (.tup [.d (eV (Ac m a M)),.d (.raw (.bool (Oa m a)))]):=
 Cv _ hd λb h w H=>by
  obtain ⟨mb,arr,c,U,_,C,t,J,_⟩:=H.mapAt0 (Y _ _ _ H) ho I;have Q:h.eval y=kv a:=(H.repD X).val (l.val a);obtain ⟨V,G,D⟩:=Eh W w
  have k:∀{A u:Value} {O N:AV},A7 w (F.O b s.hp) b O A->A7 w (F.O b s.hp) b N u->A7 w (F.O b s.hp) b (.tup [O,N]) (.tuple #[A,u]):=λ{A u O N} C t=>by
   refine .tup (vs:=[A,u]) Z λi a v r B=>?_;rcases i with _ | _ | i
   .simp at r B;subst r B;exact C
   .simp at r B;subst r B;exact t
   .simp at r
  rcases gn l t J a M with ⟨L,S,g3,_⟩ | ⟨j,e,L,S,_,g4,_,_,g7⟩
  .refine ⟨.tuple #[V,.bool false],?_,k (by rw[g3];exact D _ _ _) (by rw[S];exact .d (.raw Z))⟩
   simp[execOp,Instr.lookup,run_underlying (Wi R),U,Q,MapKept.run_getObj_map C,l.check,l.find w a _ _ (YT l t J),L,G,Result.andThen]
  .refine ⟨.tuple #[e.val,.bool true],?_,k (.d g7) (by rw[g4];exact .d (.raw Z))⟩
   simp[execOp,Instr.lookup,run_underlying (Wi R),U,Q,MapKept.run_getObj_map C,l.check,l.find w a _ _ (YT l t J),L,Result.andThen]
theorem QN(m:List (α×β))(a:α)(b:β)(j:s.ev x=some (.map f i))(l:ey s.hp f i=some (.map bs (B4 eK eV m)))(h:s.ev y=some (.d (eK a)))(r:Bm P T K E=true)(t:Bs P K eK kv)(c:Cy P E=some (.d (eV b)))(o:Nat.blt d s.n=true):
  AA P F ⟨some d,.lookup T x y true,ty,pos,aft,g⟩ s d (.tup [.d (eV (Ac m a b)),.d (.raw (.bool (Oa m a)))]):=
 Vc m a b (λ_ _ _ k=>k.mapV j) l Z h r t c o
theorem Pc(f:Nat){a:List (Nat×AV)}{c j:Hp}(A:A9 f s.env=some a)(v:A8 f s.hp=some c)(t:Cf c f (.map (some ([],0)) [])=some j)(u:Nat.blt d s.n=true):
  AG P F ⟨some d,.makeMap T none,ty,pos,aft,g⟩ s ⟨s.n,(d,.map f 0)::a,j⟩ (Bl f):=λC l w r=>by
 have b:(execOp l.eval ⟨some d,.makeMap T none,ty,pos,aft,g⟩).run P w= .ok (.value (.map (some w.heap.size))) (w.alloc (.map #[] 0)):=by
  simp[execOp,run_makeMap,Result.andThen]
 unfold Oper.wp;rw[b];have k:=r.new f (.map (some ([],0)) []) (.map (some w.heap.size)) (.map #[] 0) A v t Z (λo=>⟨w.heap.size, #[],0,Z,heap_alloc_new w _,Z,by simp,by simp,by simp,λB D e=>by injection e with e;injection e with e1 e2;subst e1 e2;simp⟩);exact ⟨_,k.put (IW u) (.map QE),λf i h=>Nq λe=>S3 h e.1⟩
end
end Go.Proofs.YteifpcnphnhaoaaGreat
namespace Go.Proofs.YteifpcnphnhaoaaGreat
open Go.RowKit Go.ChangeMaps
section
variable{α β:Type}[DecidableEq α]
variable{P:Program}{F:Fr}{s:AS}{K:TypeId}{eK:α->D}{kv:α->Value}{eV:β->D}
variable{d:Nat}{ty T E:TypeId}{pos:String}{aft:Array Edge}{g:Option (Nat×Bool)}{x y z:Operand}{bs:Option (List Nat×Nat)}
variable{a:List (Nat×AV)}{c f:Hp}{B:List Nat}{i h:Nat}{j:List (Nat×AV)}{k:Nat}{Q:Exit->AS->Prop}{w:World}{o:Array Oper}{t:List Oper}{u:List (D×D)}{A:Hp}{C G:Nat}{H:AM}{I:Obj}{L:Nat}{M:α}{N:β}
def PT(m:List (α×β))(a:α):Option (List Nat×Nat)->Option (List Nat×Nat)
 | none=>none
 | some (B,c)=>if gT m a<m.length then some (B,c) else some (B++ [c],c+1)
theorem Ix(m:List (α×β))(a:α)(b:β):PT m a (some (List.range m.length,m.length))=some (List.range (BX m a b).length,(BX m a b).length):=by grind[Kp,PT,iM]
theorem H9(_:Bs P K eK kv){Q:World}{O X:Nat->Prop}{Y:Nat->Nat->Value}{m:List (α×β)}{a:α}{b:β}{j t:Array MapEntry}{c' mb:Nat}{v:Value}(hz:j.size=(B4 eK eV m).length)(h:∀(i:Nat) e x,j[i]? =some e->(B4 eK eV m)[i]? =some x->AY w O x.1 e.key/\AY w O x.2 e.val)(hn:(j.toList.map (·.born)).Nodup)(hb:∀e∈j.toList,e.born<C)(W:∀B c',bs=some (B,c')->B=j.toList.map (·.born)/\c'=C)(S:∀A v,A7 w O Y A v->A7 Q X Y A v)(hv:AY Q X (eV b) v)(U:AY Q X (eK a) (kv a))(L:(gT m a=m.length/\t=j.push {key:=kv a,val:=v,born:=C}/\c'=C+1)\/∃e,j[gT m a]? =some e/\gT m a<m.length/\t=(j.modify (gT m a) λe=>{e with key:=kv a,val:=v})/\c'=C)(D:Q.heap[mb]? =some (.map t c')):At Q X Y (.map (PT m a bs) (B4 eK eV (BX m a b))) (.map (some mb)):=by
 have hzm:j.size=m.length:=by simpa [B4] using hz
 obtain ⟨l1,l2⟩:=Kp (m:=m) (a:=a) (b:=b);obtain ⟨p1,p2⟩:=N8 (m:=m) (a:=a) (b:=b)
 have l:∀x v,AY w O x v->AY Q X x v:=λx v o=>by
  have:=S (.d x) v (.d o)
  cases this with | d h=>exact h
 rcases L with ⟨hm,rfl,rfl⟩ | ⟨e0,J,hlt,rfl,rfl⟩
 .refine ⟨mb,_,_,Z,D,?_,λi e x k o=>?_,?_,λe k=>?_,λB c' M=>?_⟩
  .simp[B4];omega
  .have hi:i<(BX m a b).length:=by have:=(φ.1 o).1;simpa [B4] using this
   by_cases I:i=m.length
   .subst I;rw[Array.getElem?_push,ς hzm.symm] at k;injection k with k;subst k
    have:(B4 eK eV (BX m a b))[m.length]? =some (eK a,eV b):=by
     have:=p1;rw[hm] at this;simp[B4,this]
    rw[this] at o;injection o with o;subst o
    exact ⟨U,hv⟩
   .rw[Array.getElem?_push,κ (by omega)] at k
    have G:(B4 eK eV m)[i]? =some x:=by
     have:=p2 i (by omega);simp only[B4,ν,this] at o⊢;exact o
    obtain ⟨g1,g2⟩:=h i e x k G;exact ⟨l _ _ g1,l _ _ g2⟩
  .simp only[Array.toList_push,Ω,ie,List.map_nil];rw[kC];refine ⟨hn,by simp,λu hu v' R=>?_⟩
   simp at R;subst R
   obtain ⟨e,k,rfl⟩:=Θ.1 hu;have:=hb e k;omega
  .simp only[Array.toList_push,ϖ,Υ,List.not_mem_nil,or_false] at k;rcases k with k | rfl
   .have:=hb e k;omega
   .show C<C+1;omega
  .cases bs with
   | none=>cases M
   | some q=>
    obtain ⟨B0,c0⟩:=q;obtain ⟨rfl,rfl⟩:=W B0 c0 rfl;simp only[PT,hm,jz,if_false,Option.some.injEq,Prod.mk.injEq] at M;obtain ⟨rfl,rfl⟩:=M
    simp
 .have I:∀(i:Nat) e,(j.modify (gT m a) λe=>{e with key:=kv a,val:=v})[i]? =some e->∃N,j[i]? =some N/\e=if i=gT m a then {N with key:=kv a,val:=v} else N:=λi e k=>by
   rw[js] at k
   split at k
   .rename_i V;subst V
    rw[J] at k;simp at k;subst k;exact ⟨e0,J,by simp⟩
   .rename_i V;exact ⟨e,k,by rw[κ (λhh'=>V hh'.symm)]⟩
  have r:(j.modify (gT m a) λe=>{e with key:=kv a,val:=v}).toList.map (·.born)=j.toList.map (·.born):=by
   refine jk λi=>?_;simp only[ν,jH,js]
   split
   .rename_i V;subst V;rw[J];rfl
   .rfl
  refine ⟨mb,_,_,Z,D,?_,λi e x k o=>?_,by rw[r];exact hn,λe k=>?_,λB c' M=>?_⟩
  .simp[B4];omega
  .obtain ⟨N,h1,rfl⟩:=I i e k
   by_cases H:i=gT m a
   .subst H;rw[ς rfl];have:(B4 eK eV (BX m a b))[gT m a]? =some (eK a,eV b):=by simp[B4,p1]
    rw[this] at o;injection o with o;subst o
    exact ⟨U,hv⟩
   .rw[κ H]
    have G:(B4 eK eV m)[i]? =some x:=by
     have:=p2 i H;simp only[B4,ν,this] at o⊢;exact o
    obtain ⟨g1,g2⟩:=h i N x h1 G;exact ⟨l _ _ g1,l _ _ g2⟩
  .have:e.born∈(j.modify (gT m a) λe=>{e with key:=kv a,val:=v}).toList.map (·.born):=jg (f:=(·.born)) k;rw[r] at this;obtain ⟨N,h1,h2⟩:=Θ.1 this;rw[<-h2];exact hb N h1
  .cases bs with
   | none=>cases M
   | some q=>
    obtain ⟨B0,c0⟩:=q;simp only[PT,hlt,if_true,Option.some.injEq,Prod.mk.injEq] at M;obtain ⟨rfl,rfl⟩:=M;rw[r];exact W _ _ rfl
theorem rO(h:i≠G):(setBlock w G I).heap[i]? =w.heap[i]?:=by
 simp[setBlock,Ne.symm h]
theorem uD{a:Obj}(h:w.heap[G]? =some a):(setBlock w G I).heap[G]? =some I:=by
 have:=(iq.1 h).1
 simp[setBlock,this]
theorem o9:(setBlock w G I).heap.size=w.heap.size:=by simp[setBlock]
theorem bR(m:List (α×β))(a:α)(b:β)(hx:s.ev x=some (.map h i))(X:ey s.hp h i=some (.map bs (B4 eK eV m)))(W:s.ev y=some (.d (eK a)))(Y:Bm P T K E=true)(u:Bs P K eK kv)(hz:s.ev z=some (.d (eV b)))(hh:B6 s.hp h i (.map (PT m a bs) (B4 eK eV (BX m a b)))=some c):AG P F ⟨none,.mapUpdate T x y z,ty,pos,aft,g⟩ s ⟨s.n,s.env,c⟩ (λ_ _=>true):=λN t w C=>by
 obtain ⟨mb,A,l,e1,e2,G,L,J,h4,h5,h6⟩:=C.mapAt hx X;have R:t.eval y=kv a:=(C.repD W).val (u.val a);have Q:AY w (F.O N s.hp) (eK a) (kv a):=R▸C.repD W;have O:=C.ev hz
 have H:∀o M,(execOp t.eval ⟨none,.mapUpdate T x y z,ty,pos,aft,g⟩).run P w= .ok .skip (setBlock w mb (.map o M))->((gT m a=m.length/\o=A.push {key:=kv a,val:=t.eval z,born:=l}/\M=l+1)\/∃e,A[gT m a]? =some e/\gT m a<m.length/\o=(A.modify (gT m a) λe=>{e with key:=kv a,val:=t.eval z})/\M=l)→
   (⟨none,.mapUpdate T x y z,ty,pos,aft,g⟩:Oper).wp P t w (λI w'=>∃B,SR F ⟨s.n,s.env,c⟩ B I w'/\∀h i,(λ_ _=>true) h i=true->B h i=N h i) (λ_ _ _=>False):=λo M D v=>by
  unfold Oper.wp;rw[D];refine ⟨N,C.write h i _ (.map (PT m a bs) (B4 eK eV (BX m a b))) X (BA hh) Z Z Z o9 (λb' S=>rO λe=>S (by rw[e2,e];rfl)) (λ_ _ e=>by cases e) λr=>?_,λ_ _ _=>rfl⟩;rw[e2];refine H9 u L J h4 h5 h6 r (by have:=r _ _ O;cases this with | d k=>exact k) ?_ v (uD G);have:=r (.d (eK a)) _ (.d Q)
  cases this with | d k=>exact k
 rcases gn u L J a b with ⟨V,_,_,g4⟩ | ⟨j,e,V,g2,g3,_,U,g6,_⟩
 .refine H _ _ ?_ (.inl ⟨g4,Z,Z⟩)
  simp[execOp,Instr.mapUpdate,run_underlying (Wi Y),e1,R,MapKept.run_getObj_map G,u.check,u.find w a _ _ (YT u L J),V,Result.andThen,MapKept.run_setObj_map _ G,setBlock]
 .refine H _ _ ?_ (.inr ⟨e,by rw[U];exact g2,by rw[U];exact g6,Z,Z⟩)
  simp[execOp,Instr.mapUpdate,run_underlying (Wi Y),e1,R,MapKept.run_getObj_map G,u.check,u.find w a _ _ (YT u L J),V,g2,g3,U,Result.andThen,MapKept.run_setObj_map _ G,setBlock,u.stays]
theorem VH(m:List (α×β))(j:α)(b:β)(r:AS.ev ⟨k,a,f⟩ x=some (.map h i))(t:ey f h i=some (BY eK eV m))(o:AS.ev ⟨k,a,f⟩ y=some (.d (eK j)))(v:Bm P T K E=true)(w:Bs P K eK kv)(l:AS.ev ⟨k,a,f⟩ z=some (.d (eV b)))(u:B6 f h i (BY eK eV (BX m j b))=some c):AG P F ⟨none,.mapUpdate T x y z,ty,pos,aft,g⟩ ⟨k,a,f⟩ ⟨k,a,c⟩ (λ_ _=>true):=
 bR (s:=⟨k,a,f⟩) m j b r t o v w l (by rw[Ix (b:=b)];exact u)
theorem H3(m:List (α×β))(r:α)(B:β)(hx:AS.ev ⟨k,a,f⟩ x=some (.map h i))(ho:ey f h i=some (BY eK eV m))(hy:AS.ev ⟨k,a,f⟩ y=some (.d (eK r)))(hT:Bm P T K E=true)(C:Bs P K eK kv)(hz:Cy P E=some (.d (eV B)))(hh:B6 f h i (BY eK eV (Bd m r B))=some c)(hd:Nat.blt d k=true):AG P F ⟨some d,.mapEntry T x y,ty,pos,aft,g⟩ ⟨k,a,f⟩ ⟨k,(d,.tup [.d (eV (Ac m r B)),.d (.raw (.int .i64 (gT m r:Int)))])::a,c⟩ (λ_ _=>true):=λD L w hs=>by
 obtain ⟨mb,A,o,e1,e2,W,V,h3,h4,h5,h6⟩:=hs.mapAt hx ho;have hk:L.eval y=kv r:=(hs.repD hy).val (C.val r);have hkr:AY w (F.O D f) (eK r) (kv r):=hk▸hs.repD hy;obtain ⟨zv,hz1,hz2⟩:=Eh hz w;obtain ⟨hB,hc⟩:=h6 _ _ rfl;subst hc;have hzm:A.size=m.length:=by simpa [B4] using V
 have X:∀t N v,(execOp L.eval ⟨some d,.mapEntry T x y,ty,pos,aft,g⟩).run P w= .ok (.value (.tuple #[v,.int .i64 (gT m r:Int)])) (setBlock w mb (.map t N))->AY w (F.O D f) (eV (Ac m r B)) v->((gT m r=m.length/\t=A.push {key:=kv r,val:=v,born:=m.length}/\N=m.length+1)\/∃e,A[gT m r]? =some e/\gT m r<m.length/\t=(A.modify (gT m r) λe=>{e with key:=kv r,val:=v})/\N=m.length)→
   (⟨some d,.mapEntry T x y,ty,pos,aft,g⟩:Oper).wp P L w (λY w'=>∃O,SR F ⟨k,(d,.tup [.d (eV (Ac m r B)),.d (.raw (.int .i64 (gT m r:Int)))])::a,c⟩ O Y w'/\∀h i,(λ_ _=>true) h i=true->O h i=D h i) (λ_ _ _=>False):=λt N v R Q I=>by
  unfold Oper.wp;rw[R]
  have hw:=hs.write h i _ (BY eK eV (Bd m r B)) (w':=setBlock w mb (.map t N)) ho (BA hh) Z Z Z o9 (λb' hb'=>rO λe=>hb' (by rw[e2,e];rfl)) (λ_ _ e=>by cases e) λu=>by
   rw[e2]
   have:=H9 (b:=Ac m r B) C V h3 h4 h5 h6 u (by have:=u (.d _) _ (.d Q);cases this with | d l=>exact l) (by
    have:=u (.d (eK r)) _ (.d hkr)
    cases this with | d l=>exact l) I (uD W)
   rw[Ix (b:=Ac m r B)] at this;exact this
  have u:AY (setBlock w mb (.map t N)) (F.O D c) (eV (Ac m r B)) v:=by
   have hO:∀b,F.O D c b->F.O D f b:=λb H=>by
    rcases H with H | ⟨f',i',o1,M,G⟩
    .exact .inl H
    .refine .inr ?_
     by_cases e:f'=h/\i'=i
     .obtain ⟨rfl,rfl⟩:=e;exact ⟨f',i',_,ho,G⟩
     .rw[BA hh,κ e] at M;exact ⟨f',i',o1,M,G⟩
   exact Q.mono (Nat.le_of_eq o9.symm) (λb _ hn=>rO λe=>hn (.inr ⟨h,i,_,ho,by rw[e2,e];rfl⟩)) (λb _=>hO b)
  refine ⟨D,hw.put (IW hd) (.tup (vs:=[v,.int .i64 (gT m r:Int)]) Z λi r v U hv=>?_),λ_ _ _=>rfl⟩;rcases i with _ | _ | i
  .simp at U hv;subst U hv;exact .d u
  .simp at U hv;subst U hv;exact .d (.raw Z)
  .simp at U
 rcases gn C V h3 r B with ⟨M,_,g3,g4⟩ | ⟨j,e,M,G,g3,_,g5,g6,g7⟩
 .refine X _ _ zv ?_ (by rw[g3];have:=hz2 w (F.O D f) D;cases this with | d l=>exact l) (.inl ⟨g4,rfl,rfl⟩)
  simp[execOp,Instr.mapEntry,run_underlying (Wi hT),e1,hk,MapKept.run_getObj_map W,C.check,C.find w r _ _ (YT C V h3),M,g4,hz1,Result.andThen,MapKept.run_setObj_map _ W,setBlock,goInt]
 .have J:e.born=j:=by
   have hj:j<A.size:=(iq.1 G).1;have:=gV (·[j]?) hB;simp only[ν,jH,G,ij] at this;rw[j1 (by omega)] at this;injection this with this;exact this.symm
  refine X _ _ e.val ?_ g7 (.inr ⟨e,by rw[g5];exact G,by rw[g5];exact g6,Z,Z⟩)
  have S:(A.modify (gT m r) λe=>{e with key:=kv r})=A.modify (gT m r) λe'=>{e' with key:=kv r,val:=e.val}:=by
   refine Array.ext_getElem? λi=>?_;rw[js,js]
   split
   .rename_i hh;subst hh;rw[g5,G];rfl
   .rfl
  rw[<-S]
  simp[execOp,Instr.mapEntry,run_underlying (Wi hT),e1,hk,MapKept.run_getObj_map W,C.check,C.find w r _ _ (YT C V h3),M,G,g3,g5,J,Result.andThen,MapKept.run_setObj_map _ W,setBlock,C.stays,goInt]
theorem H5{n:Nat}{t:List (Nat×AV)}{o D:Hp}(m:List (α×β))(a:α)(v b:β){f i:Nat}(hx:AS.ev ⟨n,t,o⟩ x=some (.map f i))(W:ey o f i=some (BY eK eV (Bd m a v)))(hy:AS.ev ⟨n,t,o⟩ y=some (.d (.raw (.int .i64 (gT m a:Int)))))(KT:Bs P K eK kv)(hz:AS.ev ⟨n,t,o⟩ z=some (.d (eV b)))(Q:B6 o f i (BY eK eV (BX m a b))=some D):AG P F ⟨none,.entryStore T x y z,ty,pos,aft,g⟩ ⟨n,t,o⟩ ⟨n,t,D⟩ (λ_ _=>true):=λV u w I=>by
 obtain ⟨mb,k,c,e1,e2,U,h2,S,h4,h5,Y⟩:=I.mapAt hx W;have L:u.eval y= .int .i64 (gT m a:Int):=I.raw hy;have M:=I.ev hz;obtain ⟨hB,hc⟩:=Y _ _ rfl;have hzm:k.size=(Bd m a v).length:=by simpa [B4] using h2
 obtain ⟨l1,l2⟩:=Kp (m:=m) (a:=a) (b:=Ac m a v);have N:gT m a<(Bd m a v).length:=by unfold Bd;omega
 have r:∀(i:Nat) e,k[i]? =some e->e.born=i:=λi e X=>by
  have hi:i<k.size:=(iq.1 X).1;have:=gV (·[i]?) hB;simp only[ν,jH,X,ij] at this;rw[j1 (by omega)] at this;injection this with this;exact this.symm
 obtain ⟨J,A⟩:∃e,k[gT m a]? =some e:=⟨_,iW (by omega)⟩
 have H:k.findIdx? (λe=>(e.born:Int)==(gT m a:Int))=some (gT m a):=by
  rw[Array.findIdx?_eq_some_iff_getElem];refine ⟨by omega,?_,λj hj=>?_⟩
  .have:=r _ _ (iW (show gT m a<k.size by omega))
   simp[this]
  .have:=r _ _ (iW (show j<k.size by omega))
   simp[this];omega
 have C:(execOp u.eval ⟨none,.entryStore T x y z,ty,pos,aft,g⟩).run P w= .ok .skip (setBlock w mb (.map (k.modify (gT m a) λe=>{e with val:=u.eval z}) c)):=by
  simp[execOp,Instr.entryStore,e1,L,MapKept.run_getObj_map U,asInt,asIntOf,H,Result.andThen,MapKept.run_setObj_map _ U,setBlock]
 unfold Oper.wp;rw[C]
 have B:J.key=kv a:=by
  have o:=(N8 (m:=m) (a:=a) (b:=Ac m a v)).1;have:=(S _ J (eK a,eV (Ac m a v)) A (by simp only[B4,ν];unfold Bd;rw[o];rfl)).1;exact this.val (KT.val a)
 have G:(k.modify (gT m a) λe=>{e with val:=u.eval z})=k.modify (gT (Bd m a v) a) λe=>{e with key:=kv a,val:=u.eval z}:=by
  rw[ME];refine Array.ext_getElem? λi=>?_;rw[js,js]
  split
  .rename_i Q;subst Q;rw[A];simp[B]
  .rfl
 have O:AY w (F.O V o) (eK a) (kv a):=by
  have o:=(N8 (m:=m) (a:=a) (b:=Ac m a v)).1;have:=(S _ J (eK a,eV (Ac m a v)) A (by simp only[B4,ν];unfold Bd;rw[o];rfl)).1;rw[B] at this;exact this
 refine ⟨V,I.write f i _ (BY eK eV (BX m a b)) W (BA Q) Z Z Z o9 (λb' R=>rO λe=>R (by rw[e2,e];rfl)) (λ_ _ e=>by cases e) λl=>?_,λ_ _ _=>rfl⟩;rw[e2]
 have:=H9 (b:=b) (a:=a) (m:=Bd m a v) (c':=c) (mb:=mb) KT h2 S h4 h5 Y l (by have:=l _ _ M;cases this with | d h=>exact h) (by
  have:=l (.d (eK a)) _ (.d O)
  cases this with | d h=>exact h) (.inr ⟨J,by rw[ME];exact A,by rw[ME];exact N,G,Z⟩) (uD U)
 rw[Ix (b:=b),WE] at this;exact this
theorem QM(k:Nat)(L:∀r b w,SR F s r b w->b.eval x=r h i)(M:ey s.hp h i=some H)(I:Kq H=some (some (B,C),u))(G:Nat.beq h k=false)(Q:Bm P T K E=true)(S:A9 k s.env=some j)(R:A8 k s.hp=some A)(N:Cf A k (.iter h i C [])=some c)(O:Nat.blt d s.n=true):
  AG P F ⟨some d,.range T x,ty,pos,aft,g⟩ s ⟨s.n,(d,.ptr k 0 0)::j,c⟩ (Bl k):=λr b w D=>by
 obtain ⟨t,Y,c',X,W,V,h2,h3,h4,h5,U⟩:=D.mapAt0 (L _ _ _ D) M I;obtain ⟨_,rfl⟩:=U _ _ rfl
 have l:(execOp b.eval ⟨some d,.range T x,ty,pos,aft,g⟩).run P w= .ok (.value (.pointer (some ⟨w.heap.size,0,none⟩))) (w.alloc (.mapIter (some t) C #[] C)):=by
  simp[execOp,Instr.range,run_underlying (Wi Q),X,MapKept.run_getObj_map V,Result.andThen]
 unfold Oper.wp;rw[l];have v:=D.new k (.iter h i C []) (.pointer (some ⟨w.heap.size,0,none⟩)) (.mapIter (some t) C #[] C) S R N Z (λJ=>⟨w.heap.size,t, #[],Z,by rw[Nq (λe=>(jF G) e.1)];exact W,heap_alloc_new w _,Z⟩);exact ⟨_,v.put (IW O) (.ptr QE),λh i a=>Nq λe=>S3 a e.1⟩
theorem Gt(a:Nat)(k:s.ev x=some (.map h i))(o:ey s.hp h i=some (.map (some (B,C)) u))(b:Nat.beq h a=false)(v:Bm P T K E=true)(D:A9 a s.env=some j)(w:A8 a s.hp=some A)(r:Cf A a (.iter h i C [])=some c)(t:Nat.blt d s.n=true):
  AG P F ⟨some d,.range T x,ty,pos,aft,g⟩ s ⟨s.n,(d,.ptr a 0 0)::j,c⟩ (Bl a):=
 QM a (λ_ _ _ l=>l.mapV k) o Z b v D w r t
omit [DecidableEq α] in
theorem X1(m:List (α×β)){seen:List Nat}(hx:AS.ev ⟨k,a,f⟩ x=some (.ptr L 0 0))(hi:ey f L 0=some (.iter h i C seen))(ho:ey f h i=some H)(hmo:Kq H=some (some (B,C),B4 eK eV m))(hd:Nat.blt d k=true)(h0:CC m B seen=[]->Ak P F o t Q ⟨k,(d,.tup [.d (.raw (.bool false))])::a,f⟩)(h1:∀(j b:Nat) (l:α) (v:β),m[j]? =some (l,v)->B[j]? =some b->B.Nodup->(CC m B seen).Perm ((l,v)::CC m B (seen++ [b]))->∃U,B6 f L 0 (.iter h i C (seen++ [b]))=some U/\Ak P F o t Q ⟨k,(d,.tup [.d (.raw (.bool true)),.d (eK l),.d (eV v)])::a,U⟩):
  Ak P F o (⟨some d,.next x false,ty,pos,aft,none⟩::t) Q ⟨k,a,f⟩:=λV M w hs=>by
 obtain ⟨r,mb,O,q1,q2,q3,q4⟩:=hs.heap.sim L 0 _ hi;obtain ⟨G,D,c',p1,p2,p3,p4,p5,p6,p7⟩:=(hs.heap.sim h i _ ho).mapO hmo;obtain ⟨hB,hc⟩:=p7 _ _ rfl;subst hc;have:G=mb:=by rw[p1] at q2;injection q2 with q2;injection q2 with q2
 subst this
 have hxv:M.eval x= .pointer (some ⟨r,0,none⟩):=by
  have hr:=hs.ev hx
  generalize M.eval x=vx at hr
  cases hr with
  | ptr u=>rw[q1] at u;injection u with u;injection u with u;injection u with u;subst u;rfl
 have hzm:D.size=m.length:=by simpa [B4] using p3
 have hBn:B.Nodup:=hB▸p5;have hBl:B.length=m.length:=by rw[hB];simp[hzm]
 refine wpListIn_plain Z λKk hk=>F8 Z ?_;rcases run_next_at (P:=P) w ty r G C C O D C q3 p2 (λe he=>p6 e he) (Γ _) with ⟨hz,I⟩ | ⟨e,he,N,W,I⟩
 .have hl0:CC m B seen=[]:=by
   have hz':D.filter (λe=>!O.contains e.born)= #[]:=Array.eq_empty_of_size_eq_zero hz;rw[Array.filter_eq_empty_iff] at hz';unfold CC;rw[List.map_eq_nil_iff,List.filter_eq_nil_iff];intro q hq S;obtain ⟨j,hj,rfl⟩:=iN hq;rw[List.length_zip] at hj;have hja:j<D.size:=by omega
   have h2:=hz' D[j] (by simp);rw[List.getElem_zip] at S
   have h3:B[j]'(by omega)=D[j].born:=by
    have:=gV (·[j]?) hB;simp only[ν,jH,iW hja,ij] at this;rw[ω (by omega)] at this;injection this
   simp only[h3,<-q4] at S;simp only[Array.contains_toList] at S;exact absurd S (by simpa using h2)
  have hex:(execOp M.eval ⟨some d,.next x false,ty,pos,aft,none⟩).run P w= .ok (.value (.tuple #[.bool false])) w:=by
   simp[execOp,hxv,I,Result.andThen]
  unfold Oper.wp;rw[hex]
  exact hk _ _ (h0 hl0 V _ w (hs.put (IW hd) (.tup (vs:=[.bool false]) Z λi A v J R=>by
   rcases i with _ | i
   .simp at J R;subst J R;exact .d (.raw Z)
   .simp at J)))
 .have he':e∈D/\(!O.contains e.born)=true:=by
   have:e∈D.filter (λe=>!O.contains e.born):=by simpa [leftOf] using he
   rwa [Array.mem_filter] at this
  obtain ⟨j,hj,rfl⟩:=Array.getElem_of_mem he'.1;have Y:j<m.length:=by omega
  have hBj:B[j]? =some D[j].born:=by rw[hB];simp[hj]
  obtain ⟨g1,g2⟩:=p4 j D[j] (eK m[j].1,eV m[j].2) (iW hj) (by simp[B4,Y])
  have hns:D[j].born∉seen:=by
   rw[<-q4];have:=he'.2
   simpa using this
  have X:=Tv hBn (ω Y) hBj hns;obtain ⟨U,hh,hA⟩:=h1 j _ m[j].1 m[j].2 (ω Y) hBj hBn X
  have hex:(execOp M.eval ⟨some d,.next x false,ty,pos,aft,none⟩).run P w= .ok (.value (.tuple #[.bool true,D[j].key,D[j].val])) (setBlock N r (.mapIter (some G) C (O.push D[j].born) C)):=by
   simp[execOp,hxv,I,Result.andThen]
  unfold Oper.wp;rw[hex]
  have hs1:SR F ⟨k,a,f⟩ V M N:=by
   rcases W with rfl | rfl
   .exact hs
   .exact hs.drew Z Z Z Z
  have q3':N.heap[r]? =some (.mapIter (some G) C O C):=by rcases W with rfl | rfl<;>exact q3
  have hr1:AY N (F.O V f) (eK m[j].1) D[j].key/\AY N (F.O V f) (eV m[j].2) D[j].val:=by
   rcases W with rfl | rfl
   .exact ⟨g1,g2⟩
   .exact ⟨g1.mono (w:=w) (w':=w.drew) (Γ _) (λ_ _ _=>rfl) (λ_ _ u=>u),g2.mono (w:=w) (w':=w.drew) (Γ _) (λ_ _ _=>rfl) (λ_ _ u=>u)⟩
  have hw:=hs1.write L 0 _ (.iter h i C (seen++ [D[j].born])) (w':=setBlock N r (.mapIter (some G) C (O.push D[j].born) C)) hi (BA hh) Z Z Z o9 (λb' hb'=>rO λe=>hb' (by rw[q1,e];rfl)) (λ_ _ e=>by cases e) λhrep=>by
   exact ⟨r,G,O.push D[j].born,q1,q2,uD q3',by simp[q4]⟩
  have hO:∀b,F.O V U b->F.O V f b:=λb hh'=>by
   rcases hh' with hh' | ⟨f',i',o1,k1,k2⟩
   .exact .inl hh'
   .refine .inr ?_
    by_cases e:f'=L/\i'=0
    .obtain ⟨rfl,rfl⟩:=e;exact ⟨f',0,_,hi,k2⟩
    .rw[BA hh,κ e] at k1;exact ⟨f',i',o1,k1,k2⟩
  have hbb:∀b,b<N.heap.size->¬F.O V f b->(setBlock N r (.mapIter (some G) C (O.push D[j].born) C)).heap[b]? =N.heap[b]?:=λb _ hn=>rO λe=>hn (.inr ⟨L,0,_,hi,by rw[q1,e];rfl⟩);refine hk _ _ (hA V _ _ (hw.put (IW hd) (.tup (vs:=[.bool true,D[j].key,D[j].val]) Z λi A v J R=>?_)));rcases i with _ | _ | _ | i
  .simp at J R;subst J R;exact .d (.raw Z)
  .simp at J R;subst J R;exact .d (hr1.1.mono (Nat.le_of_eq o9.symm) hbb (λb _=>hO b))
  .simp at J R;subst J R;exact .d (hr1.2.mono (Nat.le_of_eq o9.symm) hbb (λb _=>hO b))
  .simp at J
omit [DecidableEq α] in
theorem Lz(m:List (α×β)){seen:List Nat}(u:AS.ev ⟨k,a,f⟩ x=some (.ptr L 0 0))(A:ey f L 0=some (.iter h i C seen))(w:ey f h i=some (.map (some (B,C)) (B4 eK eV m)))(D:Nat.blt d k=true)(H:CC m B seen=[]->Ak P F o t Q ⟨k,(d,.tup [.d (.raw (.bool false))])::a,f⟩)(G:∀(j b:Nat) (l:α) (v:β),m[j]? =some (l,v)->B[j]? =some b->B.Nodup->(CC m B seen).Perm ((l,v)::CC m B (seen++ [b]))->∃r,B6 f L 0 (.iter h i C (seen++ [b]))=some r/\Ak P F o t Q ⟨k,(d,.tup [.d (.raw (.bool true)),.d (eK l),.d (eV v)])::a,r⟩):
  Ak P F o (⟨some d,.next x false,ty,pos,aft,none⟩::t) Q ⟨k,a,f⟩:=
 X1 m u A w Z D H G
omit [DecidableEq α] in
theorem QO(m:List (α×β))(j b:Nat){seen:List Nat}(hx:s.ev x=some (.ptr L 0 0))(hi:ey s.hp L 0=some (.iter h i C (seen++ [b])))(ho:ey s.hp h i=some H)(S:Kq H=some (some (B,C),B4 eK eV m))(X:m[j]? =some (M,N))(Y:B[j]? =some b)(hd:Nat.blt d s.n=true):
  AA P F ⟨some d,.entry x,ty,pos,aft,g⟩ s d (.tup [.d (eK M),.d (eV N)]):=
 Cv _ hd λρ I w R=>by
  obtain ⟨r,mb,sn,q1,u,V,q4⟩:=R.heap.sim L 0 _ hi;obtain ⟨A,t,c',p1,p2,p3,p4,p5,p6,p7⟩:=(R.heap.sim h i _ ho).mapO S;obtain ⟨hB,hc⟩:=p7 _ _ rfl;subst hc;have:A=mb:=by rw[p1] at u;injection u with u;injection u with u
  subst this
  have O:I.eval x= .pointer (some ⟨r,0,none⟩):=by
   have W:=R.ev hx
   generalize I.eval x=vx at W
   cases W with
   | ptr l=>rw[q1] at l;injection l with l;injection l with l;injection l with l;subst l;rfl
  have hjm:j<m.length:=(φ.1 X).1;have hzm:t.size=m.length:=by simpa [B4] using p3
  have U:t[j].born=b:=by
   rw[hB] at Y;simpa [show j<t.size by omega] using Y
  have Q:sn=(⟨seen⟩:Array Nat).push t[j].born:=by
   apply Array.ext'
   rw[q4,Array.toList_push,U]
  rw[Q] at V;have D:=run_entry_at (P:=P) w r A C ⟨seen⟩ t C t[j] V p2 (by simp) p5;obtain ⟨g1,g2⟩:=p4 j t[j] (eK M,eV N) (iW (by omega)) (by simp[B4,X]);refine ⟨.tuple #[t[j].key,t[j].val],by simp[execOp,O,D,Result.andThen],.tup (vs:=[t[j].key,t[j].val]) Z λi a N G J=>?_⟩;rcases i with _ | _ | i
  .simp at G J;subst G J;exact .d g1
  .simp at G J;subst G J;exact .d g2
  .simp at G
omit [DecidableEq α] in
theorem Gu(m:List (α×β))(j b:Nat){seen:List Nat}(a:s.ev x=some (.ptr L 0 0))(r:ey s.hp L 0=some (.iter h i C (seen++ [b])))(l:ey s.hp h i=some (.map (some (B,C)) (B4 eK eV m)))(o:m[j]? =some (M,N))(u:B[j]? =some b)(t:Nat.blt d s.n=true):
  AA P F ⟨some d,.entry x,ty,pos,aft,g⟩ s d (.tup [.d (eK M),.d (eV N)]):=
 QO m j b a r l Z o u t
end
end Go.Proofs.YteifpcnphnhaoaaGreat
namespace Go.Proofs.YteifpcnphnhaoaaGreat
open Go.RowKit
variable{P:Program}{K:TypeId}
theorem Bs.int(c:P.underlying K=some (.int .i64)):Bs P K (λz:Int=> .raw (.int .i64 z)) (λz=> .int .i64 z):=
 Bs.plain c (λ_=>rfl) (λ_=>rfl) λa b=>by simp[Instr.sameNow];rfl
def Gr(l:List UInt8):Value:= .string ⟨l.toArray⟩
theorem RH(a b:List UInt8):((⟨a.toArray⟩:ByteArray)==⟨b.toArray⟩)=decide (a=b):=by grind[beq_toListBytes,ByteArray.toList_eq]
theorem Bs.str(c:P.underlying K=some .string):Bs P K An Gr:=
 Bs.plain c (λ_=>rfl) (λ_=>trivial) λa b=>by simp only[Instr.sameNow,Gr,RH]
def KC(rec:TypeId->Option (List TypeDesc)):Nat->List Field->Option (List TypeDesc)
 | _,[]=>some []
 | off,f::fs=>match rec f.type with
  | none=>none
  | some ds=>match KC rec (off+ds.length) fs with
   | none=>none
   | some r=>match Nat.beq f.offset off && f.name != "_" with
    | true=>some (ds++r)
    | false=>none
def Dy(P:Program):Nat->TypeId->Option (List TypeDesc)
 | 0,_=>none
 | m+1,T=>match P.underlying T with
  | some (.int k)=>some [.int k]
  | some .string=>some [.string]
  | some .bool=>some [.bool]
  | some (.struct fs)=>match KC (Dy P m) 0 fs.toList with
   | none=>none
   | some ds=>match A4 P T ds.length && !P.stoodInHeld T with
    | true=>some ds
    | false=>none
  | _=>none
def BE(ds:List TypeDesc)(us:List Value):Prop:=us.length=ds.length/\∀(i:Nat) d u,ds[i]? =some d->us[i]? =some u->MapKept.IsKey d u
def IK(P:Program)(T:TypeId):Bool:=match P.underlying T with
 | some (.struct _)=>true
 | _=>false
def Pr(P:Program)(T:TypeId)(us:List Value):Value:=match IK P T with
 | true=> .agg us.toArray
 | false=>us.headD undef
def PJ:Value->Value->Bool
 | .int _ a,.int _ b=>a==b
 | .string a,.string b=>a.toList==b.toList
 | .bool a,.bool b=>a==b
 | _,_=>false
def BV:List Value->List Value->Bool
 | [],[]=>true
 | a::r,b::s=>PJ a b && BV r s
 | _,_=>false
theorem PI{a f b c:List Value}(h:a.length=b.length):BV (a++f) (b++c)=(BV a b && BV f c):=by
 induction a generalizing b with
 | nil=>
  grind[BV]
 | cons x r g=>
  cases b with
  | nil=>simp at h
  | cons y s=>simp only[List.cons_append,BV,g (show r.length=s.length by simpa using h),Bool.and_assoc]
theorem BE.split{b a:List TypeDesc}{c:List Value}(h:BE (b++a) c):BE b (c.take b.length)/\BE a (c.drop b.length):=by grind[BE]
section
variable{P:Program}
variable{a:List TypeDesc}{T:TypeId}{c:Nat}
theorem Hs(h:Dy P c T=some a)(b:IK P T=false):∃d,a=[d]/\P.underlying T=some d/\((∃k,d= .int k)\/d= .string\/d= .bool):=by
 cases c with
 | zero=>cases h
 | succ c=>
  grind[Dy,IK]
theorem Hr(h:Dy P c T=some a)(g:IK P T=true):∃b f,c=b+1/\P.underlying T=some (.struct f)/\KC (Dy P b) 0 f.toList=some a/\A4 P T a.length=true/\P.stoodInHeld T=false:=by
 cases c with
 | zero=>cases h
 | succ c=>
  grind[Dy,IK]
theorem Ga(h:Dy P c T=some a)(w:World)(f:List Value)(b:Nat)(s:b+a.length<=f.length):(part T f.toArray b).run P w= .ok (Pr P T ((f.drop b).take a.length)) w:=by
 cases hs:IK P T with
 | false=>
  obtain ⟨d,rfl,i,o⟩:=Hs h hs
  have j:(isAgg T).run P w= .ok false w:=by
   rcases o with ⟨k,rfl⟩ | rfl | rfl<;>simp[isAgg,run_underlying i,Result.andThen]
  grind[part,Sem.run_bind,Result.andThen_ok,Pr,Sem.run_pure,kY]
 | true=>
  obtain ⟨r,t,rfl,i,_,l,_⟩:=Hr h hs;have j:(isAgg T).run P w= .ok true w:=by simp[isAgg,run_underlying i,Result.andThen]
  have g:=nV (P:=P) (aO l) w;simp only[part,Sem.run_bind,j,Result.andThen_ok,if_true,g,Sem.run_pure,Pr,hs]
  congr 2
  apply Array.ext'
  simp
theorem FU:∀(m:Nat) (T:TypeId) (g:List TypeDesc),Dy P m T=some g->∀(d:Nat) (c b:List Value),BE g c->BE g b->∀w,(Op.equalIn (d+m) T (Pr P T c) (Pr P T b)).run P w= .ok (BV c b) w
 | 0,_,_,h=>by cases h
 | m+1,T,g,h=>λd c b l j w=>by
  cases hs:IK P T with
  | false=>
   obtain ⟨L,rfl,t,W⟩:=Hs h hs;obtain ⟨u,rfl⟩:=List.length_eq_one_iff.1 l.1;obtain ⟨v,rfl⟩:=List.length_eq_one_iff.1 j.1;have B:=l.2 0 L u Z Z;have A:=j.2 0 L v Z Z;simp only[Pr,hs,List.headD_cons,BV,Bool.and_true];rcases W with ⟨k,rfl⟩ | rfl | rfl
   .cases u<;>cases v<;>simp only[MapKept.IsKey] at B A
    subst B A;exact run_equalIn_int w (d+m) T _ _ _ _ t
   .cases u<;>cases v<;>simp only[MapKept.IsKey] at B A
    exact run_equalIn_string w (d+m) T _ _ t
   .cases u<;>cases v<;>simp only[MapKept.IsKey] at B A
    exact run_equalIn_bool' w (d+m) T _ _ t
  | true=>
   obtain ⟨m',o,E,t,F,hz,D⟩:=Hr h hs;injection E with E;subst E
   have K:P.fieldsOf T=o:=by simp[Program.fieldsOf,t]
   simp only[Pr,hs];rw[<-Nat.add_assoc,run_equalIn_struct w (d+m) T _ _ (by rw[K];exact t) D,K]
   -- along the fields
   have C:∀(o:List Field) (a:Nat) (g:List TypeDesc) (c b:List Value),KC (Dy P m) a o=some g->BE g (c.drop a)->BE g (b.drop a)->a<=c.length->a<=b.length->(Op.eqFields (d+m) c.toArray b.toArray o).run P w= .ok (BV (c.drop a) (b.drop a)) w:=by
    intro o
    induction o with
    | nil=>
     intro a g c b h l j _ _;simp only[KC,Option.some.injEq] at h;subst h;rw[je l.1,je j.1];rfl
    | cons f o R=>
     intro a g c b h l j V U;simp only[KC] at h
     split at h
     .cases h
     .rename_i d1 H
      split at h
      .cases h
      .rename_i r S
       split at h
       .rename_i G
        injection h with h;subst h
        simp only[gq] at G;have x:=iG G.1;have s:f.name≠ "_" :=by simpa using G.2
        have Q:=l.1;have O:=j.1;rw[Δ,jT] at Q O;have z:a+d1.length<=c.length:=by omega
        have y:a+d1.length<=b.length:=by omega
        obtain ⟨N,J⟩:=l.split;obtain ⟨M,I⟩:=j.split;rw[List.drop_drop] at J I;have e1:=Ga H w c a z;have e2:=Ga H w b a y;have Y:=FU m f.type d1 H d _ _ N M w;have X:=R (a+d1.length) r c b S J I z y;simp only[Op.eqFields,s,ne_eq,not_false_eq_true,if_true,x,Sem.run_bind,e1,e2,Y,Result.andThen_ok]
        have i:BV (c.drop a) (b.drop a)=(BV ((c.drop a).take d1.length) ((b.drop a).take d1.length) && BV (c.drop (a+d1.length)) (b.drop (a+d1.length))):=by
         rw[<-List.drop_drop,<-List.drop_drop,<-PI (by simp;omega),kX,kX]
        rw[i]
        cases hc:BV ((c.drop a).take d1.length) ((b.drop a).take d1.length) with
        | false=>simp
        | true=>simp only[Bool.not_true,Bool.false_eq_true,if_false,Bool.true_and];exact X
       .cases h
   have:=C o.toList 0 g c b F (by simpa using l) (by simpa using j) (ζ _) (ζ _)
   simpa using this
theorem Jj(z:Bool):∀(m:Nat) (T:TypeId) (k:List TypeDesc),Dy P m T=some k->∀(d:Nat) (c:List Value),BE k c->∀w,(Instr.checkKey z (d+m) T (Pr P T c)).run P w= .ok () w
 | 0,_,_,h=>by cases h
 | m+1,T,k,h=>λd c l w=>by
  cases hs:IK P T with
  | false=>
   obtain ⟨N,rfl,o,Q⟩:=Hs h hs;obtain ⟨u,rfl⟩:=List.length_eq_one_iff.1 l.1;have G:=l.2 0 N u Z Z;simp only[Pr,hs,List.headD_cons];exact MapKept.run_checkKey o G z (d+m)
  | true=>
   obtain ⟨O,K,v,o,a,I,s⟩:=Hr h hs;injection v with v;subst v
   simp only[Pr,hs];rw[<-Nat.add_assoc];simp only[Instr.checkKey,Sem.run_bind,run_underlying o,Result.andThen_ok];rw[<-Array.forIn_toList];have y:BE k (c.drop 0):=by simpa using l
   have t:0<=c.length:=ζ _
   clear h hs I l o s
   generalize K.toList=C at a⊢
   generalize (0:Nat)=b at a y t
   induction C generalizing b k with
   | nil=>rfl
   | cons f C H=>
    simp only[KC] at a
    split at a
    .cases a
    .rename_i d1 B
     split at a
     .cases a
     .rename_i r J
      split at a
      .rename_i x
       injection a with a;subst a
       simp only[gq] at x;have i:=iG x.1;have g:f.name≠ "_" :=by simpa using x.2
       have F:=y.1;rw[Δ,jT] at F;have j:b+d1.length<=c.length:=by omega
       obtain ⟨E,A⟩:=y.split;rw[List.drop_drop] at A;have M:=Ga B w c b j;have L:=Jj z m f.type d1 B d _ E w;have D:=H r (b+d1.length) J A j;rw[List.forIn_cons];simp only[g,ne_eq,not_false_eq_true,if_true,i,Sem.run_bind,M,L,Result.andThen_ok,Sem.run_pure] at D⊢;exact D
      .cases a
theorem I4{d:TypeDesc}{u:Value}(h:MapKept.IsKey d u)(n:Nat):Instr.sameBits n u u=true:=by
 cases d<;>cases u<;>simp only[MapKept.IsKey] at h<;>cases n<;>simp[Instr.sameBits]<;>exact (beq_toListBytes _ _).trans (by simp)
theorem V8(h:Dy P c T=some a){b:List Value}(g:BE a b)(w:World):(Instr.keyThatStays (Pr P T b) (Pr P T b)).run P w= .ok (Pr P T b) w:=by
 have:Instr.sameBits 10000 (Pr P T b) (Pr P T b)=true:=by
  cases hs:IK P T with
  | false=>
   obtain ⟨o,rfl,j,r⟩:=Hs h hs;obtain ⟨u,rfl⟩:=List.length_eq_one_iff.1 g.1;simp only[Pr,hs,List.headD_cons];exact I4 (g.2 0 o u Z Z) _
  | true=>
   simp only[Pr,hs];show Instr.sameBits (9999+1) _ _=true;simp only[Instr.sameBits,beq_self_eq_true,Bool.true_and,j9];intro p k;obtain ⟨i,l,e⟩:=iN k;rw[List.getElem_zip] at e;rw[<-e]
   simp only
   have f:i<b.length:=by simpa using l
   have j:i<a.length:=by rw[<-g.1];exact f
   exact I4 (g.2 i a[i] b[i] (ω j) (ω f)) _
 simp[Instr.keyThatStays,this]
theorem Bs.flat{h:Type}[DecidableEq h]{K:TypeId}{eK:h->D}{c:h->List Value}{ds:List TypeDesc}(g:Dy P 8 K=some ds)(i:IK P K=true)(k:∀a,(eK a).val? =some (.agg (c a).toArray))(f:∀a,BE ds (c a))(l:∀a b,BV (c a) (c b)=decide (a=b)):Bs P K eK λa=> .agg (c a).toArray:=by
 have j:∀a,Pr P K (c a)= .agg (c a).toArray:=λa=>by simp only[Pr,i]
 obtain ⟨s,t,_,o,_⟩:=Hr g i;refine Bs.asking o k (λw r a=>?_) (λw a b=>?_) (λa b=>by simp[Instr.sameNow]) (λw a=>?_)
 .have:=Jj r 8 K ds g 9992 (c a) (f a) w
  grind
 .have:=FU 8 K ds g 9992 (c a) (c b) (f a) (f b) w;rw[j,j,l] at this;exact this
 .have:=V8 g (f a) w
  grind
end
theorem JT:∀a b:List UInt8,Op.bytesLess b a=(!Op.bytesLess a b && !a==b)
 | [],[]=>rfl
 | [],_::_=>rfl
 | _::_,[]=>rfl
 | x::a,y::b=>by
  have j:=JT a b;rcases Nat.lt_trichotomy x.toNat y.toNat with h | h | h
  .have f:x<y:=UInt8.lt_iff_toNat_lt.2 h;have c:¬y<x:=λg=>by have:=UInt8.lt_iff_toNat_lt.1 g;omega
   have i:y≠x:=λe=>by subst e;omega
   simp[Op.bytesLess,f,c,i]
  .have f:x=y:=UInt8.toNat_inj.1 h;subst f;have c:¬x<x:=λg=>by have:=UInt8.lt_iff_toNat_lt.1 g;omega
   simp[Op.bytesLess,c,j]
  .have f:y<x:=UInt8.lt_iff_toNat_lt.2 h;have c:¬x<y:=λg=>by have:=UInt8.lt_iff_toNat_lt.1 g;omega
   have i:x≠y:=λe=>by subst e;omega
   simp[Op.bytesLess,f,c,i]
section
variable{P:Program}{F:Fr}{s:AS}{d:Nat}{ty T T':TypeId}{pos:String}{aft:Array Edge}{g:Option (Nat×Bool)}{x y:Operand}
variable{t:Bool}
theorem XE{a b:ByteArray}(h:s.ev x=some (.d (.raw (.string a))))(f:s.ev y=some (.d (.raw (.string b))))(i:Nat.blt d s.n=true):AA P F ⟨some d,.binOp .gtr T x y T',ty,pos,aft,g⟩ s d (.d (.raw (.bool (Op.bytesLess b.toList a.toList)))):=
 Cv _ i λ_ j _ c=>⟨.bool (Op.bytesLess b.toList a.toList),by simp[execOp,eqGuard,binOp,Op.stringOp,c.raw h,c.raw f,JT a.toList b.toList],.d (.raw Z)⟩
theorem Fg{a b:D}{la lb:List Value}{ds:List TypeDesc}(r:Dy P 8 T=some ds)(l:IK P T=true)(o:P.eqGuardType P.depth T=false)(j:s.ev x=some (.d a))(i:s.ev y=some (.d b))(z:a.val? =some (.agg la.toArray))(v:b.val? =some (.agg lb.toArray))(h:BE ds la)(f:BE ds lb)(k:BV la lb=t)(u:Nat.blt d s.n=true):
  AA P F ⟨some d,.binOp .eql T x y T',ty,pos,aft,g⟩ s d (.d (.raw (.bool t))):=
 Cv _ u λE C w c=>by
  have B:=(c.repD j).val z;have A:=(c.repD i).val v;have:=FU 8 T ds r 9992 la lb h f w;simp only[Pr,l,k] at this;exact ⟨.bool t,by simp[execOp,B,A,run_eqGuard_agg w .eql T x y _ _ o,run_eql_struct,this,Result.andThen],.d (.raw Z)⟩
theorem OF{a b:D}{la lb:List Value}{ds:List TypeDesc}(r:Dy P 8 T=some ds)(l:IK P T=true)(o:P.eqGuardType P.depth T=false)(j:s.ev x=some (.d a))(i:s.ev y=some (.d b))(z:a.val? =some (.agg la.toArray))(v:b.val? =some (.agg lb.toArray))(h:BE ds la)(f:BE ds lb)(k:(!BV la lb)=t)(u:Nat.blt d s.n=true):
  AA P F ⟨some d,.binOp .neq T x y T',ty,pos,aft,g⟩ s d (.d (.raw (.bool t))):=
 Cv _ u λE C w c=>by
  have B:=(c.repD j).val z;have A:=(c.repD i).val v;have:=FU 8 T ds r 9992 la lb h f w;simp only[Pr,l] at this;exact ⟨.bool t,by simp[execOp,B,A,run_eqGuard_agg w .neq T x y _ _ o,run_neq_struct,this,k,Result.andThen],.d (.raw Z)⟩
end
end Go.Proofs.YteifpcnphnhaoaaGreat
