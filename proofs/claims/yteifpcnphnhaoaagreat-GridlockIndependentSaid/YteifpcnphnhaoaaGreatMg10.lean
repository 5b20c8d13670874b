import Derived.Test.YteifpcnphnhaoaaGreatMg9
import Derived.Maps.RangeRun
import Derived.Laws.StructEq
import Derived.WideLaws
namespace Go.Proofs.YteifpcnphnhaoaaGreat
open Go.RowKit
def SO:List D ->Option (List Value)
 | []=>some []
 | d::r=>match SO r with
  | none=>none
  | some l=>match d with
   | .raw v=>some (v::l)
   | _=>none
def D.val?:D ->Option Value
 | .raw v=>some v
 | .agg cs=>match SO cs with
  | none=>none
  | some l=>some (.agg l.toArray)
 | _=>none
theorem Mr {w:World} {O:Nat ->Prop}:∀{f:List D} {l vs:List Value},SO f=some l ->vs.length=f.length ->(∀(i:Nat) c v,f[i]? =some c ->vs[i]? =some v ->AN w O c v) ->vs=l
 | [],l,vs,h,a,_=>by
  simp only [SO,Option.some.injEq] at h;subst h;exact ij a
 | d::r,l,vs,h,a,g=>by
  simp only [SO] at h
  split at h
  .cases h
  .rename_i t b
   split at h
   .rename_i v
    injection h with h;subst h
    match vs,a with
    | u::j,a=>
     have s:=g 0 _ u Z Z
     cases s with
     | raw _=>rw [Mr (w:=w) (O:=O) (vs:=j) b (by simpa using a) λi c v o k=>g (i+1) c v (by simpa using o) (by simpa using k)]
   .cases h
theorem AN.val {w:World} {O:Nat ->Prop} {d:D} {v b:Value} (h:AN w O d v) (a:d.val? =some b):v=b:=by
 cases d with
 | raw u=>simp only [D.val?,Option.some.injEq] at a;subst a;cases h;rfl
 | agg i=>
  simp only [D.val?] at a
  split at a
  .cases a
  .rename_i l c
   injection a with a;subst a
   cases h with
   | agg g _ f=>rw [Mr c g f]
 | _=>cases a
section
variable {α:Type} [DecidableEq α]
variable {a:α ->Value} {c:TypeDesc} {P:Program} {K:TypeId}
def I8 (a:α):List α ->List MapEntry ->Nat ->Option (Nat×Value)
 | b::r,e::es,i=>if a=b then some (i,e.val) else I8 a r es (i+1)
 | _,_,_=>none
theorem Ph {a:α}:∀{l:List α} {g:List MapEntry} {i:Nat},g.length=l.length ->I8 a l g i=none ->a∉l
 | [],_,_,_,_=>by simp
 | b::r,[],_,h,_=>by simp at h
 | b::r,e::g,i,h,c=>by
  simp only [I8] at c
  split at c
  .cases c
  .rename_i f
   simp only [fP,not_or];exact ⟨f,Ph (by simpa using h) c⟩
theorem Pg {a:α}:∀{l:List α} {o:List MapEntry} {i j:Nat} {v:Value},I8 a l o i=some (j,v) ->i<=j/\l[j - i]? =some a/\(∃e,o[j - i]? =some e/\e.val=v)/\∀k,k<j - i ->l[k]?≠some a
 | [],[],_,_,_,h=>by simp [I8] at h
 | [],_::_,_,_,_,h=>by simp [I8] at h
 | b::r,[],i,_,_,h=>by simp [I8] at h
 | b::r,e::o,i,j,v,h=>by
  simp only [I8] at h
  split at h
  .rename_i f
   injection h with h;injection h with t g;subst t g f
   refine ⟨ϖ _,by simp,⟨e,by simp,Z⟩,λk u=>by omega⟩
  .rename_i c
   obtain ⟨t,g,⟨z,y,x⟩,w⟩:=Pg h;have s:j - i=(j - (i+1))+1:=by omega
   refine ⟨by omega,by rw [s];simpa using g,⟨z,by rw [s];simpa using y,x⟩,λk u=>?_⟩
   cases k with
   | zero=>simp;exact λe=>c e.symm
   | succ k=>simpa using w k (by omega)
structure B7 (P:Program) (K:TypeId) (eK:α ->D) (kv:α ->Value):Prop where
 val:∀a,(eK a).val? =some (kv a)
 check:∀w em a,(Instr.checkKey em 10000 K (kv a)).run P w= .ok () w
 find:∀w a (es:List MapEntry) (l:List α),es.map (·.key)=l.map kv ->(Instr.findKey K (kv a) es).run P w= .ok (I8 a l es 0) w
 stays:∀w a,(Instr.keyThatStays (kv a) (kv a)).run P w= .ok (kv a) w
theorem La {d:TypeDesc} {g:α ->Value} (j:∀a b,Instr.sameNow d (g a) (g b)=some (decide (a=b))) (a:α):∀(l:List α) (f:List MapEntry) (i:Nat),f.map (·.key)=l.map g ->Instr.findNow d (g a) f i=some (I8 a l f i)
 | [],[],i,_=>rfl
 | [],_::_,_,h=>by simp at h
 | _::_,[],_,h=>by simp at h
 | b::r,e::f,i,h=>by
  simp only [gA,List.cons.injEq] at h;simp only [Instr.findNow,h.1,j,I8]
  by_cases c:a=b
  .simp [c]
  .simp only [c,decide_false,if_false];exact La j a r f (i+1) h.2
theorem Hq {P:Program} {K:TypeId} {g:α ->Value} (j:∀w a b,(Op.equal K (g a) (g b)).run P w= .ok (decide (a=b)) w) (w:World) (a:α):∀(l:List α) (f:List MapEntry) (i:Nat),f.map (·.key)=l.map g ->(Instr.findAsking K (g a) f i).run P w= .ok (I8 a l f i) w
 | [],[],i,_=>rfl
 | [],_::_,_,h=>by simp at h
 | _::_,[],_,h=>by simp at h
 | b::r,e::f,i,h=>by
  simp only [gA,List.cons.injEq] at h;simp only [Instr.findAsking,Sem.run_bind,h.1,j,Result.andThen_ok,I8]
  by_cases c:a=b
  .simp [c]
  .simp only [c,decide_false,Bool.false_eq_true,if_false];exact Hq j w a r f (i+1) h.2
theorem B7.plain {eK:α ->D} (i:P.underlying K=some c) (j:∀f,(eK f).val? =some (a f)) (g:∀f,MapKept.IsKey c (a f)) (k:∀f b,Instr.sameNow c (a f) (a b)=some (decide (f=b))):B7 P K eK a where
 val:=j
 check _ em f:=MapKept.run_checkKey i (g f) em 9999
 find _ f es l h:=MapKept.run_findKey i (La k f l es 0 h)
 stays _ f:=MapKept.run_keyThatStays (g f)
theorem B7.asking {eK:α ->D} (s:P.underlying K=some c) (i:∀f,(eK f).val? =some (a f)) (t:∀w v f,(Instr.checkKey v 10000 K (a f)).run P w= .ok () w) (k:∀w f b,(Op.equal K (a f) (a b)).run P w= .ok (decide (f=b)) w) (o:∀f b,Instr.sameNow c (a f) (a b)=none) (j:∀w f,(Instr.keyThatStays (a f) (a f)).run P w= .ok (a f) w):B7 P K eK a where
 val:=i
 check:=t
 find w f g l h:=by
  simp only [Instr.findKey,Sem.run_bind,run_underlying s,Result.andThen_ok]
  cases g with
  | nil=>
   cases l with
   | nil=>rfl
   | cons _ _=>simp at h
  | cons e g=>
   cases l with
   | nil=>simp at h
   | cons b r=>
    have u:=h;simp only [gA,List.cons.injEq] at h;simp only [Instr.findNow,h.1,o];exact Hq k w f _ _ 0 u
 stays:=j
variable {β:Type}
variable {a:List (α×β)} {c:α} {f z:β}
def A1:List (α×β) ->α ->β ->β
 | [],_,z=>z
 | (k,b)::r,a,z=>if a=k then b else A1 r a z
def NR:List (α×β) ->α ->Bool
 | [],_=>false
 | (k,_)::r,a=>decide (a=k) || NR r a
def BA:List (α×β) ->α ->β ->List (α×β)
 | [],a,b=> [(a,b)]
 | (k,b')::r,a,b=>if a=k then (k,b)::r else (k,b')::BA r a b
def fJ:List (α×β) ->α ->Nat
 | [],_=>0
 | (k,_)::r,a=>if a=k then 0 else fJ r a+1
def BS (m:List (α×β)) (a:α) (z:β):List (α×β):=BA m a (A1 m a z)
theorem GK (m:List (α×β)) (a c:α) (b z:β):A1 (BA m a b) c z=if c=a then b else A1 m c z:=by
 induction m with
 | nil=>simp [BA,A1]
 | cons p r f=>
  grind [BA,A1]
theorem Dk (m:List (α×β)) (a b:α) (z:β):A1 (BS m a z) b z=A1 m b z:=by grind [BS,GK]
theorem VI (m:List (α×β)) (a:α) (b z:β):BA (BS m a z) a b=BA m a b:=by
 unfold BS
 generalize A1 m a z=c
 induction m with
 | nil=>simp [BA]
 | cons p r f=>
  grind [BA]
theorem Kt (m:List (α×β)) (a:α) (z:β):fJ (BS m a z) a=fJ m a:=by
 unfold BS
 generalize A1 m a z=c
 induction m with
 | nil=>simp [BA,fJ]
 | cons p r b=>
  grind [BA,fJ]
theorem MI {m:List (α×β)} {a:α} {b:β}:(BA m a b)[fJ m a]? =some (a,b)/\∀j,j≠fJ m a ->(BA m a b)[j]? =m[j]?:=by
 induction m with
 | nil=>
  grind [BA,fJ]
 | cons p r c=>
  grind [BA,fJ]
theorem Jg {m:List (α×β)} {a:α} {b:β}:(BA m a b).length=max m.length (fJ m a+1)/\fJ m a<=m.length:=by
 induction m with
 | nil=>simp [BA,fJ]
 | cons p r c=>
  grind [BA,fJ]
theorem FH:NR a c=true↔c∈a.map Prod.fst:=by
 induction a with
 | nil=>simp [NR]
 | cons p r f=>obtain ⟨k,b⟩:=p;simp [NR,f]
theorem Kr:(BA a c f).map Prod.fst=if c∈a.map Prod.fst then a.map Prod.fst else a.map Prod.fst++ [c]:=by
 induction a with
 | nil=>simp [BA]
 | cons p r g=>
  grind [BA]
theorem NQ (h:(a.map Prod.fst).Nodup):((BA a c f).map Prod.fst).Nodup:=by grind [Kr]
theorem mQ {z:β} (i:(a.map Prod.fst).Nodup) (h:(c,f)∈a):A1 a c z=f:=by
 induction a with
 | nil=>cases h
 | cons p r g=>
  grind [A1]
theorem IQ (h:c∉a.map Prod.fst):A1 a c z=z:=by
 induction a with
 | nil=>rfl
 | cons p r b=>
  grind [A1]
theorem Hh (h:c∈a.map Prod.fst):(c,A1 a c z)∈a:=by
 induction a with
 | nil=>simp at h
 | cons p r b=>
  grind [A1]
def Bi (m:List (α×β)) (B seen:List Nat):List (α×β):=((m.zip B).filter λp=>!(seen.contains p.2)).map Prod.fst
omit [DecidableEq α] in
theorem mH {B:List Nat} (h:B.length=a.length):Bi a B []=a:=by
 unfold Bi;rw [List.filter_eq_self.2 (by simp)];exact List.map_fst_zip (by omega)
omit [DecidableEq α] in
theorem Sk:∀{m:List (α×β)} {B seen:List Nat} {j b:Nat} {x:α×β},B.Nodup ->m[j]? =some x ->B[j]? =some b ->b∉seen ->(Bi m B seen).Perm (x::Bi m B (seen++ [b]))
 | [],_,_,_,_,_,_,h,_,_=>by simp at h
 | y::m,[],_,_,_,_,_,_,h,_=>by simp at h
 | y::m,c::B,seen,j,b,x,i,l,k,t=>by
  simp only [i5] at i
  cases j with
  | zero=>
   simp at l k;subst l k
   have e:∀(m:List (α×β)) (B:List Nat),c∉B ->Bi m B (seen++ [c])=Bi m B seen:=λm B h=>by
    unfold Bi
    congr 1
    refine iD λp u=>?_;have:p.2≠c:=λe=>h (by rw [<-e];exact (List.of_mem_zip u).2)
    simp [this]
   have g:Bi (y::m) (c::B) seen=y::Bi m B seen:=by simp [Bi,t]
   have f:Bi (y::m) (c::B) (seen++ [c])=Bi m B (seen++ [c]):=by simp [Bi]
   rw [g,f,e m B i.1]
  | succ j=>
   have s:=Sk (seen:=seen) i.2 (by simpa using l) (by simpa using k) t;have r:b∈B:=ϑ (by simpa using k);have o:c≠b:=λe=>i.1 (by rw [e];exact r)
   by_cases a:c∈seen
   .have g:Bi (y::m) (c::B) seen=Bi m B seen:=by simp [Bi,a]
    have f:Bi (y::m) (c::B) (seen++ [b])=Bi m B (seen++ [b]):=by simp [Bi,a]
    rw [g,f];exact s
   .have g:Bi (y::m) (c::B) seen=y::Bi m B seen:=by simp [Bi,a]
    have f:Bi (y::m) (c::B) (seen++ [b])=y::Bi m B (seen++ [b]):=by simp [Bi,a,o]
    rw [g,f];exact (List.Perm.cons _ s).trans (List.Perm.swap _ _ _)
end
variable {P:Program} {T:TypeId} {a:AV}
def Z7:Value ->Option AV
 | .agg cs=>match HC cs.toList with
  | none=>none
  | some l=>Iu l
 | v=>Ht v
def Ca (P:Program) (T:TypeId):Option AV:=match P.info? T with
 | none=>none
 | some i=>match i.zero with
  | none=>none
  | some z=>Z7 z
theorem U4 {v:Value} (h:Z7 v=some a) (w:World) (O:Nat ->Prop) (ρ:Nat ->Nat ->Value):AR w O ρ a v:=by
 unfold Z7 at h
 split at h
 .rename_i g
  split at h
  .cases h
  .rename_i l b
   obtain ⟨f,c⟩:=C5 b w O ρ;have:=F3 (w:=w) (O:=O) (ρ:=ρ) h f c;omega
 .exact (Ke h).1
theorem EC (h:Ca P T=some a) (w:World):∃z,(zeroValue T).run P w= .ok z w/\∀(b:World) O ρ,AR b O ρ a z:=by
 unfold Ca at h
 split at h
 .cases h
 .rename_i i c
  split at h
  .cases h
  simp [*,zeroValue,typeInfo,U4]
def B3 (P:Program) (T K E:TypeId):Bool:=match P.underlying T with
 | some (.map k e)=>Nat.beq k K && Nat.beq e E
 | _=>false
theorem Vj {K E:TypeId} (h:B3 P T K E=true):P.underlying T=some (.map K E):=by grind [B3,fx]
section
variable {α β:Type} [DecidableEq α]
def BK (eK:α ->D) (eV:β ->D) (m:List (α×β)):List (D×D):=m.map λx=>(eK x.1,eV x.2)
def BB (eK:α ->D) (eV:β ->D) (m:List (α×β)):AI:= .map (some (List.range m.length,m.length)) (BK eK eV m)
variable {P:Program} {F:Fr} {s:AS} {K:TypeId} {eK:α ->D} {kv:α ->Value} {eV:β ->D}
variable {a:Array MapEntry} {c:List (α×β)} {f:Nat ->Prop} {w:World}
theorem XS (k:B7 P K eK kv) (g:a.size=(BK eK eV c).length)
  (h:∀(i:Nat) e x,a[i]? =some e ->(BK eK eV c)[i]? =some x ->AN w f x.1 e.key/\AN w f x.2 e.val):a.toList.map (·.key)=(c.map Prod.fst).map kv:=by
 simp only [BK,ψ] at g;refine i8 λi=>?_;simp only [η,iE]
 cases ha:a[i]? with
 | none=>
  grind
 | some e=>
  have b:i<c.length:=by have:=(gr.1 ha).1;omega
  rw [ω b];have j:=(h i e (eK c[i].1,eV c[i].2) ha (by simp [BK,b])).1;simp only [gs,Option.some.injEq];exact j.val (k.val _)
theorem fY (J:B7 P K eK kv) (A:a.size=(BK eK eV c).length)
  (h:∀(i:Nat) e x,a[i]? =some e ->(BK eK eV c)[i]? =some x ->AN w f x.1 e.key/\AN w f x.2 e.val) (g:α) (z:β):
  (I8 g (c.map Prod.fst) a.toList 0=none/\NR c g=false/\A1 c g z=z/\fJ c g=c.length)\/∃i e,I8 g (c.map Prod.fst) a.toList 0=some (i,e.val)/\a[i]? =some e/\e.key=kv g/\NR c g=true/\fJ c g=i/\i<c.length/\AN w f (eV (A1 c g z)) e.val:=by
 have j:a.toList.length=(c.map Prod.fst).length:=by simpa [BK] using A
 cases hh:I8 g (c.map Prod.fst) a.toList 0 with
 | none=>
  have B:=Ph j hh;refine .inl ⟨Z,?_,IQ B,?_⟩
  .cases hm:NR c g with
   | false=>rfl
   | true=>exact absurd (FH.1 hm) B
  .clear hh j A h
   induction c with
   | nil=>rfl
   | cons p r E=>
    grind [fJ]
 | some q=>
  obtain ⟨i,v⟩:=q;obtain ⟨_,y,⟨e,u,D⟩,C⟩:=Pg hh;simp only [Nat.sub_zero,iE] at y u C;rw [η] at y
  have o:i<c.length:=by
   grind
  have t:(c[i]).1=g:=by rw [ω o] at y;simpa using y
  have l:fJ c g=i/\A1 c g z=(c[i]).2:=by
   clear hh j A h u D
   induction c generalizing i with
   | nil=>simp at o
   | cons p r E=>
    obtain ⟨k,b⟩:=p
    cases i with
    | zero=>simp at t;subst t;simp [fJ,A1]
    | succ i=>
     have G:g≠k:=λe=>C 0 (by omega) (by simp [e])
     grind [fJ,A1]
  obtain ⟨I,H⟩:=h i e (eK c[i].1,eV c[i].2) u (by simp [BK,o]);refine .inr ⟨i,e,by rw [<-D],u,?_,FH.2 (by rw [<-t];exact ie (ξ o)),l.1,o,by rw [l.2];exact H⟩;have:=I.val (J.val _);rw [this,t]
variable {d:Nat} {ty T E:TypeId} {pos:String} {aft:Array Edge} {g:Option (Nat×Bool)} {x y z:Operand} {bs:Option (List Nat×Nat)}
variable {a:Nat ->Nat ->Value} {c:List (D×D)} {w:World} {f i:Nat} {h:Act} {o:AI}
def Jh:AI ->Option (Option (List Nat×Nat)×List (D×D))
 | .map bs es=>some (bs,es)
 | .nm _ bs es=>some (bs,es)
 | _=>none
theorem Ae.mapO {O:Nat ->Prop} {v:Value} (h:Ae w O a o v) (k:Jh o=some (bs,c)):
  ∃(l:Nat) (j:Array MapEntry) (f:Nat),v= .map (some l)/\w.heap[l]? =some (.map j f)/\j.size=c.length/\(∀(i:Nat) e x,j[i]? =some e ->c[i]? =some x ->AN w O x.1 e.key/\AN w O x.2 e.val)/\
   (j.toList.map (·.born)).Nodup/\(∀e∈j.toList,e.born<f)/\∀B r,bs=some (B,r) ->B=j.toList.map (·.born)/\r=f:=by
 cases o with
 | map _ _=>simp only [Jh,Option.some.injEq,Prod.mk.injEq] at k;obtain ⟨rfl,rfl⟩:=k;exact h
 | nm b _ _=>simp only [Jh,Option.some.injEq,Prod.mk.injEq] at k;obtain ⟨rfl,rfl⟩:=k;exact ⟨b,h.2.choose,h.2.choose_spec.choose,h.1,h.2.choose_spec.choose_spec⟩
 | _=>cases k
theorem SR.mapV (k:SR F s a h w) (j:s.ev x=some (.map f i)):h.eval x=a f i:=by
 have c:=k.ev j
 generalize h.eval x=l at c
 cases c with
 | map b=>exact b.symm
theorem SR.mapAt0 (t:SR F s a h w) (v:h.eval x=a f i) (u:dr s.hp f i=some o) (l:Jh o=some (bs,c)):
  ∃(k:Nat) (j:Array MapEntry) (b:Nat),h.eval x= .map (some k)/\a f i= .map (some k)/\w.heap[k]? =some (.map j b)/\j.size=c.length/\(∀(i:Nat) e x,j[i]? =some e ->c[i]? =some x ->AN w (F.O a s.hp) x.1 e.key/\AN w (F.O a s.hp) x.2 e.val)/\
   (j.toList.map (·.born)).Nodup/\(∀e∈j.toList,e.born<b)/\∀B r,bs=some (B,r) ->B=j.toList.map (·.born)/\r=b:=by
 obtain ⟨k,j,b,C,A⟩:=(t.heap.sim f i _ u).mapO l
 grind
theorem SR.mapAt (l:SR F s a h w) (r:s.ev x=some (.map f i)) (t:dr s.hp f i=some (.map bs c)):
  ∃(k:Nat) (j:Array MapEntry) (b:Nat),h.eval x= .map (some k)/\a f i= .map (some k)/\w.heap[k]? =some (.map j b)/\j.size=c.length/\(∀(i:Nat) e x,j[i]? =some e ->c[i]? =some x ->AN w (F.O a s.hp) x.1 e.key/\AN w (F.O a s.hp) x.2 e.val)/\
   (j.toList.map (·.born)).Nodup/\(∀e∈j.toList,e.born<b)/\∀B o,bs=some (B,o) ->B=j.toList.map (·.born)/\o=b:=
 l.mapAt0 (l.mapV r) t rfl
theorem SB (m:List (α×β)) (a:α) (D v:β) (O:∀k b w,SR F s k b w ->b.eval x=k f i) (R:dr s.hp f i=some o) (u:Jh o=some (bs,BK eK eV m)) (N:s.ev y=some (.d (eK a))) (H:B3 P T K E=true) (h:B7 P K eK kv) (M:Ca P E=some (.d (eV D))) (Q:A1 m a D=v) (S:Nat.blt d s.n=true):
  AA P F ⟨some d,.lookup T x y false,ty,pos,aft,g⟩ s d (.d (eV v)):=
 Cd _ S λk b w t=>by
  obtain ⟨X,W,c,J,_,I,B,A,_⟩:=t.mapAt0 (O _ _ _ t) R u;have G:b.eval y=kv a:=(t.repD N).val (h.val a);obtain ⟨L,r,l⟩:=EC M w;subst Q;rcases fY h B A a D with ⟨C,_,V,_⟩ | ⟨j,e,C,Y,_,_,_,_,U⟩
  .refine ⟨L,?_,by rw [V];exact l _ _ _⟩
   simp [execOp,Instr.lookup,run_underlying (Vj H),J,G,MapKept.run_getObj_map I,h.check,h.find w a _ _ (XS h B A),C,r,Result.andThen]
  .refine ⟨e.val,?_,.d U⟩
   simp [execOp,Instr.lookup,run_underlying (Vj H),J,G,MapKept.run_getObj_map I,h.check,h.find w a _ _ (XS h B A),C,Result.andThen]
theorem HY (m:List (α×β)) (a:α) (b v:β) (j:s.ev x=some (.map f i)) (o:dr s.hp f i=some (.map bs (BK eK eV m))) (h:s.ev y=some (.d (eK a))) (t:B3 P T K E=true) (u:B7 P K eK kv) (c:Ca P E=some (.d (eV b))) (k:A1 m a b=v) (r:Nat.blt d s.n=true):
  AA P F ⟨some d,.lookup T x y false,ty,pos,aft,g⟩ s d (.d (eV v)):=
 SB m a b v (λ_ _ _ l=>l.mapV j) o Z h t u c k r
theorem Ue (m:List (α×β)) (a:α) (M:β) (Y:∀b h w,SR F s b h w ->h.eval x=b f i) (ho:dr s.hp f i=some o) (I:Jh o=some (bs,BK eK eV m)) (X:s.ev y=some (.d (eK a))) (R:B3 P T K E=true) (l:B7 P K eK kv) (W:Ca P E=some (.d (eV M))) (hd:Nat.blt d s.n=true):
  AA P F ⟨some d,.lookup T x y true,ty,pos,aft,g⟩ s d (.tup [.d (eV (A1 m a M)),.d (.raw (.bool (NR m a)))]):=
 Cd _ hd λb h w H=>by
  obtain ⟨mb,arr,c,U,_,C,t,J,_⟩:=H.mapAt0 (Y _ _ _ H) ho I;have Q:h.eval y=kv a:=(H.repD X).val (l.val a);obtain ⟨V,G,D⟩:=EC W w
  have k:∀{A u:Value} {O N:AV},AR w (F.O b s.hp) b O A ->AR w (F.O b s.hp) b N u ->AR w (F.O b s.hp) b (.tup [O,N]) (.tuple #[A,u]):=λ{A u O N} C t=>by
   refine .tup (vs:=[A,u]) Z λi a v r B=>?_;rcases i with _ | _ | i
   .simp at r B;subst r B;exact C
   .simp at r B;subst r B;exact t
   .simp at r
  rcases fY l t J a M with ⟨L,S,g3,_⟩ | ⟨j,e,L,S,_,g4,_,_,g7⟩
  .refine ⟨.tuple #[V,.bool false],?_,k (by rw [g3];exact D _ _ _) (by rw [S];exact .d (.raw Z))⟩
   simp [execOp,Instr.lookup,run_underlying (Vj R),U,Q,MapKept.run_getObj_map C,l.check,l.find w a _ _ (XS l t J),L,G,Result.andThen]
  .refine ⟨.tuple #[e.val,.bool true],?_,k (.d g7) (by rw [g4];exact .d (.raw Z))⟩
   simp [execOp,Instr.lookup,run_underlying (Vj R),U,Q,MapKept.run_getObj_map C,l.check,l.find w a _ _ (XS l t J),L,Result.andThen]
theorem PI (m:List (α×β)) (a:α) (b:β) (j:s.ev x=some (.map f i)) (l:dr s.hp f i=some (.map bs (BK eK eV m))) (h:s.ev y=some (.d (eK a))) (r:B3 P T K E=true) (t:B7 P K eK kv) (c:Ca P E=some (.d (eV b))) (o:Nat.blt d s.n=true):
  AA P F ⟨some d,.lookup T x y true,ty,pos,aft,g⟩ s d (.tup [.d (eV (A1 m a b)),.d (.raw (.bool (NR m a)))]):=
 Ue m a b (λ_ _ _ k=>k.mapV j) l Z h r t c o
theorem O4 (f:Nat) {a:List (Nat×AV)} {c j:Hp} (A:AX f s.env=some a) (v:AT f s.hp=some c) (t:CP c f (.map (some ([],0)) [])=some j) (u:Nat.blt d s.n=true):
  AH P F ⟨some d,.makeMap T none,ty,pos,aft,g⟩ s ⟨s.n,(d,.map f 0)::a,j⟩ (B2 f):=λC l w r=>by
 have b:(execOp l.eval ⟨some d,.makeMap T none,ty,pos,aft,g⟩).run P w= .ok (.value (.map (some w.heap.size))) (w.alloc (.map #[] 0)):=by
  simp [execOp,run_makeMap,Result.andThen]
 unfold Oper.wp;rw [b];have k:=r.new f (.map (some ([],0)) []) (.map (some w.heap.size)) (.map #[] 0) A v t Z (λo=>⟨w.heap.size, #[],0,Z,heap_alloc_new w _,Z,by simp,by simp,by simp,λB D e=>by injection e with e;injection e with e1 e2;subst e1 e2;simp⟩);exact ⟨_,k.put (IB u) (.map Oq),λf i h=>MX λe=>RU h e.1⟩
end
end Go.Proofs.YteifpcnphnhaoaaGreat
namespace Go.Proofs.YteifpcnphnhaoaaGreat
open Go.RowKit Go.ChangeMaps
section
variable {α β:Type} [DecidableEq α]
variable {P:Program} {F:Fr} {s:AS} {K:TypeId} {eK:α ->D} {kv:α ->Value} {eV:β ->D}
variable {d:Nat} {ty T E:TypeId} {pos:String} {aft:Array Edge} {g:Option (Nat×Bool)} {x y z:Operand} {bs:Option (List Nat×Nat)}
variable {a:List (Nat×AV)} {c f:Hp} {B:List Nat} {i h:Nat} {j:List (Nat×AV)} {k:Nat} {Q:Exit ->AS ->Prop} {w:World} {o:Array Oper} {t:List Oper} {u:List (D×D)} {A:Hp} {C G:Nat} {H:AI} {I:Obj} {L:Nat} {M:α} {N:β}
def OM (m:List (α×β)) (a:α):Option (List Nat×Nat) ->Option (List Nat×Nat)
 | none=>none
 | some (B,c)=>if fJ m a<m.length then some (B,c) else some (B++ [c],c+1)
theorem Hv (m:List (α×β)) (a:α) (b:β):OM m a (some (List.range m.length,m.length))=some (List.range (BA m a b).length,(BA m a b).length):=by grind [Jg,OM,gT]
theorem G7 (_:B7 P K eK kv) {Q:World} {O X:Nat ->Prop} {Y:Nat ->Nat ->Value} {m:List (α×β)} {a:α} {b:β} {j t:Array MapEntry} {c' mb:Nat} {v:Value}
  (hz:j.size=(BK eK eV m).length) (h:∀(i:Nat) e x,j[i]? =some e ->(BK eK eV m)[i]? =some x ->AN w O x.1 e.key/\AN w O x.2 e.val)
  (hn:(j.toList.map (·.born)).Nodup) (hb:∀e∈j.toList,e.born<C) (W:∀B c',bs=some (B,c') ->B=j.toList.map (·.born)/\c'=C)
  (S:∀A v,AR w O Y A v ->AR Q X Y A v) (hv:AN Q X (eV b) v) (U:AN Q X (eK a) (kv a))
  (L:(fJ m a=m.length/\t=j.push {key:=kv a,val:=v,born:=C}/\c'=C+1)\/∃e,j[fJ m a]? =some e/\fJ m a<m.length/\t=(j.modify (fJ m a) λe=>{e with key:=kv a,val:=v})/\c'=C)
  (D:Q.heap[mb]? =some (.map t c')):Ae Q X Y (.map (OM m a bs) (BK eK eV (BA m a b))) (.map (some mb)):=by
 have hzm:j.size=m.length:=by simpa [BK] using hz
 obtain ⟨l1,l2⟩:=Jg (m:=m) (a:=a) (b:=b);obtain ⟨p1,p2⟩:=MI (m:=m) (a:=a) (b:=b)
 have l:∀x v,AN w O x v ->AN Q X x v:=λx v o=>by
  have:=S (.d x) v (.d o)
  cases this with | d h=>exact h
 rcases L with ⟨hm,rfl,rfl⟩ | ⟨e0,J,hlt,rfl,rfl⟩
 .refine ⟨mb,_,_,Z,D,?_,λi e x k o=>?_,?_,λe k=>?_,λB c' M=>?_⟩
  .simp [BK];omega
  .have hi:i<(BA m a b).length:=by have:=(φ.1 o).1;simpa [BK] using this
   by_cases I:i=m.length
   .subst I;rw [Array.getElem?_push,ϱ hzm.symm] at k;injection k with k;subst k
    have:(BK eK eV (BA m a b))[m.length]? =some (eK a,eV b):=by
     have:=p1;rw [hm] at this;simp [BK,this]
    rw [this] at o;injection o with o;subst o
    exact ⟨U,hv⟩
   .rw [Array.getElem?_push,θ (by omega)] at k
    have G:(BK eK eV m)[i]? =some x:=by
     have:=p2 i (by omega);simp only [BK,η,this] at o⊢;exact o
    obtain ⟨g1,g2⟩:=h i e x k G;exact ⟨l _ _ g1,l _ _ g2⟩
  .simp only [Array.toList_push,fU,gA,List.map_nil];rw [ip];refine ⟨hn,by simp,λu hu v' R=>?_⟩
   simp at R;subst R
   obtain ⟨e,k,rfl⟩:=κ.1 hu;have:=hb e k;omega
  .simp only [Array.toList_push,ν,fP,List.not_mem_nil,or_false] at k;rcases k with k | rfl
   .have:=hb e k;omega
   .show C<C+1;omega
  .cases bs with
   | none=>cases M
   | some q=>
    obtain ⟨B0,c0⟩:=q;obtain ⟨rfl,rfl⟩:=W B0 c0 rfl;simp only [OM,hm,ir,if_false,Option.some.injEq,Prod.mk.injEq] at M;obtain ⟨rfl,rfl⟩:=M
    simp
 .have I:∀(i:Nat) e,(j.modify (fJ m a) λe=>{e with key:=kv a,val:=v})[i]? =some e ->∃N,j[i]? =some N/\e=if i=fJ m a then {N with key:=kv a,val:=v} else N:=λi e k=>by
   rw [iq] at k
   split at k
   .rename_i V;subst V
    rw [J] at k;simp at k;subst k;exact ⟨e0,J,by simp⟩
   .rename_i V;exact ⟨e,k,by rw [θ (λhh'=>V hh'.symm)]⟩
  have r:(j.modify (fJ m a) λe=>{e with key:=kv a,val:=v}).toList.map (·.born)=j.toList.map (·.born):=by
   refine i8 λi=>?_;simp only [η,iE,iq]
   split
   .rename_i V;subst V;rw [J];rfl
   .rfl
  refine ⟨mb,_,_,Z,D,?_,λi e x k o=>?_,by rw [r];exact hn,λe k=>?_,λB c' M=>?_⟩
  .simp [BK];omega
  .obtain ⟨N,h1,rfl⟩:=I i e k
   by_cases H:i=fJ m a
   .subst H;rw [ϱ rfl];have:(BK eK eV (BA m a b))[fJ m a]? =some (eK a,eV b):=by simp [BK,p1]
    rw [this] at o;injection o with o;subst o
    exact ⟨U,hv⟩
   .rw [θ H]
    have G:(BK eK eV m)[i]? =some x:=by
     have:=p2 i H;simp only [BK,η,this] at o⊢;exact o
    obtain ⟨g1,g2⟩:=h i N x h1 G;exact ⟨l _ _ g1,l _ _ g2⟩
  .have:e.born∈(j.modify (fJ m a) λe=>{e with key:=kv a,val:=v}).toList.map (·.born):=ie (f:=(·.born)) k;rw [r] at this;obtain ⟨N,h1,h2⟩:=κ.1 this;rw [<-h2];exact hb N h1
  .cases bs with
   | none=>cases M
   | some q=>
    obtain ⟨B0,c0⟩:=q;simp only [OM,hlt,if_true,Option.some.injEq,Prod.mk.injEq] at M;obtain ⟨rfl,rfl⟩:=M;rw [r];exact W _ _ rfl
theorem qZ (h:i≠G):(setBlock w G I).heap[i]? =w.heap[i]?:=by
 simp [setBlock,Ne.symm h]
theorem tC {a:Obj} (h:w.heap[G]? =some a):(setBlock w G I).heap[G]? =some I:=by
 have:=(gr.1 h).1
 simp [setBlock,this]
theorem nU:(setBlock w G I).heap.size=w.heap.size:=by simp [setBlock]
theorem aC (m:List (α×β)) (a:α) (b:β) (hx:s.ev x=some (.map h i)) (X:dr s.hp h i=some (.map bs (BK eK eV m))) (W:s.ev y=some (.d (eK a))) (Y:B3 P T K E=true) (u:B7 P K eK kv) (hz:s.ev z=some (.d (eV b)))
  (hh:BL s.hp h i (.map (OM m a bs) (BK eK eV (BA m a b)))=some c):AH P F ⟨none,.mapUpdate T x y z,ty,pos,aft,g⟩ s ⟨s.n,s.env,c⟩ (λ_ _=>true):=λN t w C=>by
 obtain ⟨mb,A,l,e1,e2,G,L,J,h4,h5,h6⟩:=C.mapAt hx X;have R:t.eval y=kv a:=(C.repD W).val (u.val a);have Q:AN w (F.O N s.hp) (eK a) (kv a):=R▸C.repD W;have O:=C.ev hz
 have H:∀o M,(execOp t.eval ⟨none,.mapUpdate T x y z,ty,pos,aft,g⟩).run P w= .ok .skip (setBlock w mb (.map o M)) ->((fJ m a=m.length/\o=A.push {key:=kv a,val:=t.eval z,born:=l}/\M=l+1)\/∃e,A[fJ m a]? =some e/\fJ m a<m.length/\o=(A.modify (fJ m a) λe=>{e with key:=kv a,val:=t.eval z})/\M=l)→
   (⟨none,.mapUpdate T x y z,ty,pos,aft,g⟩:Oper).wp P t w (λI w'=>∃B,SR F ⟨s.n,s.env,c⟩ B I w'/\∀h i,(λ_ _=>true) h i=true ->B h i=N h i) (λ_ _ _=>False):=λo M D v=>by
  unfold Oper.wp;rw [D];refine ⟨N,C.write h i _ (.map (OM m a bs) (BK eK eV (BA m a b))) X (Ai hh) Z Z Z nU (λb' S=>qZ λe=>S (by rw [e2,e];rfl)) (λ_ _ e=>by cases e) λr=>?_,λ_ _ _=>rfl⟩;rw [e2];refine G7 u L J h4 h5 h6 r (by have:=r _ _ O;cases this with | d k=>exact k) ?_ v (tC G);have:=r (.d (eK a)) _ (.d Q)
  cases this with | d k=>exact k
 rcases fY u L J a b with ⟨V,_,_,g4⟩ | ⟨j,e,V,g2,g3,_,U,g6,_⟩
 .refine H _ _ ?_ (.inl ⟨g4,Z,Z⟩)
  simp [execOp,Instr.mapUpdate,run_underlying (Vj Y),e1,R,MapKept.run_getObj_map G,u.check,u.find w a _ _ (XS u L J),V,Result.andThen,MapKept.run_setObj_map _ G,setBlock]
 .refine H _ _ ?_ (.inr ⟨e,by rw [U];exact g2,by rw [U];exact g6,Z,Z⟩)
  simp [execOp,Instr.mapUpdate,run_underlying (Vj Y),e1,R,MapKept.run_getObj_map G,u.check,u.find w a _ _ (XS u L J),V,g2,g3,U,Result.andThen,MapKept.run_setObj_map _ G,setBlock,u.stays]
theorem UO (m:List (α×β)) (j:α) (b:β) (r:AS.ev ⟨k,a,f⟩ x=some (.map h i)) (t:dr f h i=some (BB eK eV m)) (o:AS.ev ⟨k,a,f⟩ y=some (.d (eK j))) (v:B3 P T K E=true) (w:B7 P K eK kv) (l:AS.ev ⟨k,a,f⟩ z=some (.d (eV b)))
  (u:BL f h i (BB eK eV (BA m j b))=some c):AH P F ⟨none,.mapUpdate T x y z,ty,pos,aft,g⟩ ⟨k,a,f⟩ ⟨k,a,c⟩ (λ_ _=>true):=
 aC (s:=⟨k,a,f⟩) m j b r t o v w l (by rw [Hv (b:=b)];exact u)
theorem G1 (m:List (α×β)) (r:α) (B:β) (hx:AS.ev ⟨k,a,f⟩ x=some (.map h i)) (ho:dr f h i=some (BB eK eV m)) (hy:AS.ev ⟨k,a,f⟩ y=some (.d (eK r))) (hT:B3 P T K E=true) (C:B7 P K eK kv) (hz:Ca P E=some (.d (eV B)))
  (hh:BL f h i (BB eK eV (BS m r B))=some c) (hd:Nat.blt d k=true):AH P F ⟨some d,.mapEntry T x y,ty,pos,aft,g⟩ ⟨k,a,f⟩ ⟨k,(d,.tup [.d (eV (A1 m r B)),.d (.raw (.int .i64 (fJ m r:Int)))])::a,c⟩ (λ_ _=>true):=λD L w hs=>by
 obtain ⟨mb,A,o,e1,e2,W,V,h3,h4,h5,h6⟩:=hs.mapAt hx ho;have hk:L.eval y=kv r:=(hs.repD hy).val (C.val r);have hkr:AN w (F.O D f) (eK r) (kv r):=hk▸hs.repD hy;obtain ⟨zv,hz1,hz2⟩:=EC hz w;obtain ⟨hB,hc⟩:=h6 _ _ rfl;subst hc;have hzm:A.size=m.length:=by simpa [BK] using V
 have X:∀t N v,(execOp L.eval ⟨some d,.mapEntry T x y,ty,pos,aft,g⟩).run P w= .ok (.value (.tuple #[v,.int .i64 (fJ m r:Int)])) (setBlock w mb (.map t N)) ->AN w (F.O D f) (eV (A1 m r B)) v ->((fJ m r=m.length/\t=A.push {key:=kv r,val:=v,born:=m.length}/\N=m.length+1)\/∃e,A[fJ m r]? =some e/\fJ m r<m.length/\t=(A.modify (fJ m r) λe=>{e with key:=kv r,val:=v})/\N=m.length)→
   (⟨some d,.mapEntry T x y,ty,pos,aft,g⟩:Oper).wp P L w (λY w'=>∃O,SR F ⟨k,(d,.tup [.d (eV (A1 m r B)),.d (.raw (.int .i64 (fJ m r:Int)))])::a,c⟩ O Y w'/\∀h i,(λ_ _=>true) h i=true ->O h i=D h i) (λ_ _ _=>False):=λt N v R Q I=>by
  unfold Oper.wp;rw [R]
  have hw:=hs.write h i _ (BB eK eV (BS m r B)) (w':=setBlock w mb (.map t N)) ho (Ai hh) Z Z Z nU (λb' hb'=>qZ λe=>hb' (by rw [e2,e];rfl)) (λ_ _ e=>by cases e) λu=>by
   rw [e2]
   have:=G7 (b:=A1 m r B) C V h3 h4 h5 h6 u (by have:=u (.d _) _ (.d Q);cases this with | d l=>exact l) (by
    have:=u (.d (eK r)) _ (.d hkr)
    cases this with | d l=>exact l) I (tC W)
   rw [Hv (b:=A1 m r B)] at this;exact this
  have u:AN (setBlock w mb (.map t N)) (F.O D c) (eV (A1 m r B)) v:=by
   have hO:∀b,F.O D c b ->F.O D f b:=λb H=>by
    rcases H with H | ⟨f',i',o1,M,G⟩
    .exact .inl H
    .refine .inr ?_
     by_cases e:f'=h/\i'=i
     .obtain ⟨rfl,rfl⟩:=e;exact ⟨f',i',_,ho,G⟩
     .rw [Ai hh,θ e] at M;exact ⟨f',i',o1,M,G⟩
   exact Q.mono (Nat.le_of_eq nU.symm) (λb _ hn=>qZ λe=>hn (.inr ⟨h,i,_,ho,by rw [e2,e];rfl⟩)) (λb _=>hO b)
  refine ⟨D,hw.put (IB hd) (.tup (vs:=[v,.int .i64 (fJ m r:Int)]) Z λi r v U hv=>?_),λ_ _ _=>rfl⟩;rcases i with _ | _ | i
  .simp at U hv;subst U hv;exact .d u
  .simp at U hv;subst U hv;exact .d (.raw Z)
  .simp at U
 rcases fY C V h3 r B with ⟨M,_,g3,g4⟩ | ⟨j,e,M,G,g3,_,g5,g6,g7⟩
 .refine X _ _ zv ?_ (by rw [g3];have:=hz2 w (F.O D f) D;cases this with | d l=>exact l) (.inl ⟨g4,rfl,rfl⟩)
  simp [execOp,Instr.mapEntry,run_underlying (Vj hT),e1,hk,MapKept.run_getObj_map W,C.check,C.find w r _ _ (XS C V h3),M,g4,hz1,Result.andThen,MapKept.run_setObj_map _ W,setBlock,goInt]
 .have J:e.born=j:=by
   have hj:j<A.size:=(gr.1 G).1;have:=fL (·[j]?) hB;simp only [η,iE,G,gs] at this;rw [iW (by omega)] at this;injection this with this;exact this.symm
  refine X _ _ e.val ?_ g7 (.inr ⟨e,by rw [g5];exact G,by rw [g5];exact g6,Z,Z⟩)
  have S:(A.modify (fJ m r) λe=>{e with key:=kv r})=A.modify (fJ m r) λe'=>{e' with key:=kv r,val:=e.val}:=by
   refine Array.ext_getElem? λi=>?_;rw [iq,iq]
   split
   .rename_i hh;subst hh;rw [g5,G];rfl
   .rfl
  rw [<-S]
  simp [execOp,Instr.mapEntry,run_underlying (Vj hT),e1,hk,MapKept.run_getObj_map W,C.check,C.find w r _ _ (XS C V h3),M,G,g3,g5,J,Result.andThen,MapKept.run_setObj_map _ W,setBlock,C.stays,goInt]
theorem G3 {n:Nat} {t:List (Nat×AV)} {o D:Hp} (m:List (α×β)) (a:α) (v b:β) {f i:Nat} (hx:AS.ev ⟨n,t,o⟩ x=some (.map f i)) (W:dr o f i=some (BB eK eV (BS m a v))) (hy:AS.ev ⟨n,t,o⟩ y=some (.d (.raw (.int .i64 (fJ m a:Int))))) (KT:B7 P K eK kv) (hz:AS.ev ⟨n,t,o⟩ z=some (.d (eV b)))
  (Q:BL o f i (BB eK eV (BA m a b))=some D):AH P F ⟨none,.entryStore T x y z,ty,pos,aft,g⟩ ⟨n,t,o⟩ ⟨n,t,D⟩ (λ_ _=>true):=λV u w I=>by
 obtain ⟨mb,k,c,e1,e2,U,h2,S,h4,h5,Y⟩:=I.mapAt hx W;have L:u.eval y= .int .i64 (fJ m a:Int):=I.raw hy;have M:=I.ev hz;obtain ⟨hB,hc⟩:=Y _ _ rfl;have hzm:k.size=(BS m a v).length:=by simpa [BK] using h2
 obtain ⟨l1,l2⟩:=Jg (m:=m) (a:=a) (b:=A1 m a v);have N:fJ m a<(BS m a v).length:=by unfold BS;omega
 have r:∀(i:Nat) e,k[i]? =some e ->e.born=i:=λi e X=>by
  have hi:i<k.size:=(gr.1 X).1;have:=fL (·[i]?) hB;simp only [η,iE,X,gs] at this;rw [iW (by omega)] at this;injection this with this;exact this.symm
 obtain ⟨J,A⟩:∃e,k[fJ m a]? =some e:=⟨_,gS (by omega)⟩
 have H:k.findIdx? (λe=>(e.born:Int)==(fJ m a:Int))=some (fJ m a):=by
  rw [Array.findIdx?_eq_some_iff_getElem];refine ⟨by omega,?_,λj hj=>?_⟩
  .have:=r _ _ (gS (show fJ m a<k.size by omega))
   simp [this]
  .have:=r _ _ (gS (show j<k.size by omega))
   simp [this];omega
 have C:(execOp u.eval ⟨none,.entryStore T x y z,ty,pos,aft,g⟩).run P w= .ok .skip (setBlock w mb (.map (k.modify (fJ m a) λe=>{e with val:=u.eval z}) c)):=by
  simp [execOp,Instr.entryStore,e1,L,MapKept.run_getObj_map U,asInt,asIntOf,H,Result.andThen,MapKept.run_setObj_map _ U,setBlock]
 unfold Oper.wp;rw [C]
 have B:J.key=kv a:=by
  have o:=(MI (m:=m) (a:=a) (b:=A1 m a v)).1;have:=(S _ J (eK a,eV (A1 m a v)) A (by simp only [BK,η];unfold BS;rw [o];rfl)).1;exact this.val (KT.val a)
 have G:(k.modify (fJ m a) λe=>{e with val:=u.eval z})=k.modify (fJ (BS m a v) a) λe=>{e with key:=kv a,val:=u.eval z}:=by
  rw [Kt];refine Array.ext_getElem? λi=>?_;rw [iq,iq]
  split
  .rename_i Q;subst Q;rw [A];simp [B]
  .rfl
 have O:AN w (F.O V o) (eK a) (kv a):=by
  have o:=(MI (m:=m) (a:=a) (b:=A1 m a v)).1;have:=(S _ J (eK a,eV (A1 m a v)) A (by simp only [BK,η];unfold BS;rw [o];rfl)).1;rw [B] at this;exact this
 refine ⟨V,I.write f i _ (BB eK eV (BA m a b)) W (Ai Q) Z Z Z nU (λb' R=>qZ λe=>R (by rw [e2,e];rfl)) (λ_ _ e=>by cases e) λl=>?_,λ_ _ _=>rfl⟩;rw [e2]
 have:=G7 (b:=b) (a:=a) (m:=BS m a v) (c':=c) (mb:=mb) KT h2 S h4 h5 Y l (by have:=l _ _ M;cases this with | d h=>exact h) (by
  have:=l (.d (eK a)) _ (.d O)
  cases this with | d h=>exact h) (.inr ⟨J,by rw [Kt];exact A,by rw [Kt];exact N,G,Z⟩) (tC U)
 rw [Hv (b:=b),VI] at this;exact this
theorem PH (k:Nat) (L:∀r b w,SR F s r b w ->b.eval x=r h i) (M:dr s.hp h i=some H) (I:Jh H=some (some (B,C),u)) (G:Nat.beq h k=false) (Q:B3 P T K E=true)
  (S:AX k s.env=some j) (R:AT k s.hp=some A) (N:CP A k (.iter h i C [])=some c) (O:Nat.blt d s.n=true):
  AH P F ⟨some d,.range T x,ty,pos,aft,g⟩ s ⟨s.n,(d,.ptr k 0 0)::j,c⟩ (B2 k):=λr b w D=>by
 obtain ⟨t,Y,c',X,W,V,h2,h3,h4,h5,U⟩:=D.mapAt0 (L _ _ _ D) M I;obtain ⟨_,rfl⟩:=U _ _ rfl
 have l:(execOp b.eval ⟨some d,.range T x,ty,pos,aft,g⟩).run P w= .ok (.value (.pointer (some ⟨w.heap.size,0,none⟩))) (w.alloc (.mapIter (some t) C #[] C)):=by
  simp [execOp,Instr.range,run_underlying (Vj Q),X,MapKept.run_getObj_map V,Result.andThen]
 unfold Oper.wp;rw [l];have v:=D.new k (.iter h i C []) (.pointer (some ⟨w.heap.size,0,none⟩)) (.mapIter (some t) C #[] C) S R N Z (λJ=>⟨w.heap.size,t, #[],Z,by rw [MX (λe=>(iB G) e.1)];exact W,heap_alloc_new w _,Z⟩);exact ⟨_,v.put (IB O) (.ptr Oq),λh i a=>MX λe=>RU a e.1⟩
theorem Fy (a:Nat) (k:s.ev x=some (.map h i)) (o:dr s.hp h i=some (.map (some (B,C)) u)) (b:Nat.beq h a=false) (v:B3 P T K E=true)
  (D:AX a s.env=some j) (w:AT a s.hp=some A) (r:CP A a (.iter h i C [])=some c) (t:Nat.blt d s.n=true):
  AH P F ⟨some d,.range T x,ty,pos,aft,g⟩ s ⟨s.n,(d,.ptr a 0 0)::j,c⟩ (B2 a):=
 PH a (λ_ _ _ l=>l.mapV k) o Z b v D w r t
omit [DecidableEq α] in
theorem W4 (m:List (α×β)) {seen:List Nat} (hx:AS.ev ⟨k,a,f⟩ x=some (.ptr L 0 0)) (hi:dr f L 0=some (.iter h i C seen)) (ho:dr f h i=some H) (hmo:Jh H=some (some (B,C),BK eK eV m)) (hd:Nat.blt d k=true)
  (h0:Bi m B seen=[] ->A8 P F o t Q ⟨k,(d,.tup [.d (.raw (.bool false))])::a,f⟩)
  (h1:∀(j b:Nat) (l:α) (v:β),m[j]? =some (l,v) ->B[j]? =some b ->B.Nodup ->(Bi m B seen).Perm ((l,v)::Bi m B (seen++ [b])) ->∃U,BL f L 0 (.iter h i C (seen++ [b]))=some U/\A8 P F o t Q ⟨k,(d,.tup [.d (.raw (.bool true)),.d (eK l),.d (eV v)])::a,U⟩):
  A8 P F o (⟨some d,.next x false,ty,pos,aft,none⟩::t) Q ⟨k,a,f⟩:=λV M w hs=>by
 obtain ⟨r,mb,O,q1,q2,q3,q4⟩:=hs.heap.sim L 0 _ hi;obtain ⟨G,D,c',p1,p2,p3,p4,p5,p6,p7⟩:=(hs.heap.sim h i _ ho).mapO hmo;obtain ⟨hB,hc⟩:=p7 _ _ rfl;subst hc;have:G=mb:=by rw [p1] at q2;injection q2 with q2;injection q2 with q2
 subst this
 have hxv:M.eval x= .pointer (some ⟨r,0,none⟩):=by
  have hr:=hs.ev hx
  generalize M.eval x=vx at hr
  cases hr with
  | ptr u=>rw [q1] at u;injection u with u;injection u with u;injection u with u;subst u;rfl
 have hzm:D.size=m.length:=by simpa [BK] using p3
 have hBn:B.Nodup:=hB▸p5;have hBl:B.length=m.length:=by rw [hB];simp [hzm]
 refine wpListIn_plain Z λKk hk=>Em Z ?_;rcases run_next_at (P:=P) w ty r G C C O D C q3 p2 (λe he=>p6 e he) (ϖ _) with ⟨hz,I⟩ | ⟨e,he,N,W,I⟩
 .have hl0:Bi m B seen=[]:=by
   have hz':D.filter (λe=>!O.contains e.born)= #[]:=Array.eq_empty_of_size_eq_zero hz;rw [Array.filter_eq_empty_iff] at hz';unfold Bi;rw [List.map_eq_nil_iff,List.filter_eq_nil_iff];intro q hq S;obtain ⟨j,hj,rfl⟩:=gF hq;rw [List.length_zip] at hj;have hja:j<D.size:=by omega
   have h2:=hz' D[j] (by simp);rw [List.getElem_zip] at S
   have h3:B[j]'(by omega)=D[j].born:=by
    have:=fL (·[j]?) hB;simp only [η,iE,gS hja,gs] at this;rw [ω (by omega)] at this;injection this
   simp only [h3,<-q4] at S;simp only [Array.contains_toList] at S;exact absurd S (by simpa using h2)
  have hex:(execOp M.eval ⟨some d,.next x false,ty,pos,aft,none⟩).run P w= .ok (.value (.tuple #[.bool false])) w:=by
   simp [execOp,hxv,I,Result.andThen]
  unfold Oper.wp;rw [hex]
  exact hk _ _ (h0 hl0 V _ w (hs.put (IB hd) (.tup (vs:=[.bool false]) Z λi A v J R=>by
   rcases i with _ | i
   .simp at J R;subst J R;exact .d (.raw Z)
   .simp at J)))
 .have he':e∈D/\(!O.contains e.born)=true:=by
   have:e∈D.filter (λe=>!O.contains e.born):=by simpa [leftOf] using he
   rwa [Array.mem_filter] at this
  obtain ⟨j,hj,rfl⟩:=Array.getElem_of_mem he'.1;have Y:j<m.length:=by omega
  have hBj:B[j]? =some D[j].born:=by rw [hB];simp [hj]
  obtain ⟨g1,g2⟩:=p4 j D[j] (eK m[j].1,eV m[j].2) (gS hj) (by simp [BK,Y])
  have hns:D[j].born∉seen:=by
   rw [<-q4];have:=he'.2
   simpa using this
  have X:=Sk hBn (ω Y) hBj hns;obtain ⟨U,hh,hA⟩:=h1 j _ m[j].1 m[j].2 (ω Y) hBj hBn X
  have hex:(execOp M.eval ⟨some d,.next x false,ty,pos,aft,none⟩).run P w= .ok (.value (.tuple #[.bool true,D[j].key,D[j].val])) (setBlock N r (.mapIter (some G) C (O.push D[j].born) C)):=by
   simp [execOp,hxv,I,Result.andThen]
  unfold Oper.wp;rw [hex]
  have hs1:SR F ⟨k,a,f⟩ V M N:=by
   rcases W with rfl | rfl
   .exact hs
   .exact hs.drew Z Z Z Z
  have q3':N.heap[r]? =some (.mapIter (some G) C O C):=by rcases W with rfl | rfl<;>exact q3
  have hr1:AN N (F.O V f) (eK m[j].1) D[j].key/\AN N (F.O V f) (eV m[j].2) D[j].val:=by
   rcases W with rfl | rfl
   .exact ⟨g1,g2⟩
   .exact ⟨g1.mono (w:=w) (w':=w.drew) (ϖ _) (λ_ _ _=>rfl) (λ_ _ u=>u),g2.mono (w:=w) (w':=w.drew) (ϖ _) (λ_ _ _=>rfl) (λ_ _ u=>u)⟩
  have hw:=hs1.write L 0 _ (.iter h i C (seen++ [D[j].born])) (w':=setBlock N r (.mapIter (some G) C (O.push D[j].born) C)) hi (Ai hh) Z Z Z nU (λb' hb'=>qZ λe=>hb' (by rw [q1,e];rfl)) (λ_ _ e=>by cases e) λhrep=>by
   exact ⟨r,G,O.push D[j].born,q1,q2,tC q3',by simp [q4]⟩
  have hO:∀b,F.O V U b ->F.O V f b:=λb hh'=>by
   rcases hh' with hh' | ⟨f',i',o1,k1,k2⟩
   .exact .inl hh'
   .refine .inr ?_
    by_cases e:f'=L/\i'=0
    .obtain ⟨rfl,rfl⟩:=e;exact ⟨f',0,_,hi,k2⟩
    .rw [Ai hh,θ e] at k1;exact ⟨f',i',o1,k1,k2⟩
  have hbb:∀b,b<N.heap.size ->¬F.O V f b ->(setBlock N r (.mapIter (some G) C (O.push D[j].born) C)).heap[b]? =N.heap[b]?:=λb _ hn=>qZ λe=>hn (.inr ⟨L,0,_,hi,by rw [q1,e];rfl⟩);refine hk _ _ (hA V _ _ (hw.put (IB hd) (.tup (vs:=[.bool true,D[j].key,D[j].val]) Z λi A v J R=>?_)));rcases i with _ | _ | _ | i
  .simp at J R;subst J R;exact .d (.raw Z)
  .simp at J R;subst J R;exact .d (hr1.1.mono (Nat.le_of_eq nU.symm) hbb (λb _=>hO b))
  .simp at J R;subst J R;exact .d (hr1.2.mono (Nat.le_of_eq nU.symm) hbb (λb _=>hO b))
  .simp at J
omit [DecidableEq α] in
theorem Kn (m:List (α×β)) {seen:List Nat} (u:AS.ev ⟨k,a,f⟩ x=some (.ptr L 0 0)) (A:dr f L 0=some (.iter h i C seen)) (w:dr f h i=some (.map (some (B,C)) (BK eK eV m))) (D:Nat.blt d k=true)
  (H:Bi m B seen=[] ->A8 P F o t Q ⟨k,(d,.tup [.d (.raw (.bool false))])::a,f⟩)
  (G:∀(j b:Nat) (l:α) (v:β),m[j]? =some (l,v) ->B[j]? =some b ->B.Nodup ->(Bi m B seen).Perm ((l,v)::Bi m B (seen++ [b])) ->∃r,BL f L 0 (.iter h i C (seen++ [b]))=some r/\A8 P F o t Q ⟨k,(d,.tup [.d (.raw (.bool true)),.d (eK l),.d (eV v)])::a,r⟩):
  A8 P F o (⟨some d,.next x false,ty,pos,aft,none⟩::t) Q ⟨k,a,f⟩:=
 W4 m u A w Z D H G
omit [DecidableEq α] in
theorem PJ (m:List (α×β)) (j b:Nat) {seen:List Nat} (hx:s.ev x=some (.ptr L 0 0)) (hi:dr s.hp L 0=some (.iter h i C (seen++ [b]))) (ho:dr s.hp h i=some H) (S:Jh H=some (some (B,C),BK eK eV m)) (X:m[j]? =some (M,N)) (Y:B[j]? =some b) (hd:Nat.blt d s.n=true):
  AA P F ⟨some d,.entry x,ty,pos,aft,g⟩ s d (.tup [.d (eK M),.d (eV N)]):=
 Cd _ hd λρ I w R=>by
  obtain ⟨r,mb,sn,q1,u,V,q4⟩:=R.heap.sim L 0 _ hi;obtain ⟨A,t,c',p1,p2,p3,p4,p5,p6,p7⟩:=(R.heap.sim h i _ ho).mapO S;obtain ⟨hB,hc⟩:=p7 _ _ rfl;subst hc;have:A=mb:=by rw [p1] at u;injection u with u;injection u with u
  subst this
  have O:I.eval x= .pointer (some ⟨r,0,none⟩):=by
   have W:=R.ev hx
   generalize I.eval x=vx at W
   cases W with
   | ptr l=>rw [q1] at l;injection l with l;injection l with l;injection l with l;subst l;rfl
  have hjm:j<m.length:=(φ.1 X).1;have hzm:t.size=m.length:=by simpa [BK] using p3
  have U:t[j].born=b:=by
   rw [hB] at Y;simpa [show j<t.size by omega] using Y
  have Q:sn=(⟨seen⟩:Array Nat).push t[j].born:=by
   apply Array.ext'
   rw [q4,Array.toList_push,U]
  rw [Q] at V;have D:=run_entry_at (P:=P) w r A C ⟨seen⟩ t C t[j] V p2 (by simp) p5;obtain ⟨g1,g2⟩:=p4 j t[j] (eK M,eV N) (gS (by omega)) (by simp [BK,X]);refine ⟨.tuple #[t[j].key,t[j].val],by simp [execOp,O,D,Result.andThen],.tup (vs:=[t[j].key,t[j].val]) Z λi a N G J=>?_⟩;rcases i with _ | _ | i
  .simp at G J;subst G J;exact .d g1
  .simp at G J;subst G J;exact .d g2
  .simp at G
omit [DecidableEq α] in
theorem Fz (m:List (α×β)) (j b:Nat) {seen:List Nat} (a:s.ev x=some (.ptr L 0 0)) (r:dr s.hp L 0=some (.iter h i C (seen++ [b]))) (l:dr s.hp h i=some (.map (some (B,C)) (BK eK eV m))) (o:m[j]? =some (M,N)) (u:B[j]? =some b) (t:Nat.blt d s.n=true):
  AA P F ⟨some d,.entry x,ty,pos,aft,g⟩ s d (.tup [.d (eK M),.d (eV N)]):=
 PJ m j b a r l Z o u t
end
end Go.Proofs.YteifpcnphnhaoaaGreat
namespace Go.Proofs.YteifpcnphnhaoaaGreat
open Go.RowKit
variable {P:Program} {K:TypeId}
theorem B7.int (c:P.underlying K=some (.int .i64)):B7 P K (λz:Int=> .raw (.int .i64 z)) (λz=> .int .i64 z):=
 B7.plain c (λ_=>rfl) (λ_=>rfl) λa b=>by simp [Instr.sameNow];rfl
def Lp (l:List UInt8):Value:= .string ⟨l.toArray⟩
theorem QA (a b:List UInt8):((⟨a.toArray⟩:ByteArray)==⟨b.toArray⟩)=decide (a=b):=by grind [beq_toListBytes,ByteArray.toList_eq]
theorem B7.str (c:P.underlying K=some .string):B7 P K Aj Lp:=
 B7.plain c (λ_=>rfl) (λ_=>trivial) λa b=>by simp only [Instr.sameNow,Lp,QA]
def JC (rec:TypeId ->Option (List TypeDesc)):Nat ->List Field ->Option (List TypeDesc)
 | _,[]=>some []
 | off,f::fs=>match rec f.type with
  | none=>none
  | some ds=>match JC rec (off+ds.length) fs with
   | none=>none
   | some r=>match Nat.beq f.offset off && f.name != "_" with
    | true=>some (ds++r)
    | false=>none
def Dn (P:Program):Nat ->TypeId ->Option (List TypeDesc)
 | 0,_=>none
 | m+1,T=>match P.underlying T with
  | some (.int k)=>some [.int k]
  | some .string=>some [.string]
  | some .bool=>some [.bool]
  | some (.struct fs)=>match JC (Dn P m) 0 fs.toList with
   | none=>none
   | some ds=>match AW P T ds.length && !P.stoodInHeld T with
    | true=>some ds
    | false=>none
  | _=>none
def BF (ds:List TypeDesc) (us:List Value):Prop:=us.length=ds.length/\∀(i:Nat) d u,ds[i]? =some d ->us[i]? =some u ->MapKept.IsKey d u
def Hm (P:Program) (T:TypeId):Bool:=match P.underlying T with
 | some (.struct _)=>true
 | _=>false
def Pa (P:Program) (T:TypeId) (us:List Value):Value:=match Hm P T with
 | true=> .agg us.toArray
 | false=>us.headD undef
def OB:Value ->Value ->Bool
 | .int _ a,.int _ b=>a==b
 | .string a,.string b=>a.toList==b.toList
 | .bool a,.bool b=>a==b
 | _,_=>false
def Bb:List Value ->List Value ->Bool
 | [],[]=>true
 | a::r,b::s=>OB a b && Bb r s
 | _,_=>false
theorem Ny {a f b c:List Value} (h:a.length=b.length):Bb (a++f) (b++c)=(Bb a b && Bb f c):=by
 induction a generalizing b with
 | nil=>
  grind [Bb]
 | cons x r g=>
  cases b with
  | nil=>simp at h
  | cons y s=>simp only [List.cons_append,Bb,g (show r.length=s.length by simpa using h),Bool.and_assoc]
theorem BF.split {b a:List TypeDesc} {c:List Value} (h:BF (b++a) c):BF b (c.take b.length)/\BF a (c.drop b.length):=by grind [BF]
section
variable {P:Program}
variable {a:List TypeDesc} {T:TypeId} {c:Nat}
theorem Gr (h:Dn P c T=some a) (b:Hm P T=false):∃d,a=[d]/\P.underlying T=some d/\((∃k,d= .int k)\/d= .string\/d= .bool):=by
 cases c with
 | zero=>cases h
 | succ c=>
  grind [Dn,Hm]
theorem Gq (h:Dn P c T=some a) (g:Hm P T=true):∃b f,c=b+1/\P.underlying T=some (.struct f)/\JC (Dn P b) 0 f.toList=some a/\AW P T a.length=true/\P.stoodInHeld T=false:=by
 cases c with
 | zero=>cases h
 | succ c=>
  grind [Dn,Hm]
theorem Fi (h:Dn P c T=some a) (w:World) (f:List Value) (b:Nat) (s:b+a.length<=f.length):(part T f.toArray b).run P w= .ok (Pa P T ((f.drop b).take a.length)) w:=by
 cases hs:Hm P T with
 | false=>
  obtain ⟨d,rfl,i,o⟩:=Gr h hs
  have j:(isAgg T).run P w= .ok false w:=by
   rcases o with ⟨k,rfl⟩ | rfl | rfl<;>simp [isAgg,run_underlying i,Result.andThen]
  grind [part,Sem.run_bind,Result.andThen_ok,Pa,Sem.run_pure,m0]
 | true=>
  obtain ⟨r,t,rfl,i,_,l,_⟩:=Gq h hs;have j:(isAgg T).run P w= .ok true w:=by simp [isAgg,run_underlying i,Result.andThen]
  have g:=mN (P:=P) (ZW l) w;simp only [part,Sem.run_bind,j,Result.andThen_ok,if_true,g,Sem.run_pure,Pa,hs]
  congr 2
  apply Array.ext'
  simp
theorem Gz:∀(m:Nat) (T:TypeId) (g:List TypeDesc),Dn P m T=some g ->∀(d:Nat) (c b:List Value),BF g c ->BF g b ->∀w,(Op.equalIn (d+m) T (Pa P T c) (Pa P T b)).run P w= .ok (Bb c b) w
 | 0,_,_,h=>by cases h
 | m+1,T,g,h=>λd c b l j w=>by
  cases hs:Hm P T with
  | false=>
   obtain ⟨L,rfl,t,W⟩:=Gr h hs;obtain ⟨u,rfl⟩:=List.length_eq_one_iff.1 l.1;obtain ⟨v,rfl⟩:=List.length_eq_one_iff.1 j.1;have B:=l.2 0 L u Z Z;have A:=j.2 0 L v Z Z;simp only [Pa,hs,List.headD_cons,Bb,Bool.and_true];rcases W with ⟨k,rfl⟩ | rfl | rfl
   .cases u<;>cases v<;>simp only [MapKept.IsKey] at B A
    subst B A;exact run_equalIn_int w (d+m) T _ _ _ _ t
   .cases u<;>cases v<;>simp only [MapKept.IsKey] at B A
    exact run_equalIn_string w (d+m) T _ _ t
   .cases u<;>cases v<;>simp only [MapKept.IsKey] at B A
    exact run_equalIn_bool' w (d+m) T _ _ t
  | true=>
   obtain ⟨m',o,E,t,F,hz,D⟩:=Gq h hs;injection E with E;subst E
   have K:P.fieldsOf T=o:=by simp [Program.fieldsOf,t]
   simp only [Pa,hs];rw [<-Nat.add_assoc,run_equalIn_struct w (d+m) T _ _ (by rw [K];exact t) D,K]
   -- along the fields
   have C:∀(o:List Field) (a:Nat) (g:List TypeDesc) (c b:List Value),JC (Dn P m) a o=some g ->BF g (c.drop a) ->BF g (b.drop a) ->a<=c.length ->a<=b.length ->(Op.eqFields (d+m) c.toArray b.toArray o).run P w= .ok (Bb (c.drop a) (b.drop a)) w:=by
    intro o
    induction o with
    | nil=>
     intro a g c b h l j _ _;simp only [JC,Option.some.injEq] at h;subst h;rw [ij l.1,ij j.1];rfl
    | cons f o R=>
     intro a g c b h l j V U;simp only [JC] at h
     split at h
     .cases h
     .rename_i d1 H
      split at h
      .cases h
      .rename_i r S
       split at h
       .rename_i G
        injection h with h;subst h
        simp only [fV] at G;have x:=fx G.1;have s:f.name≠ "_" :=by simpa using G.2
        have Q:=l.1;have O:=j.1;rw [Δ,List.length_drop] at Q O;have z:a+d1.length<=c.length:=by omega
        have y:a+d1.length<=b.length:=by omega
        obtain ⟨N,J⟩:=l.split;obtain ⟨M,I⟩:=j.split;rw [List.drop_drop] at J I;have e1:=Fi H w c a z;have e2:=Fi H w b a y;have Y:=Gz m f.type d1 H d _ _ N M w;have X:=R (a+d1.length) r c b S J I z y;simp only [Op.eqFields,s,ne_eq,not_false_eq_true,if_true,x,Sem.run_bind,e1,e2,Y,Result.andThen_ok]
        have i:Bb (c.drop a) (b.drop a)=(Bb ((c.drop a).take d1.length) ((b.drop a).take d1.length) && Bb (c.drop (a+d1.length)) (b.drop (a+d1.length))):=by
         rw [<-List.drop_drop,<-List.drop_drop,<-Ny (by simp;omega),jH,jH]
        rw [i]
        cases hc:Bb ((c.drop a).take d1.length) ((b.drop a).take d1.length) with
        | false=>simp
        | true=>simp only [Bool.not_true,Bool.false_eq_true,if_false,Bool.true_and];exact X
       .cases h
   have:=C o.toList 0 g c b F (by simpa using l) (by simpa using j) (υ _) (υ _)
   simpa using this
theorem Ih (z:Bool):∀(m:Nat) (T:TypeId) (k:List TypeDesc),Dn P m T=some k ->∀(d:Nat) (c:List Value),BF k c ->∀w,(Instr.checkKey z (d+m) T (Pa P T c)).run P w= .ok () w
 | 0,_,_,h=>by cases h
 | m+1,T,k,h=>λd c l w=>by
  cases hs:Hm P T with
  | false=>
   obtain ⟨N,rfl,o,Q⟩:=Gr h hs;obtain ⟨u,rfl⟩:=List.length_eq_one_iff.1 l.1;have G:=l.2 0 N u Z Z;simp only [Pa,hs,List.headD_cons];exact MapKept.run_checkKey o G z (d+m)
  | true=>
   obtain ⟨O,K,v,o,a,I,s⟩:=Gq h hs;injection v with v;subst v
   simp only [Pa,hs];rw [<-Nat.add_assoc];simp only [Instr.checkKey,Sem.run_bind,run_underlying o,Result.andThen_ok];rw [<-Array.forIn_toList];have y:BF k (c.drop 0):=by simpa using l
   have t:0<=c.length:=υ _
   clear h hs I l o s
   generalize K.toList=C at a⊢
   generalize (0:Nat)=b at a y t
   induction C generalizing b k with
   | nil=>rfl
   | cons f C H=>
    simp only [JC] at a
    split at a
    .cases a
    .rename_i d1 B
     split at a
     .cases a
     .rename_i r J
      split at a
      .rename_i x
       injection a with a;subst a
       simp only [fV] at x;have i:=fx x.1;have g:f.name≠ "_" :=by simpa using x.2
       have F:=y.1;rw [Δ,List.length_drop] at F;have j:b+d1.length<=c.length:=by omega
       obtain ⟨E,A⟩:=y.split;rw [List.drop_drop] at A;have M:=Fi B w c b j;have L:=Ih z m f.type d1 B d _ E w;have D:=H r (b+d1.length) J A j;rw [List.forIn_cons];simp only [g,ne_eq,not_false_eq_true,if_true,i,Sem.run_bind,M,L,Result.andThen_ok,Sem.run_pure] at D⊢;exact D
      .cases a
theorem H9 {d:TypeDesc} {u:Value} (h:MapKept.IsKey d u) (n:Nat):Instr.sameBits n u u=true:=by
 cases d<;>cases u<;>simp only [MapKept.IsKey] at h<;>cases n<;>simp [Instr.sameBits]<;>exact (beq_toListBytes _ _).trans (by simp)
theorem Ub (h:Dn P c T=some a) {b:List Value} (g:BF a b) (w:World):(Instr.keyThatStays (Pa P T b) (Pa P T b)).run P w= .ok (Pa P T b) w:=by
 have:Instr.sameBits 10000 (Pa P T b) (Pa P T b)=true:=by
  cases hs:Hm P T with
  | false=>
   obtain ⟨o,rfl,j,r⟩:=Gr h hs;obtain ⟨u,rfl⟩:=List.length_eq_one_iff.1 g.1;simp only [Pa,hs,List.headD_cons];exact H9 (g.2 0 o u Z Z) _
  | true=>
   simp only [Pa,hs];show Instr.sameBits (9999+1) _ _=true;simp only [Instr.sameBits,beq_self_eq_true,Bool.true_and,iZ];intro p k;obtain ⟨i,l,e⟩:=gF k;rw [List.getElem_zip] at e;rw [<-e]
   simp only
   have f:i<b.length:=by simpa using l
   have j:i<a.length:=by rw [<-g.1];exact f
   exact H9 (g.2 i a[i] b[i] (ω j) (ω f)) _
 simp [Instr.keyThatStays,this]
theorem B7.flat {h:Type} [DecidableEq h] {K:TypeId} {eK:h ->D} {c:h ->List Value} {ds:List TypeDesc} (g:Dn P 8 K=some ds) (i:Hm P K=true) (k:∀a,(eK a).val? =some (.agg (c a).toArray)) (f:∀a,BF ds (c a)) (l:∀a b,Bb (c a) (c b)=decide (a=b)):B7 P K eK λa=> .agg (c a).toArray:=by
 have j:∀a,Pa P K (c a)= .agg (c a).toArray:=λa=>by simp only [Pa,i]
 obtain ⟨s,t,_,o,_⟩:=Gq g i;refine B7.asking o k (λw r a=>?_) (λw a b=>?_) (λa b=>by simp [Instr.sameNow]) (λw a=>?_)
 .have:=Ih r 8 K ds g 9992 (c a) (f a) w
  grind
 .have:=Gz 8 K ds g 9992 (c a) (c b) (f a) (f b) w;rw [j,j,l] at this;exact this
 .have:=Ub g (f a) w
  grind
end
theorem IR:∀a b:List UInt8,Op.bytesLess b a=(!Op.bytesLess a b && !a==b)
 | [],[]=>rfl
 | [],_::_=>rfl
 | _::_,[]=>rfl
 | x::a,y::b=>by
  have j:=IR a b;rcases Nat.lt_trichotomy x.toNat y.toNat with h | h | h
  .have f:x<y:=UInt8.lt_iff_toNat_lt.2 h;have c:¬y<x:=λg=>by have:=UInt8.lt_iff_toNat_lt.1 g;omega
   have i:y≠x:=λe=>by subst e;omega
   simp [Op.bytesLess,f,c,i]
  .have f:x=y:=UInt8.toNat_inj.1 h;subst f;have c:¬x<x:=λg=>by have:=UInt8.lt_iff_toNat_lt.1 g;omega
   simp [Op.bytesLess,c,j]
  .have f:y<x:=UInt8.lt_iff_toNat_lt.2 h;have c:¬x<y:=λg=>by have:=UInt8.lt_iff_toNat_lt.1 g;omega
   have i:x≠y:=λe=>by subst e;omega
   simp [Op.bytesLess,f,c,i]
section
variable {P:Program} {F:Fr} {s:AS} {d:Nat} {ty T T':TypeId} {pos:String} {aft:Array Edge} {g:Option (Nat×Bool)} {x y:Operand}
theorem ji {a b:ByteArray} (h:s.ev x=some (.d (.raw (.string a)))) (f:s.ev y=some (.d (.raw (.string b)))) (i:Nat.blt d s.n=true):AA P F ⟨some d,.binOp .gtr T x y T',ty,pos,aft,g⟩ s d (.d (.raw (.bool (Op.bytesLess b.toList a.toList)))):=
 Cd _ i λ_ j _ c=>⟨.bool (Op.bytesLess b.toList a.toList),by simp [execOp,eqGuard,binOp,Op.stringOp,c.raw h,c.raw f,IR a.toList b.toList],.d (.raw Z)⟩
theorem SC {a b:D} {la lb:List Value} {ds:List TypeDesc} {t:Bool} (r:Dn P 8 T=some ds) (l:Hm P T=true) (o:P.eqGuardType P.depth T=false) (j:s.ev x=some (.d a)) (i:s.ev y=some (.d b)) (z:a.val? =some (.agg la.toArray)) (v:b.val? =some (.agg lb.toArray)) (h:BF ds la) (f:BF ds lb) (k:Bb la lb=t) (u:Nat.blt d s.n=true):
  AA P F ⟨some d,.binOp .eql T x y T',ty,pos,aft,g⟩ s d (.d (.raw (.bool t))):=
 Cd _ u λE C w c=>by
  have B:=(c.repD j).val z;have A:=(c.repD i).val v;have:=Gz 8 T ds r 9992 la lb h f w;simp only [Pa,l,k] at this;exact ⟨.bool t,by simp [execOp,B,A,run_eqGuard_agg w .eql T x y _ _ o,run_eql_struct,this,Result.andThen],.d (.raw Z)⟩
end
end Go.Proofs.YteifpcnphnhaoaaGreat
