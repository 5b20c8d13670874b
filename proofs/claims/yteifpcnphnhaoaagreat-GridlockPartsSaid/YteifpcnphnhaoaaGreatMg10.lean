import Derived.Test.YteifpcnphnhaoaaGreatMg9
import Derived.Maps.RangeRun
import Derived.Laws.StructEq
import Derived.WideLaws
namespace Go.Proofs.YteifpcnphnhaoaaGreat
open Go.RowKit
def Tf:List D ->Option (List Value)
 | []=>some []
 | d::r=>match Tf r with
  | none=>none
  | some l=>match d with
   | .raw v=>some (v::l)
   | _=>none
def D.val?:D ->Option Value
 | .raw v=>some v
 | .agg cs=>match Tf cs with
  | none=>none
  | some l=>some (.agg l.toArray)
 | _=>none
theorem O9 {w:World} {O:Nat ->Prop}:∀{e:List D} {l vs:List Value},Tf e=some l ->vs.length=e.length ->(∀(i:Nat) c v,e[i]? =some c ->vs[i]? =some v ->A1 w O c v) ->vs=l
 | [],l,vs,h,a,_=>by
  simp only [Tf,Option.some.injEq] at h;subst h;exact ωz a
 | d::r,l,vs,h,a,f=>by
  simp only [Tf] at h
  split at h
  .cases h
  .rename_i n b
   split at h
   .rename_i v
    injection h with h;subst h
    match vs,a with
    | u::g,a=>
     have m:=f 0 _ u Z Z
     cases m with
     | raw _=>rw [O9 (w:=w) (O:=O) (vs:=g) b (by simpa using a) λi c v k j=>f (i+1) c v (by simpa using k) (by simpa using j)]
   .cases h
theorem A1.val {w:World} {O:Nat ->Prop} {d:D} {v b:Value} (h:A1 w O d v) (a:d.val? =some b):v=b:=by
 cases d with
 | raw u=>simp only [D.val?,Option.some.injEq] at a;subst a;cases h;rfl
 | agg g=>
  simp only [D.val?] at a
  split at a
  .cases a
  .rename_i l c
   injection a with a;subst a
   cases h with
   | agg f _ e=>rw [O9 c f e]
 | _=>cases a
section
variable {α:Type} [DecidableEq α]
variable {a:α ->Value} {d:TypeDesc} {P:Program} {K:TypeId}
def Jd (a:α):List α ->List MapEntry ->Nat ->Option (Nat×Value)
 | b::r,e::es,i=>if a=b then some (i,e.val) else Jd a r es (i+1)
 | _,_,_=>none
theorem RA {a:α}:∀{l:List α} {f:List MapEntry} {i:Nat},f.length=l.length ->Jd a l f i=none ->a∉l
 | [],_,_,_,_=>by simp
 | b::r,[],_,h,_=>by simp at h
 | b::r,e::f,i,h,c=>by
  simp only [Jd] at c
  split at c
  .cases c
  .rename_i d
   simp only [Υ,not_or];exact ⟨d,RA (by simpa using h) c⟩
theorem Qz {a:α}:∀{l:List α} {g:List MapEntry} {i j:Nat} {v:Value},Jd a l g i=some (j,v) ->i<=j/\l[j - i]? =some a/\(∃e,g[j - i]? =some e/\e.val=v)/\∀k,k<j - i ->l[k]?≠some a
 | [],[],_,_,_,h=>by simp [Jd] at h
 | [],_::_,_,_,_,h=>by simp [Jd] at h
 | b::r,[],i,_,_,h=>by simp [Jd] at h
 | b::r,e::g,i,j,v,h=>by
  simp only [Jd] at h
  split at h
  .rename_i d
   injection h with h;injection h with n f;subst n f d
   refine ⟨Γ _,by simp,⟨e,by simp,Z⟩,λk o=>by omega⟩
  .rename_i c
   obtain ⟨n,f,⟨t,s,q⟩,p⟩:=Qz h;have m:j - i=(j - (i+1))+1:=by omega
   refine ⟨by omega,by rw [m];simpa using f,⟨t,by rw [m];simpa using s,q⟩,λk o=>?_⟩
   cases k with
   | zero=>simp;exact λe=>c e.symm
   | succ k=>simpa using p k (by omega)
structure Bv (P:Program) (K:TypeId) (eK:α ->D) (kv:α ->Value):Prop where
 val:∀a,(eK a).val? =some (kv a)
 check:∀w em a,(Instr.checkKey em 10000 K (kv a)).run P w= .ok () w
 find:∀w a (es:List MapEntry) (l:List α),es.map (·.key)=l.map kv ->(Instr.findKey K (kv a) es).run P w= .ok (Jd a l es 0) w
 stays:∀w a,(Instr.keyThatStays (kv a) (kv a)).run P w= .ok (kv a) w
theorem NI {d:TypeDesc} {g:α ->Value} (j:∀a b,Instr.sameNow d (g a) (g b)=some (decide (a=b))) (a:α):∀(l:List α) (f:List MapEntry) (i:Nat),f.map (·.key)=l.map g ->Instr.findNow d (g a) f i=some (Jd a l f i)
 | [],[],i,_=>rfl
 | [],_::_,_,h=>by simp at h
 | _::_,[],_,h=>by simp at h
 | b::r,e::f,i,h=>by
  simp only [ψq,List.cons.injEq] at h;simp only [Instr.findNow,h.1,j,Jd]
  by_cases c:a=b
  .simp [c]
  .simp only [c,decide_false,if_false];exact NI j a r f (i+1) h.2
theorem Im {P:Program} {K:TypeId} {f:α ->Value} (g:∀w a b,(Op.equal K (f a) (f b)).run P w= .ok (decide (a=b)) w) (w:World) (a:α):∀(l:List α) (d:List MapEntry) (i:Nat),d.map (·.key)=l.map f ->(Instr.findAsking K (f a) d i).run P w= .ok (Jd a l d i) w
 | [],[],i,_=>rfl
 | [],_::_,_,h=>by simp at h
 | _::_,[],_,h=>by simp at h
 | b::r,e::d,i,h=>by
  simp only [ψq,List.cons.injEq] at h;simp only [Instr.findAsking,Sem.run_bind,h.1,g,Result.andThen_ok,Jd]
  by_cases c:a=b
  .simp [c]
  .simp only [c,decide_false,Bool.false_eq_true,if_false];exact Im g w a r d (i+1) h.2
theorem Bv.plain {eK:α ->D} (f:P.underlying K=some d) (g:∀c,(eK c).val? =some (a c)) (e:∀c,MapKept.IsKey d (a c)) (i:∀c b,Instr.sameNow d (a c) (a b)=some (decide (c=b))):Bv P K eK a where
 val:=g
 check _ em c:=MapKept.run_checkKey f (e c) em 9999
 find _ c es l h:=MapKept.run_findKey f (NI i c l es 0 h)
 stays _ c:=MapKept.run_keyThatStays (e c)
theorem Bv.asking {eK:α ->D} (m:P.underlying K=some d) (g:∀c,(eK c).val? =some (a c)) (n:∀w p c,(Instr.checkKey p 10000 K (a c)).run P w= .ok () w) (j:∀w c b,(Op.equal K (a c) (a b)).run P w= .ok (decide (c=b)) w) (k:∀c b,Instr.sameNow d (a c) (a b)=none) (i:∀w c,(Instr.keyThatStays (a c) (a c)).run P w= .ok (a c) w):Bv P K eK a where
 val:=g
 check:=n
 find w c f l h:=by
  simp only [Instr.findKey,Sem.run_bind,run_underlying m,Result.andThen_ok]
  cases f with
  | nil=>
   cases l with
   | nil=>rfl
   | cons _ _=>simp at h
  | cons e f=>
   cases l with
   | nil=>simp at h
   | cons b r=>
    have o:=h;simp only [ψq,List.cons.injEq] at h;simp only [Instr.findNow,h.1,k];exact Im j w c _ _ 0 o
 stays:=i
variable {β:Type}
variable {m:List (α×β)} {a:α} {c z:β}
def Ad:List (α×β) ->α ->β ->β
 | [],_,z=>z
 | (k,b)::r,a,z=>if a=k then b else Ad r a z
def Ot:List (α×β) ->α ->Bool
 | [],_=>false
 | (k,_)::r,a=>decide (a=k) || Ot r a
def BZ:List (α×β) ->α ->β ->List (α×β)
 | [],a,b=> [(a,b)]
 | (k,b')::r,a,b=>if a=k then (k,b)::r else (k,b')::BZ r a b
def mix:List (α×β) ->α ->Nat
 | [],_=>0
 | (k,_)::r,a=>if a=k then 0 else mix r a+1
def Be (m:List (α×β)) (a:α) (z:β):List (α×β):=BZ m a (Ad m a z)
theorem HF (m:List (α×β)) (a c:α) (b z:β):Ad (BZ m a b) c z=if c=a then b else Ad m c z:=by
 induction m with
 | nil=>simp [BZ,Ad]
 | cons p r d=>
  grind [BZ,Ad]
theorem EW (m:List (α×β)) (a b:α) (z:β):Ad (Be m a z) b z=Ad m b z:=by grind [Be,HF]
theorem WU (m:List (α×β)) (a:α) (b z:β):BZ (Be m a z) a b=BZ m a b:=by
 unfold Be
 generalize Ad m a z=c
 induction m with
 | nil=>simp [BZ]
 | cons p r d=>
  grind [BZ]
theorem MS (m:List (α×β)) (a:α) (z:β):mix (Be m a z) a=mix m a:=by
 unfold Be
 generalize Ad m a z=c
 induction m with
 | nil=>simp [BZ,mix]
 | cons p r b=>
  grind [BZ,mix]
theorem Nq {m:List (α×β)} {a:α} {b:β}:(BZ m a b)[mix m a]? =some (a,b)/\∀j,j≠mix m a ->(BZ m a b)[j]? =m[j]?:=by
 induction m with
 | nil=>
  grind [BZ,mix]
 | cons p r c=>
  grind [BZ,mix]
theorem Kw {m:List (α×β)} {a:α} {b:β}:(BZ m a b).length=max m.length (mix m a+1)/\mix m a<=m.length:=by
 induction m with
 | nil=>simp [BZ,mix]
 | cons p r c=>
  grind [BZ,mix]
theorem Ft:Ot m a=true↔a∈m.map Prod.fst:=by
 induction m with
 | nil=>simp [Ot]
 | cons p r c=>obtain ⟨k,b⟩:=p;simp [Ot,c]
theorem MQ:(BZ m a c).map Prod.fst=if a∈m.map Prod.fst then m.map Prod.fst else m.map Prod.fst++ [a]:=by
 induction m with
 | nil=>simp [BZ]
 | cons p r d=>
  grind [BZ]
theorem Or (h:(m.map Prod.fst).Nodup):((BZ m a c).map Prod.fst).Nodup:=by grind [MQ]
theorem Dc {z:β} (e:(m.map Prod.fst).Nodup) (h:(a,c)∈m):Ad m a z=c:=by
 induction m with
 | nil=>cases h
 | cons p r d=>
  grind [Ad]
theorem JS (h:a∉m.map Prod.fst):Ad m a z=z:=by
 induction m with
 | nil=>rfl
 | cons p r b=>
  grind [Ad]
theorem Ic (h:a∈m.map Prod.fst):(a,Ad m a z)∈m:=by
 induction m with
 | nil=>simp at h
 | cons p r b=>
  grind [Ad]
def CE (m:List (α×β)) (B seen:List Nat):List (α×β):=((m.zip B).filter λp=>!(seen.contains p.2)).map Prod.fst
omit [DecidableEq α] in
theorem ZcM {B:List Nat} (h:B.length=m.length):CE m B []=m:=by
 unfold CE;rw [List.filter_eq_self.2 (by simp)];exact List.map_fst_zip (by omega)
omit [DecidableEq α] in
theorem UM:∀{m:List (α×β)} {B seen:List Nat} {j b:Nat} {x:α×β},B.Nodup ->m[j]? =some x ->B[j]? =some b ->b∉seen ->(CE m B seen).Perm (x::CE m B (seen++ [b]))
 | [],_,_,_,_,_,_,h,_,_=>by simp at h
 | y::m,[],_,_,_,_,_,_,h,_=>by simp at h
 | y::m,c::B,seen,j,b,x,g,k,i,q=>by
  simp only [φh] at g
  cases j with
  | zero=>
   simp at k i;subst k i
   have e:∀(m:List (α×β)) (B:List Nat),c∉B ->CE m B (seen++ [c])=CE m B seen:=λm B h=>by
    unfold CE
    congr 1
    refine χr λp r=>?_;have:p.2≠c:=λe=>h (by rw [<-e];exact (List.of_mem_zip r).2)
    simp [this]
   have f:CE (y::m) (c::B) seen=y::CE m B seen:=by simp [CE,q]
   have d:CE (y::m) (c::B) (seen++ [c])=CE m B (seen++ [c]):=by simp [CE]
   rw [f,d,e m B g.1]
  | succ j=>
   have o:=UM (seen:=seen) g.2 (by simpa using k) (by simpa using i) q;have n:b∈B:=ξ (by simpa using i);have l:c≠b:=λe=>g.1 (by rw [e];exact n)
   by_cases a:c∈seen
   .have f:CE (y::m) (c::B) seen=CE m B seen:=by simp [CE,a]
    have d:CE (y::m) (c::B) (seen++ [b])=CE m B (seen++ [b]):=by simp [CE,a]
    rw [f,d];exact o
   .have f:CE (y::m) (c::B) seen=y::CE m B seen:=by simp [CE,a]
    have d:CE (y::m) (c::B) (seen++ [b])=y::CE m B (seen++ [b]):=by simp [CE,a,l]
    rw [f,d];exact (List.Perm.cons _ o).trans (List.Perm.swap _ _ _)
end
variable {P:Program} {T:TypeId} {a:AV}
def bG:Value ->Option AV
 | .agg cs=>match Hz cs.toList with
  | none=>none
  | some l=>Jw l
 | v=>It v
def DC (P:Program) (T:TypeId):Option AV:=match P.info? T with
 | none=>none
 | some i=>match i.zero with
  | none=>none
  | some z=>bG z
theorem Vj {v:Value} (h:bG v=some a) (w:World) (O:Nat ->Prop) (ρ:Nat ->Nat ->Value):A9 w O ρ a v:=by
 unfold bG at h
 split at h
 .rename_i e
  split at h
  .cases h
  .rename_i l b
   obtain ⟨d,c⟩:=Cy b w O ρ;have:=GZ (w:=w) (O:=O) (ρ:=ρ) h d c;omega
 .exact (MA h).1
theorem Eg (h:DC P T=some a) (w:World):∃z,(zeroValue T).run P w= .ok z w/\∀(b:World) O ρ,A9 b O ρ a z:=by
 unfold DC at h
 split at h
 .cases h
 .rename_i i c
  split at h
  .cases h
  simp [*,zeroValue,typeInfo,Vj]
def Bo (P:Program) (T K E:TypeId):Bool:=match P.underlying T with
 | some (.map k e)=>Nat.beq k K && Nat.beq e E
 | _=>false
theorem XB {K E:TypeId} (h:Bo P T K E=true):P.underlying T=some (.map K E):=by grind [Bo,ωb]
section
variable {α β:Type} [DecidableEq α]
def B5 (eK:α ->D) (eV:β ->D) (m:List (α×β)):List (D×D):=m.map λx=>(eK x.1,eV x.2)
def B1 (eK:α ->D) (eV:β ->D) (m:List (α×β)):AN:= .map (some (List.range m.length,m.length)) (B5 eK eV m)
variable {P:Program} {F:Fr} {s:AS} {K:TypeId} {eK:α ->D} {kv:α ->Value} {eV:β ->D}
variable {a:Array MapEntry} {m:List (α×β)} {c:Nat ->Prop} {w:World}
theorem Ye (g:Bv P K eK kv) (d:a.size=(B5 eK eV m).length)
  (h:∀(i:Nat) e x,a[i]? =some e ->(B5 eK eV m)[i]? =some x ->A1 w c x.1 e.key/\A1 w c x.2 e.val):a.toList.map (·.key)=(m.map Prod.fst).map kv:=by
 simp only [B5,χ] at d;refine χn λi=>?_;simp only [ν,ψd]
 cases ha:a[i]? with
 | none=>
  grind
 | some e=>
  have b:i<m.length:=by have:=(ωn.1 ha).1;omega
  rw [ω b];have f:=(h i e (eK m[i].1,eV m[i].2) ha (by simp [B5,b])).1;simp only [ψl,Option.some.injEq];exact f.val (g.val _)
theorem hit_get (G:Bv P K eK kv) (t:a.size=(B5 eK eV m).length)
  (h:∀(i:Nat) e x,a[i]? =some e ->(B5 eK eV m)[i]? =some x ->A1 w c x.1 e.key/\A1 w c x.2 e.val) (d:α) (z:β):
  (Jd d (m.map Prod.fst) a.toList 0=none/\Ot m d=false/\Ad m d z=z/\mix m d=m.length)\/∃i e,Jd d (m.map Prod.fst) a.toList 0=some (i,e.val)/\a[i]? =some e/\e.key=kv d/\Ot m d=true/\mix m d=i/\i<m.length/\A1 w c (eV (Ad m d z)) e.val:=by
 have f:a.toList.length=(m.map Prod.fst).length:=by simpa [B5] using t
 cases hh:Jd d (m.map Prod.fst) a.toList 0 with
 | none=>
  have u:=RA f hh;refine .inl ⟨Z,?_,JS u,?_⟩
  .cases hm:Ot m d with
   | false=>rfl
   | true=>exact absurd (Ft.1 hm) u
  .clear hh f t h
   induction m with
   | nil=>rfl
   | cons p r B=>
    grind [mix]
 | some q=>
  obtain ⟨i,v⟩:=q;obtain ⟨_,o,⟨e,n,A⟩,y⟩:=Qz hh;simp only [Nat.sub_zero,ψd] at o n y;rw [ν] at o
  have j:i<m.length:=by
   grind
  have l:(m[i]).1=d:=by rw [ω j] at o;simpa using o
  have g:mix m d=i/\Ad m d z=(m[i]).2:=by
   clear hh f t h n A
   induction m generalizing i with
   | nil=>simp at j
   | cons p r B=>
    obtain ⟨k,b⟩:=p
    cases i with
    | zero=>simp at l;subst l;simp [mix,Ad]
    | succ i=>
     have C:d≠k:=λe=>y 0 (by omega) (by simp [e])
     grind [mix,Ad]
  obtain ⟨E,D⟩:=h i e (eK m[i].1,eV m[i].2) n (by simp [B5,j]);refine .inr ⟨i,e,by rw [<-A],n,?_,Ft.2 (by rw [<-l];exact ψz (ϑ j)),g.1,j,by rw [g.2];exact D⟩;have:=E.val (G.val _);rw [this,l]
variable {d:Nat} {ty T E:TypeId} {pos:String} {aft:Array Edge} {g:Option (Nat×Bool)} {x y z:Operand} {bs:Option (List Nat×Nat)}
variable {a:Nat ->Nat ->Value} {c:List (D×D)} {w:World} {i f:Nat} {e:Act} {o:AN}
def Kx:AN ->Option (Option (List Nat×Nat)×List (D×D))
 | .map bs es=>some (bs,es)
 | .nm _ bs es=>some (bs,es)
 | _=>none
theorem Av.mapO {O:Nat ->Prop} {v:Value} (h:Av w O a o v) (k:Kx o=some (bs,c)):
  ∃(l:Nat) (j:Array MapEntry) (f:Nat),v= .map (some l)/\w.heap[l]? =some (.map j f)/\j.size=c.length/\(∀(i:Nat) e x,j[i]? =some e ->c[i]? =some x ->A1 w O x.1 e.key/\A1 w O x.2 e.val)/\
   (j.toList.map (·.born)).Nodup/\(∀e∈j.toList,e.born<f)/\∀B m,bs=some (B,m) ->B=j.toList.map (·.born)/\m=f:=by
 cases o with
 | map _ _=>simp only [Kx,Option.some.injEq,Prod.mk.injEq] at k;obtain ⟨rfl,rfl⟩:=k;exact h
 | nm b _ _=>simp only [Kx,Option.some.injEq,Prod.mk.injEq] at k;obtain ⟨rfl,rfl⟩:=k;exact ⟨b,h.2.choose,h.2.choose_spec.choose,h.1,h.2.choose_spec.choose_spec⟩
 | _=>cases k
theorem SR.mapV (j:SR F s a e w) (c:s.ev x=some (.map f i)):e.eval x=a f i:=by
 have b:=j.ev c
 generalize e.eval x=k at b
 cases b with
 | map h=>exact h.symm
theorem SR.mapAt0 (n:SR F s a e w) (q:e.eval x=a f i) (p:hget s.hp f i=some o) (l:Kx o=some (bs,c)):
  ∃(k:Nat) (j:Array MapEntry) (h:Nat),e.eval x= .map (some k)/\a f i= .map (some k)/\w.heap[k]? =some (.map j h)/\j.size=c.length/\(∀(i:Nat) b x,j[i]? =some b ->c[i]? =some x ->A1 w (F.O a s.hp) x.1 b.key/\A1 w (F.O a s.hp) x.2 b.val)/\
   (j.toList.map (·.born)).Nodup/\(∀b∈j.toList,b.born<h)/\∀B m,bs=some (B,m) ->B=j.toList.map (·.born)/\m=h:=by
 obtain ⟨k,j,h,t,r⟩:=(n.heap.sim f i _ p).mapO l
 grind
theorem SR.mapAt (l:SR F s a e w) (n:s.ev x=some (.map f i)) (o:hget s.hp f i=some (.map bs c)):
  ∃(k:Nat) (j:Array MapEntry) (h:Nat),e.eval x= .map (some k)/\a f i= .map (some k)/\w.heap[k]? =some (.map j h)/\j.size=c.length/\(∀(i:Nat) b x,j[i]? =some b ->c[i]? =some x ->A1 w (F.O a s.hp) x.1 b.key/\A1 w (F.O a s.hp) x.2 b.val)/\
   (j.toList.map (·.born)).Nodup/\(∀b∈j.toList,b.born<h)/\∀B m,bs=some (B,m) ->B=j.toList.map (·.born)/\m=h:=
 l.mapAt0 (l.mapV n) o rfl
theorem TR (m:List (α×β)) (a:α) (A v:β) (L:∀k b w,SR F s k b w ->b.eval x=k f i) (N:hget s.hp f i=some o) (q:Kx o=some (bs,B5 eK eV m)) (J:s.ev y=some (.d (eK a))) (C:Bo P T K E=true) (h:Bv P K eK kv) (I:DC P E=some (.d (eV A))) (M:Ad m a A=v) (O:Nat.blt d s.n=true):
  AA P F ⟨some d,.lookup T x y false,ty,pos,aft,g⟩ s d (.d (eV v)):=
 Cz _ O λk b w p=>by
  obtain ⟨U,S,c,G,_,D,t,r,_⟩:=p.mapAt0 (L _ _ _ p) N q;have B:b.eval y=kv a:=(p.repD J).val (h.val a);obtain ⟨H,n,l⟩:=Eg I w;subst M;rcases hit_get h t r a A with ⟨u,_,R,_⟩ | ⟨j,e,u,V,_,_,_,_,Q⟩
  .refine ⟨H,?_,by rw [R];exact l _ _ _⟩
   simp [execOp,Instr.lookup,run_underlying (XB C),G,B,MapKept.run_getObj_map D,h.check,h.find w a _ _ (Ye h t r),u,n,Result.andThen]
  .refine ⟨e.val,?_,.d Q⟩
   simp [execOp,Instr.lookup,run_underlying (XB C),G,B,MapKept.run_getObj_map D,h.check,h.find w a _ _ (Ye h t r),u,Result.andThen]
theorem IR (m:List (α×β)) (a:α) (b v:β) (h:s.ev x=some (.map f i)) (l:hget s.hp f i=some (.map bs (B5 eK eV m))) (e:s.ev y=some (.d (eK a))) (o:Bo P T K E=true) (p:Bv P K eK kv) (c:DC P E=some (.d (eV b))) (j:Ad m a b=v) (n:Nat.blt d s.n=true):
  AA P F ⟨some d,.lookup T x y false,ty,pos,aft,g⟩ s d (.d (eV v)):=
 TR m a b v (λ_ _ _ k=>k.mapV h) l Z e o p c j n
theorem Vt (m:List (α×β)) (a:α) (I:β) (V:∀b h w,SR F s b h w ->h.eval x=b f i) (W:hget s.hp f i=some o) (D:Kx o=some (bs,B5 eK eV m)) (U:s.ev y=some (.d (eK a))) (N:Bo P T K E=true) (l:Bv P K eK kv) (S:DC P E=some (.d (eV I))) (X:Nat.blt d s.n=true):
  AA P F ⟨some d,.lookup T x y true,ty,pos,aft,g⟩ s d (.tup [.d (eV (Ad m a I)),.d (.raw (.bool (Ot m a)))]):=
 Cz _ X λb h w C=>by
  obtain ⟨mb,arr,c,Q,_,u,p,G,_⟩:=C.mapAt0 (V _ _ _ C) W D;have M:h.eval y=kv a:=(C.repD U).val (l.val a);obtain ⟨R,B,A⟩:=Eg S w
  have k:∀{r q:Value} {L J:AV},A9 w (F.O b s.hp) b L r ->A9 w (F.O b s.hp) b J q ->A9 w (F.O b s.hp) b (.tup [L,J]) (.tuple #[r,q]):=λ{r q L J} u p=>by
   refine .tup (vs:=[r,q]) Z λi a v n t=>?_;rcases i with _ | _ | i
   .simp at n t;subst n t;exact u
   .simp at n t;subst n t;exact p
   .simp at n
  rcases hit_get l p G a I with ⟨H,O,g3,_⟩ | ⟨j,e,H,O,_,g4,_,_,Y⟩
  .refine ⟨.tuple #[R,.bool false],?_,k (by rw [g3];exact A _ _ _) (by rw [O];exact .d (.raw Z))⟩
   simp [execOp,Instr.lookup,run_underlying (XB N),Q,M,MapKept.run_getObj_map u,l.check,l.find w a _ _ (Ye l p G),H,B,Result.andThen]
  .refine ⟨.tuple #[e.val,.bool true],?_,k (.d Y) (by rw [g4];exact .d (.raw Z))⟩
   simp [execOp,Instr.lookup,run_underlying (XB N),Q,M,MapKept.run_getObj_map u,l.check,l.find w a _ _ (Ye l p G),H,Result.andThen]
theorem Q0 (m:List (α×β)) (a:α) (b:β) (h:s.ev x=some (.map f i)) (k:hget s.hp f i=some (.map bs (B5 eK eV m))) (e:s.ev y=some (.d (eK a))) (n:Bo P T K E=true) (o:Bv P K eK kv) (c:DC P E=some (.d (eV b))) (l:Nat.blt d s.n=true):
  AA P F ⟨some d,.lookup T x y true,ty,pos,aft,g⟩ s d (.tup [.d (eV (Ad m a b)),.d (.raw (.bool (Ot m a)))]):=
 Vt m a b (λ_ _ _ j=>j.mapV h) k Z e n o c l
theorem Ps (f:Nat) {a:List (Nat×AV)} {c j:List (Nat×List AN)} (r:Ac f s.env=some a) (q:Aa f s.hp=some c) (o:Cj c f (.map (some ([],0)) [])=some j) (p:Nat.blt d s.n=true):
  AG P F ⟨some d,.makeMap T none,ty,pos,aft,g⟩ s ⟨s.n,(d,.map f 0)::a,j⟩ (Bn f):=λt l w n=>by
 have b:(execOp l.eval ⟨some d,.makeMap T none,ty,pos,aft,g⟩).run P w= .ok (.value (.map (some w.heap.size))) (w.alloc (.map #[] 0)):=by
  simp [execOp,run_makeMap,Result.andThen]
 unfold Oper.wp;rw [b];have k:=n.new f (.map (some ([],0)) []) (.map (some w.heap.size)) (.map #[] 0) r q o Z (λm=>⟨w.heap.size, #[],0,Z,heap_alloc_new w _,Z,by simp,by simp,by simp,λB u e=>by injection e with e;injection e with e1 e2;subst e1 e2;simp⟩);exact ⟨_,k.put (IS p) (.map QS),λf i h=>OF λe=>Sf h e.1⟩
end
end Go.Proofs.YteifpcnphnhaoaaGreat
namespace Go.Proofs.YteifpcnphnhaoaaGreat
open Go.RowKit Go.ChangeMaps
section
variable {α β:Type} [DecidableEq α]
variable {P:Program} {F:Fr} {s:AS} {K:TypeId} {eK:α ->D} {kv:α ->Value} {eV:β ->D}
variable {d:Nat} {ty T E:TypeId} {pos:String} {aft:Array Edge} {g:Option (Nat×Bool)} {x y z:Operand} {bs:Option (List Nat×Nat)}
variable {a:List (Nat×AV)} {c e:List (Nat×List AN)} {B:List Nat} {i f:Nat} {h:List (Nat×AV)} {n:Nat} {Q:Exit ->AS ->Prop} {w:World} {j:Array Oper} {k:List Oper} {m:List (D×D)} {o:List (Nat×List AN)} {p q:Nat} {t:AN} {u:Obj} {A:Nat} {C:β} {G:α}
def P9 (m:List (α×β)) (a:α):Option (List Nat×Nat) ->Option (List Nat×Nat)
 | none=>none
 | some (B,c)=>if mix m a<m.length then some (B,c) else some (B++ [c],c+1)
theorem Iv (m:List (α×β)) (a:α) (b:β):P9 m a (some (List.range m.length,m.length))=some (List.range (BZ m a b).length,(BZ m a b).length):=by grind [Kw,P9,ωy]
theorem H6 (_:Bv P K eK kv) {M:World} {O V:Nat ->Prop} {W:Nat ->Nat ->Value} {m:List (α×β)} {a:α} {b:β} {j r:Array MapEntry} {c' mb:Nat} {v:Value}
  (hz:j.size=(B5 eK eV m).length) (h:∀(i:Nat) e x,j[i]? =some e ->(B5 eK eV m)[i]? =some x ->A1 w O x.1 e.key/\A1 w O x.2 e.val)
  (hn:(j.toList.map (·.born)).Nodup) (hb:∀e∈j.toList,e.born<p) (U:∀B c',bs=some (B,c') ->B=j.toList.map (·.born)/\c'=p)
  (Q:∀A v,A9 w O W A v ->A9 M V W A v) (hv:A1 M V (eV b) v) (R:A1 M V (eK a) (kv a))
  (I:(mix m a=m.length/\r=j.push {key:=kv a,val:=v,born:=p}/\c'=p+1)\/∃e,j[mix m a]? =some e/\mix m a<m.length/\r=(j.modify (mix m a) λe=>{e with key:=kv a,val:=v})/\c'=p)
  (t:M.heap[mb]? =some (.map r c')):Av M V W (.map (P9 m a bs) (B5 eK eV (BZ m a b))) (.map (some mb)):=by
 have X:j.size=m.length:=by simpa [B5] using hz
 obtain ⟨l1,l2⟩:=Kw (m:=m) (a:=a) (b:=b);obtain ⟨p1,p2⟩:=Nq (m:=m) (a:=a) (b:=b)
 have l:∀x v,A1 w O x v ->A1 M V x v:=λx v n=>by
  have:=Q (.d x) v (.d n)
  cases this with | d h=>exact h
 rcases I with ⟨hm,rfl,rfl⟩ | ⟨e0,H,Y,rfl,rfl⟩
 .refine ⟨mb,_,_,Z,t,?_,λi e x k n=>?_,?_,λe k=>?_,λB c' J=>?_⟩
  .simp [B5];omega
  .have hi:i<(BZ m a b).length:=by have:=(φ.1 n).1;simpa [B5] using this
   by_cases G:i=m.length
   .subst G;rw [Array.getElem?_push,ς X.symm] at k;injection k with k;subst k
    have:(B5 eK eV (BZ m a b))[m.length]? =some (eK a,eV b):=by
     have:=p1;rw [hm] at this;simp [B5,this]
    rw [this] at n;injection n with n;subst n
    exact ⟨R,hv⟩
   .rw [Array.getElem?_push,η (by omega)] at k
    have C:(B5 eK eV m)[i]? =some x:=by
     have:=p2 i (by omega);simp only [B5,ν,this] at n⊢;exact n
    obtain ⟨g1,g2⟩:=h i e x k C;exact ⟨l _ _ g1,l _ _ g2⟩
  .simp only [Array.toList_push,Ω,ψq,List.map_nil];rw [χv];refine ⟨hn,by simp,λu hu v' N=>?_⟩
   simp at N;subst N
   obtain ⟨e,k,rfl⟩:=Ξ.1 hu;have:=hb e k;omega
  .simp only [Array.toList_push,ϖ,Υ,List.not_mem_nil,or_false] at k;rcases k with k | rfl
   .have:=hb e k;omega
   .show p<p+1;omega
  .cases bs with
   | none=>cases J
   | some q=>
    obtain ⟨B0,c0⟩:=q;obtain ⟨rfl,rfl⟩:=U B0 c0 rfl;simp only [P9,hm,φe,if_false,Option.some.injEq,Prod.mk.injEq] at J;obtain ⟨rfl,rfl⟩:=J
    simp
 .have G:∀(i:Nat) e,(j.modify (mix m a) λe=>{e with key:=kv a,val:=v})[i]? =some e ->∃L,j[i]? =some L/\e=if i=mix m a then {L with key:=kv a,val:=v} else L:=λi e k=>by
   rw [ψy] at k
   split at k
   .rename_i S;subst S
    rw [H] at k;simp at k;subst k;exact ⟨e0,H,by simp⟩
   .rename_i S;exact ⟨e,k,by rw [η (λhh'=>S hh'.symm)]⟩
  have o:(j.modify (mix m a) λe=>{e with key:=kv a,val:=v}).toList.map (·.born)=j.toList.map (·.born):=by
   refine χn λi=>?_;simp only [ν,ψd,ψy]
   split
   .rename_i S;subst S;rw [H];rfl
   .rfl
  refine ⟨mb,_,_,Z,t,?_,λi e x k n=>?_,by rw [o];exact hn,λe k=>?_,λB c' J=>?_⟩
  .simp [B5];omega
  .obtain ⟨L,h1,rfl⟩:=G i e k
   by_cases D:i=mix m a
   .subst D;rw [ς rfl];have:(B5 eK eV (BZ m a b))[mix m a]? =some (eK a,eV b):=by simp [B5,p1]
    rw [this] at n;injection n with n;subst n
    exact ⟨R,hv⟩
   .rw [η D]
    have C:(B5 eK eV m)[i]? =some x:=by
     have:=p2 i D;simp only [B5,ν,this] at n⊢;exact n
    obtain ⟨g1,g2⟩:=h i L x h1 C;exact ⟨l _ _ g1,l _ _ g2⟩
  .have:e.born∈(j.modify (mix m a) λe=>{e with key:=kv a,val:=v}).toList.map (·.born):=ψz (f:=(·.born)) k;rw [o] at this;obtain ⟨L,h1,h2⟩:=Ξ.1 this;rw [<-h2];exact hb L h1
  .cases bs with
   | none=>cases J
   | some q=>
    obtain ⟨B0,c0⟩:=q;simp only [P9,Y,if_true,Option.some.injEq,Prod.mk.injEq] at J;obtain ⟨rfl,rfl⟩:=J;rw [o];exact U _ _ rfl
theorem Zct (h:i≠q):(setBlock w q u).heap[i]? =w.heap[i]?:=by
 simp [setBlock,Ne.symm h]
theorem ZcO {a:Obj} (h:w.heap[q]? =some a):(setBlock w q u).heap[q]? =some u:=by
 have:=(ωn.1 h).1
 simp [setBlock,this]
theorem Zcp:(setBlock w q u).heap.size=w.heap.size:=by simp [setBlock]
theorem bj (m:List (α×β)) (a:α) (b:β) (hx:s.ev x=some (.map f i)) (S:hget s.hp f i=some (.map bs (B5 eK eV m))) (R:s.ev y=some (.d (eK a))) (U:Bo P T K E=true) (p:Bv P K eK kv) (hz:s.ev z=some (.d (eV b)))
  (hh:B7 s.hp f i (.map (P9 m a bs) (B5 eK eV (BZ m a b)))=some c):AG P F ⟨none,.mapUpdate T x y z,ty,pos,aft,g⟩ s ⟨s.n,s.env,c⟩ (λ_ _=>true):=λI o w u=>by
 obtain ⟨mb,r,k,X,W,A,G,D,h4,h5,h6⟩:=u.mapAt hx S;have M:o.eval y=kv a:=(u.repD R).val (p.val a);have L:A1 w (F.O I s.hp) (eK a) (kv a):=M▸u.repD R;have J:=u.ev hz
 have B:∀l H,(execOp o.eval ⟨none,.mapUpdate T x y z,ty,pos,aft,g⟩).run P w= .ok .skip (setBlock w mb (.map l H)) ->((mix m a=m.length/\l=r.push {key:=kv a,val:=o.eval z,born:=k}/\H=k+1)\/∃e,r[mix m a]? =some e/\mix m a<m.length/\l=(r.modify (mix m a) λe=>{e with key:=kv a,val:=o.eval z})/\H=k)→
   (⟨none,.mapUpdate T x y z,ty,pos,aft,g⟩:Oper).wp P o w (λC Y=>∃t,SR F ⟨s.n,s.env,c⟩ t C Y/\∀f i,(λ_ _=>true) f i=true ->t f i=I f i) (λ_ _ _=>False):=λl H v q=>by
  unfold Oper.wp;rw [v];refine ⟨I,u.write f i _ (.map (P9 m a bs) (B5 eK eV (BZ m a b))) S (BB hh) Z Z Z Zcp (λb' N=>Zct λe=>N (by rw [W,e];rfl)) (λ_ _ e=>nomatch e) λn=>?_,λ_ _ _=>rfl⟩;rw [W];refine H6 p G D h4 h5 h6 n (by have:=n _ _ J;cases this with | d h=>exact h) ?_ q (ZcO A);have:=n (.d (eK a)) _ (.d L)
  cases this with | d h=>exact h
 rcases hit_get p G D a b with ⟨Q,_,_,g4⟩ | ⟨j,e,Q,V,g3,_,O,g6,_⟩
 .refine B _ _ ?_ (.inl ⟨g4,Z,Z⟩)
  simp [execOp,Instr.mapUpdate,run_underlying (XB U),X,M,MapKept.run_getObj_map A,p.check,p.find w a _ _ (Ye p G D),Q,Result.andThen,MapKept.run_setObj_map _ A,setBlock]
 .refine B _ _ ?_ (.inr ⟨e,by rw [O];exact V,by rw [O];exact g6,Z,Z⟩)
  simp [execOp,Instr.mapUpdate,run_underlying (XB U),X,M,MapKept.run_getObj_map A,p.check,p.find w a _ _ (Ye p G D),Q,V,g3,O,Result.andThen,MapKept.run_setObj_map _ A,setBlock,p.stays]
theorem VZ (m:List (α×β)) (h:α) (b:β) (l:AS.ev ⟨n,a,e⟩ x=some (.map f i)) (o:hget e f i=some (B1 eK eV m)) (k:AS.ev ⟨n,a,e⟩ y=some (.d (eK h))) (q:Bo P T K E=true) (r:Bv P K eK kv) (j:AS.ev ⟨n,a,e⟩ z=some (.d (eV b)))
  (p:B7 e f i (B1 eK eV (BZ m h b))=some c):AG P F ⟨none,.mapUpdate T x y z,ty,pos,aft,g⟩ ⟨n,a,e⟩ ⟨n,a,c⟩ (λ_ _=>true):=
 bj (s:=⟨n,a,e⟩) m h b l o k q r j (by rw [Iv (b:=b)];exact p)
theorem HZ (m:List (α×β)) (o:α) (t:β) (hx:AS.ev ⟨n,a,e⟩ x=some (.map f i)) (Y:hget e f i=some (B1 eK eV m)) (hy:AS.ev ⟨n,a,e⟩ y=some (.d (eK o))) (hT:Bo P T K E=true) (u:Bv P K eK kv) (hz:DC P E=some (.d (eV t)))
  (hh:B7 e f i (B1 eK eV (Be m o t))=some c) (hd:Nat.blt d n=true):AG P F ⟨some d,.mapEntry T x y,ty,pos,aft,g⟩ ⟨n,a,e⟩ ⟨n,(d,.tup [.d (eV (Ad m o t)),.d (.raw (.int .i64 (mix m o:Int)))])::a,c⟩ (λ_ _=>true):=λA H w X=>by
 obtain ⟨mb,r,l,e1,e2,S,R,h3,h4,h5,h6⟩:=X.mapAt hx Y;have hk:H.eval y=kv o:=(X.repD hy).val (u.val o);have hkr:A1 w (F.O A e) (eK o) (kv o):=hk▸X.repD hy;obtain ⟨zv,hz1,hz2⟩:=Eg hz w;obtain ⟨hB,hc⟩:=h6 _ _ rfl;subst hc;have hzm:r.size=m.length:=by simpa [B5] using R
 have U:∀p J v,(execOp H.eval ⟨some d,.mapEntry T x y,ty,pos,aft,g⟩).run P w= .ok (.value (.tuple #[v,.int .i64 (mix m o:Int)])) (setBlock w mb (.map p J)) ->A1 w (F.O A e) (eV (Ad m o t)) v ->((mix m o=m.length/\p=r.push {key:=kv o,val:=v,born:=m.length}/\J=m.length+1)\/∃k,r[mix m o]? =some k/\mix m o<m.length/\p=(r.modify (mix m o) λk=>{k with key:=kv o,val:=v})/\J=m.length)→
   (⟨some d,.mapEntry T x y,ty,pos,aft,g⟩:Oper).wp P H w (λV w'=>∃L,SR F ⟨n,(d,.tup [.d (eV (Ad m o t)),.d (.raw (.int .i64 (mix m o:Int)))])::a,c⟩ L V w'/\∀f i,(λ_ _=>true) f i=true ->L f i=A f i) (λ_ _ _=>False):=λp J v N M D=>by
  unfold Oper.wp;rw [N]
  have hw:=X.write f i _ (B1 eK eV (Be m o t)) (w':=setBlock w mb (.map p J)) Y (BB hh) Z Z Z Zcp (λb' hb'=>Zct λk=>hb' (by rw [e2,k];rfl)) (λ_ _ k=>nomatch k) λq=>by
   rw [e2]
   have:=H6 (b:=Ad m o t) u R h3 h4 h5 h6 q (by have:=q (.d _) _ (.d M);cases this with | d h=>exact h) (by
    have:=q (.d (eK o)) _ (.d hkr)
    cases this with | d h=>exact h) D (ZcO S)
   rw [Iv (b:=Ad m o t)] at this;exact this
  have q:A1 (setBlock w mb (.map p J)) (F.O A c) (eV (Ad m o t)) v:=by
   have hO:∀b,F.O A c b ->F.O A e b:=λb C=>by
    rcases C with C | ⟨f',i',o1,I,B⟩
    .exact .inl C
    .refine .inr ?_
     by_cases k:f'=f/\i'=i
     .obtain ⟨rfl,rfl⟩:=k;exact ⟨f',i',_,Y,B⟩
     .rw [BB hh,η k] at I;exact ⟨f',i',o1,I,B⟩
   exact M.mono (Nat.le_of_eq Zcp.symm) (λb _ hn=>Zct λk=>hn (.inr ⟨f,i,_,Y,by rw [e2,k];rfl⟩)) (λb _=>hO b)
  refine ⟨A,hw.put (IS hd) (.tup (vs:=[v,.int .i64 (mix m o:Int)]) Z λi o v Q W=>?_),λ_ _ _=>rfl⟩;rcases i with _ | _ | i
  .simp at Q W;subst Q W;exact .d q
  .simp at Q W;subst Q W;exact .d (.raw Z)
  .simp at Q
 rcases hit_get u R h3 o t with ⟨I,_,g3,g4⟩ | ⟨j,k,I,B,g3,_,g5,g6,g7⟩
 .refine U _ _ zv ?_ (by rw [g3];have:=hz2 w (F.O A e) A;cases this with | d h=>exact h) (.inl ⟨g4,rfl,rfl⟩)
  simp [execOp,Instr.mapEntry,run_underlying (XB hT),e1,hk,MapKept.run_getObj_map S,u.check,u.find w o _ _ (Ye u R h3),I,g4,hz1,Result.andThen,MapKept.run_setObj_map _ S,setBlock,goInt]
 .have G:k.born=j:=by
   have hj:j<r.size:=(ωn.1 B).1;have:=ωm (·[j]?) hB;simp only [ν,ψd,B,ψl] at this;rw [ψt (by omega)] at this;injection this with this;exact this.symm
  refine U _ _ k.val ?_ g7 (.inr ⟨k,by rw [g5];exact B,by rw [g5];exact g6,Z,Z⟩)
  have O:(r.modify (mix m o) λk=>{k with key:=kv o})=r.modify (mix m o) λe'=>{e' with key:=kv o,val:=k.val}:=by
   refine Array.ext_getElem? λi=>?_;rw [ψy,ψy]
   split
   .rename_i hh;subst hh;rw [g5,B];rfl
   .rfl
  rw [<-O]
  simp [execOp,Instr.mapEntry,run_underlying (XB hT),e1,hk,MapKept.run_getObj_map S,u.check,u.find w o _ _ (Ye u R h3),I,B,g3,g5,G,Result.andThen,MapKept.run_setObj_map _ S,setBlock,u.stays,goInt]
theorem H3 {n:Nat} {q:List (Nat×AV)} {o B:List (Nat×List AN)} (m:List (α×β)) (a:α) (t b:β) {f i:Nat} (hx:AS.ev ⟨n,q,o⟩ x=some (.map f i)) (U:hget o f i=some (B1 eK eV (Be m a t))) (hy:AS.ev ⟨n,q,o⟩ y=some (.d (.raw (.int .i64 (mix m a:Int))))) (KT:Bv P K eK kv) (hz:AS.ev ⟨n,q,o⟩ z=some (.d (eV b)))
  (N:B7 o f i (B1 eK eV (BZ m a b))=some B):AG P F ⟨none,.entryStore T x y z,ty,pos,aft,g⟩ ⟨n,q,o⟩ ⟨n,q,B⟩ (λ_ _=>true):=λS r w G=>by
 obtain ⟨mb,k,c,e1,Y,R,X,Q,h4,h5,W⟩:=G.mapAt hx U;have I:r.eval y= .int .i64 (mix m a:Int):=G.raw hy;have J:=G.ev hz;obtain ⟨hB,hc⟩:=W _ _ rfl;have hzm:k.size=(Be m a t).length:=by simpa [B5] using X
 obtain ⟨l1,l2⟩:=Kw (m:=m) (a:=a) (b:=Ad m a t);have L:mix m a<(Be m a t).length:=by unfold Be;omega
 have p:∀(i:Nat) e,k[i]? =some e ->e.born=i:=λi e V=>by
  have hi:i<k.size:=(ωn.1 V).1;have:=ωm (·[i]?) hB;simp only [ν,ψd,V,ψl] at this;rw [ψt (by omega)] at this;injection this with this;exact this.symm
 obtain ⟨H,u⟩:∃e,k[mix m a]? =some e:=⟨_,ωg (by omega)⟩
 have D:k.findIdx? (λe=>(e.born:Int)==(mix m a:Int))=some (mix m a):=by
  rw [Array.findIdx?_eq_some_iff_getElem];refine ⟨by omega,?_,λj hj=>?_⟩
  .have:=p _ _ (ωg (show mix m a<k.size by omega))
   simp [this]
  .have:=p _ _ (ωg (show j<k.size by omega))
   simp [this];omega
 have A:(execOp r.eval ⟨none,.entryStore T x y z,ty,pos,aft,g⟩).run P w= .ok .skip (setBlock w mb (.map (k.modify (mix m a) λe=>{e with val:=r.eval z}) c)):=by
  simp [execOp,Instr.entryStore,e1,I,MapKept.run_getObj_map R,asInt,asIntOf,D,Result.andThen,MapKept.run_setObj_map _ R,setBlock]
 unfold Oper.wp;rw [A]
 have v:H.key=kv a:=by
  have o:=(Nq (m:=m) (a:=a) (b:=Ad m a t)).1;have:=(Q _ H (eK a,eV (Ad m a t)) u (by simp only [B5,ν];unfold Be;rw [o];rfl)).1;exact this.val (KT.val a)
 have C:(k.modify (mix m a) λe=>{e with val:=r.eval z})=k.modify (mix (Be m a t) a) λe=>{e with key:=kv a,val:=r.eval z}:=by
  rw [MS];refine Array.ext_getElem? λi=>?_;rw [ψy,ψy]
  split
  .rename_i N;subst N;rw [u];simp [v]
  .rfl
 have M:A1 w (F.O S o) (eK a) (kv a):=by
  have o:=(Nq (m:=m) (a:=a) (b:=Ad m a t)).1;have:=(Q _ H (eK a,eV (Ad m a t)) u (by simp only [B5,ν];unfold Be;rw [o];rfl)).1;rw [v] at this;exact this
 refine ⟨S,G.write f i _ (B1 eK eV (BZ m a b)) U (BB N) Z Z Z Zcp (λb' O=>Zct λe=>O (by rw [Y,e];rfl)) (λ_ _ e=>nomatch e) λl=>?_,λ_ _ _=>rfl⟩;rw [Y]
 have:=H6 (b:=b) (a:=a) (m:=Be m a t) (c':=c) (mb:=mb) KT X Q h4 h5 W l (by have:=l _ _ J;cases this with | d h=>exact h) (by
  have:=l (.d (eK a)) _ (.d M)
  cases this with | d h=>exact h) (.inr ⟨H,by rw [MS];exact u,by rw [MS];exact L,C,Z⟩) (ZcO R)
 rw [Iv (b:=b),WU] at this;exact this
theorem QZ (j:Nat) (C:∀l b w,SR F s l b w ->b.eval x=l f i) (D:hget s.hp f i=some t) (v:Kx t=some (some (B,p),m)) (u:Nat.beq f j=false) (I:Bo P T K E=true)
  (L:Ac j s.env=some h) (J:Aa j s.hp=some o) (G:Cj o j (.iter f i p [])=some c) (H:Nat.blt d s.n=true):
  AG P F ⟨some d,.range T x,ty,pos,aft,g⟩ s ⟨s.n,(d,.ptr j 0 0)::h,c⟩ (Bn j):=λl b w r=>by
 obtain ⟨n,R,X,Q,O,N,W,V,U,S,M⟩:=r.mapAt0 (C _ _ _ r) D v;obtain ⟨_,rfl⟩:=M _ _ rfl
 have k:(execOp b.eval ⟨some d,.range T x,ty,pos,aft,g⟩).run P w= .ok (.value (.pointer (some ⟨w.heap.size,0,none⟩))) (w.alloc (.mapIter (some n) p #[] p)):=by
  simp [execOp,Instr.range,run_underlying (XB I),Q,MapKept.run_getObj_map N,Result.andThen]
 unfold Oper.wp;rw [k];have q:=r.new j (.iter f i p []) (.pointer (some ⟨w.heap.size,0,none⟩)) (.mapIter (some n) p #[] p) L J G Z (λA=>⟨w.heap.size,n, #[],Z,by rw [OF (λe=>(ωx u) e.1)];exact O,heap_alloc_new w _,Z⟩);exact ⟨_,q.put (IS H) (.ptr QS),λf i a=>OF λe=>Sf a e.1⟩
theorem Gs (a:Nat) (e:s.ev x=some (.map f i)) (k:hget s.hp f i=some (.map (some (B,p)) m)) (b:Nat.beq f a=false) (q:Bo P T K E=true)
  (t:Ac a s.env=some h) (r:Aa a s.hp=some o) (l:Cj o a (.iter f i p [])=some c) (n:Nat.blt d s.n=true):
  AG P F ⟨some d,.range T x,ty,pos,aft,g⟩ s ⟨s.n,(d,.ptr a 0 0)::h,c⟩ (Bn a):=
 QZ a (λ_ _ _ j=>j.mapV e) k Z b q t r l n
omit [DecidableEq α] in
theorem Xm (m:List (α×β)) {seen:List Nat} (hx:AS.ev ⟨n,a,e⟩ x=some (.ptr A 0 0)) (hi:hget e A 0=some (.iter f i p seen)) (ho:hget e f i=some t) (hmo:Kx t=some (some (B,p),B5 eK eV m)) (hd:Nat.blt d n=true)
  (h0:CE m B seen=[] ->Ao P F j k Q ⟨n,(d,.tup [.d (.raw (.bool false))])::a,e⟩)
  (h1:∀(u b:Nat) (l:α) (v:β),m[u]? =some (l,v) ->B[u]? =some b ->B.Nodup ->(CE m B seen).Perm ((l,v)::CE m B (seen++ [b])) ->∃S,B7 e A 0 (.iter f i p (seen++ [b]))=some S/\Ao P F j k Q ⟨n,(d,.tup [.d (.raw (.bool true)),.d (eK l),.d (eV v)])::a,S⟩):
  Ao P F j (⟨some d,.next x false,ty,pos,aft,none⟩::k) Q ⟨n,a,e⟩:=λU L w hs=>by
 obtain ⟨r,mb,N,q1,q2,q3,q4⟩:=hs.heap.sim A 0 _ hi;obtain ⟨H,G,c',p1,p2,p3,p4,p5,p6,p7⟩:=(hs.heap.sim f i _ ho).mapO hmo;obtain ⟨hB,hc⟩:=p7 _ _ rfl;subst hc;have:H=mb:=by rw [p1] at q2;injection q2 with q2;injection q2 with q2
 subst this
 have hxv:L.eval x= .pointer (some ⟨r,0,none⟩):=by
  have hr:=hs.ev hx
  generalize L.eval x=vx at hr
  cases hr with
  | ptr h=>rw [q1] at h;injection h with h;injection h with h;injection h with h;subst h;rfl
 have hzm:G.size=m.length:=by simpa [B5] using p3
 have hBn:B.Nodup:=hB▸p5;have hBl:B.length=m.length:=by rw [hB];simp [hzm]
 refine wpListIn_plain Z λKk hk=>F7 Z ?_;rcases run_next_at (P:=P) w ty r H p p N G p q3 p2 (λC he=>p6 C he) (Γ _) with ⟨hz,I⟩ | ⟨C,he,M,V,I⟩
 .have hl0:CE m B seen=[]:=by
   have hz':G.filter (λC=>!N.contains C.born)= #[]:=Array.eq_empty_of_size_eq_zero hz;rw [Array.filter_eq_empty_iff] at hz';unfold CE;rw [List.map_eq_nil_iff,List.filter_eq_nil_iff];intro q hq R;obtain ⟨u,hj,rfl⟩:=ωq hq;rw [List.length_zip] at hj;have hja:u<G.size:=by omega
   have h2:=hz' G[u] (by simp);rw [List.getElem_zip] at R
   have h3:B[u]'(by omega)=G[u].born:=by
    have:=ωm (·[u]?) hB;simp only [ν,ψd,ωg hja,ψl] at this;rw [ω (by omega)] at this;injection this
   simp only [h3,<-q4] at R;simp only [Array.contains_toList] at R;exact absurd R (by simpa using h2)
  have hex:(execOp L.eval ⟨some d,.next x false,ty,pos,aft,none⟩).run P w= .ok (.value (.tuple #[.bool false])) w:=by
   simp [execOp,hxv,I,Result.andThen]
  unfold Oper.wp;rw [hex]
  exact hk _ _ (h0 hl0 U _ w (hs.put (IS hd) (.tup (vs:=[.bool false]) Z λi D v J O=>by
   rcases i with _ | i
   .simp at J O;subst J O;exact .d (.raw Z)
   .simp at J)))
 .have he':C∈G/\(!N.contains C.born)=true:=by
   have:C∈G.filter (λC=>!N.contains C.born):=by simpa [leftOf] using he
   rwa [Array.mem_filter] at this
  obtain ⟨u,hj,rfl⟩:=Array.getElem_of_mem he'.1;have X:u<m.length:=by omega
  have hBj:B[u]? =some G[u].born:=by rw [hB];simp [hj]
  obtain ⟨g1,g2⟩:=p4 u G[u] (eK m[u].1,eV m[u].2) (ωg hj) (by simp [B5,X])
  have hns:G[u].born∉seen:=by
   rw [<-q4];have:=he'.2
   simpa using this
  have W:=UM hBn (ω X) hBj hns;obtain ⟨S,hh,hA⟩:=h1 u _ m[u].1 m[u].2 (ω X) hBj hBn W
  have hex:(execOp L.eval ⟨some d,.next x false,ty,pos,aft,none⟩).run P w= .ok (.value (.tuple #[.bool true,G[u].key,G[u].val])) (setBlock M r (.mapIter (some H) p (N.push G[u].born) p)):=by
   simp [execOp,hxv,I,Result.andThen]
  unfold Oper.wp;rw [hex]
  have hs1:SR F ⟨n,a,e⟩ U L M:=by
   rcases V with rfl | rfl
   .exact hs
   .exact hs.drew Z Z Z Z
  have q3':M.heap[r]? =some (.mapIter (some H) p N p):=by rcases V with rfl | rfl<;>exact q3
  have hr1:A1 M (F.O U e) (eK m[u].1) G[u].key/\A1 M (F.O U e) (eV m[u].2) G[u].val:=by
   rcases V with rfl | rfl
   .exact ⟨g1,g2⟩
   .exact ⟨g1.mono (w:=w) (w':=w.drew) (Γ _) (λ_ _ _=>rfl) (λ_ _ h=>h),g2.mono (w:=w) (w':=w.drew) (Γ _) (λ_ _ _=>rfl) (λ_ _ h=>h)⟩
  have hw:=hs1.write A 0 _ (.iter f i p (seen++ [G[u].born])) (w':=setBlock M r (.mapIter (some H) p (N.push G[u].born) p)) hi (BB hh) Z Z Z Zcp (λb' hb'=>Zct λC=>hb' (by rw [q1,C];rfl)) (λ_ _ C=>nomatch C) λhrep=>by
   exact ⟨r,H,N.push G[u].born,q1,q2,ZcO q3',by simp [q4]⟩
  have hO:∀b,F.O U S b ->F.O U e b:=λb Y=>by
   rcases Y with Y | ⟨f',i',o1,k1,k2⟩
   .exact .inl Y
   .refine .inr ?_
    by_cases C:f'=A/\i'=0
    .obtain ⟨rfl,rfl⟩:=C;exact ⟨f',0,_,hi,k2⟩
    .rw [BB hh,η C] at k1;exact ⟨f',i',o1,k1,k2⟩
  have hbb:∀b,b<M.heap.size ->¬F.O U e b ->(setBlock M r (.mapIter (some H) p (N.push G[u].born) p)).heap[b]? =M.heap[b]?:=λb _ hn=>Zct λC=>hn (.inr ⟨A,0,_,hi,by rw [q1,C];rfl⟩);refine hk _ _ (hA U _ _ (hw.put (IS hd) (.tup (vs:=[.bool true,G[u].key,G[u].val]) Z λi D v J O=>?_)));rcases i with _ | _ | _ | i
  .simp at J O;subst J O;exact .d (.raw Z)
  .simp at J O;subst J O;exact .d (hr1.1.mono (Nat.le_of_eq Zcp.symm) hbb (λb _=>hO b))
  .simp at J O;subst J O;exact .d (hr1.2.mono (Nat.le_of_eq Zcp.symm) hbb (λb _=>hO b))
  .simp at J
omit [DecidableEq α] in
theorem MM (m:List (α×β)) {seen:List Nat} (q:AS.ev ⟨n,a,e⟩ x=some (.ptr A 0 0)) (t:hget e A 0=some (.iter f i p seen)) (r:hget e f i=some (.map (some (B,p)) (B5 eK eV m))) (u:Nat.blt d n=true)
  (C:CE m B seen=[] ->Ao P F j k Q ⟨n,(d,.tup [.d (.raw (.bool false))])::a,e⟩)
  (w:∀(l b:Nat) (h:α) (v:β),m[l]? =some (h,v) ->B[l]? =some b ->B.Nodup ->(CE m B seen).Perm ((h,v)::CE m B (seen++ [b])) ->∃o,B7 e A 0 (.iter f i p (seen++ [b]))=some o/\Ao P F j k Q ⟨n,(d,.tup [.d (.raw (.bool true)),.d (eK h),.d (eV v)])::a,o⟩):
  Ao P F j (⟨some d,.next x false,ty,pos,aft,none⟩::k) Q ⟨n,a,e⟩:=
 Xm m q t r Z u C w
omit [DecidableEq α] in
theorem Q2 (m:List (α×β)) (j b:Nat) {seen:List Nat} (hx:s.ev x=some (.ptr A 0 0)) (hi:hget s.hp A 0=some (.iter f i p (seen++ [b]))) (ho:hget s.hp f i=some t) (M:Kx t=some (some (B,p),B5 eK eV m)) (R:m[j]? =some (G,C)) (S:B[j]? =some b) (hd:Nat.blt d s.n=true):
  AA P F ⟨some d,.entry x,ty,pos,aft,g⟩ s d (.tup [.d (eK G),.d (eV C)]):=
 Cz _ hd λρ D w L=>by
  obtain ⟨r,mb,U,W,l,O,V⟩:=L.heap.sim A 0 _ hi;obtain ⟨n,e,c',p1,p2,p3,p4,Y,p6,X⟩:=(L.heap.sim f i _ ho).mapO M;obtain ⟨hB,hc⟩:=X _ _ rfl;subst hc;have:n=mb:=by rw [p1] at l;injection l with l;injection l with l
  subst this
  have I:D.eval x= .pointer (some ⟨r,0,none⟩):=by
   have Q:=L.ev hx
   generalize D.eval x=vx at Q
   cases Q with
   | ptr h=>rw [W] at h;injection h with h;injection h with h;injection h with h;subst h;rfl
  have hjm:j<m.length:=(φ.1 R).1;have hzm:e.size=m.length:=by simpa [B5] using p3
  have N:e[j].born=b:=by
   rw [hB] at S;simpa [show j<e.size by omega] using S
  have J:U=(⟨seen⟩:Array Nat).push e[j].born:=by
   apply Array.ext'
   rw [V,Array.toList_push,N]
  rw [J] at O;have q:=run_entry_at (P:=P) w r n p ⟨seen⟩ e p e[j] O p2 (by simp) Y;obtain ⟨g1,g2⟩:=p4 j e[j] (eK G,eV C) (ωg (by omega)) (by simp [B5,R]);refine ⟨.tuple #[e[j].key,e[j].val],by simp [execOp,I,q,Result.andThen],.tup (vs:=[e[j].key,e[j].val]) Z λi a C u H=>?_⟩;rcases i with _ | _ | i
  .simp at u H;subst u H;exact .d g1
  .simp at u H;subst u H;exact .d g2
  .simp at u
omit [DecidableEq α] in
theorem Gt (m:List (α×β)) (j b:Nat) {seen:List Nat} (a:s.ev x=some (.ptr A 0 0)) (l:hget s.hp A 0=some (.iter f i p (seen++ [b]))) (e:hget s.hp f i=some (.map (some (B,p)) (B5 eK eV m))) (h:m[j]? =some (G,C)) (o:B[j]? =some b) (n:Nat.blt d s.n=true):
  AA P F ⟨some d,.entry x,ty,pos,aft,g⟩ s d (.tup [.d (eK G),.d (eV C)]):=
 Q2 m j b a l e Z h o n
end
end Go.Proofs.YteifpcnphnhaoaaGreat
namespace Go.Proofs.YteifpcnphnhaoaaGreat
open Go.RowKit
variable {P:Program} {K:TypeId}
theorem Bv.int (c:P.underlying K=some (.int .i64)):Bv P K (λz:Int=> .raw (.int .i64 z)) (λz=> .int .i64 z):=
 Bv.plain c (λ_=>rfl) (λ_=>rfl) λa b=>by simp [Instr.sameNow];rfl
def Gr (l:List UInt8):Value:= .string ⟨l.toArray⟩
theorem RX (a b:List UInt8):((⟨a.toArray⟩:ByteArray)==⟨b.toArray⟩)=decide (a=b):=by grind [beq_toListBytes,ByteArray.toList_eq]
theorem Bv.str (c:P.underlying K=some .string):Bv P K Aq Gr:=
 Bv.plain c (λ_=>rfl) (λ_=>trivial) λa b=>by simp only [Instr.sameNow,Gr,RX]
def KF (rec:TypeId ->Option (List TypeDesc)):Nat ->List Field ->Option (List TypeDesc)
 | _,[]=>some []
 | off,f::fs=>match rec f.type with
  | none=>none
  | some ds=>match KF rec (off+ds.length) fs with
   | none=>none
   | some r=>match Nat.beq f.offset off && f.name != "_" with
    | true=>some (ds++r)
    | false=>none
def Dz (P:Program):Nat ->TypeId ->Option (List TypeDesc)
 | 0,_=>none
 | m+1,T=>match P.underlying T with
  | some (.int k)=>some [.int k]
  | some .string=>some [.string]
  | some .bool=>some [.bool]
  | some (.struct fs)=>match KF (Dz P m) 0 fs.toList with
   | none=>none
   | some ds=>match A5 P T ds.length && !P.stoodInHeld T with
    | true=>some ds
    | false=>none
  | _=>none
def BH (ds:List TypeDesc) (us:List Value):Prop:=us.length=ds.length/\∀(i:Nat) d u,ds[i]? =some d ->us[i]? =some u ->MapKept.IsKey d u
def II (P:Program) (T:TypeId):Bool:=match P.underlying T with
 | some (.struct _)=>true
 | _=>false
def QF (P:Program) (T:TypeId) (us:List Value):Value:=match II P T with
 | true=> .agg us.toArray
 | false=>us.headD undef
def P0:Value ->Value ->Bool
 | .int _ a,.int _ b=>a==b
 | .string a,.string b=>a.toList==b.toList
 | .bool a,.bool b=>a==b
 | _,_=>false
def BX:List Value ->List Value ->Bool
 | [],[]=>true
 | a::r,b::s=>P0 a b && BX r s
 | _,_=>false
theorem PZ {a d b c:List Value} (h:a.length=b.length):BX (a++d) (b++c)=(BX a b && BX d c):=by
 induction a generalizing b with
 | nil=>
  grind [BX]
 | cons x r e=>
  cases b with
  | nil=>simp at h
  | cons y s=>simp only [List.cons_append,BX,e (show r.length=s.length by simpa using h),Bool.and_assoc]
theorem BH.split {b a:List TypeDesc} {c:List Value} (h:BH (b++a) c):BH b (c.take b.length)/\BH a (c.drop b.length):=by grind [BH]
section
variable {P:Program}
variable {a:List TypeDesc} {T:TypeId} {m:Nat}
theorem Hq (h:Dz P m T=some a) (b:II P T=false):∃d,a=[d]/\P.underlying T=some d/\((∃k,d= .int k)\/d= .string\/d= .bool):=by
 cases m with
 | zero=>cases h
 | succ m=>
  grind [Dz,II]
theorem Ho (h:Dz P m T=some a) (d:II P T=true):∃b c,m=b+1/\P.underlying T=some (.struct c)/\KF (Dz P b) 0 c.toList=some a/\A5 P T a.length=true/\P.stoodInHeld T=false:=by
 cases m with
 | zero=>cases h
 | succ m=>
  grind [Dz,II]
theorem G9 (h:Dz P m T=some a) (w:World) (c:List Value) (b:Nat) (n:b+a.length<=c.length):(part T c.toArray b).run P w= .ok (QF P T ((c.drop b).take a.length)) w:=by
 cases hs:II P T with
 | false=>
  obtain ⟨d,rfl,f,j⟩:=Hq h hs
  have g:(isAgg T).run P w= .ok false w:=by
   rcases j with ⟨k,rfl⟩ | rfl | rfl<;>simp [isAgg,run_underlying f,Result.andThen]
  grind [part,Sem.run_bind,Result.andThen_ok,QF,Sem.run_pure,χo]
 | true=>
  obtain ⟨l,o,rfl,f,_,i,_⟩:=Ho h hs;have g:(isAgg T).run P w= .ok true w:=by simp [isAgg,run_underlying f,Result.andThen]
  have e:=ZcB (P:=P) (ae i) w;simp only [part,Sem.run_bind,g,Result.andThen_ok,if_true,e,Sem.run_pure,QF,hs]
  congr 2
  apply Array.ext'
  simp
theorem FS:∀(m:Nat) (T:TypeId) (e:List TypeDesc),Dz P m T=some e ->∀(d:Nat) (c b:List Value),BH e c ->BH e b ->∀w,(Op.equalIn (d+m) T (QF P T c) (QF P T b)).run P w= .ok (BX c b) w
 | 0,_,_,h=>by cases h
 | m+1,T,e,h=>λd c b j i w=>by
  cases hs:II P T with
  | false=>
   obtain ⟨H,rfl,o,R⟩:=Hq h hs;obtain ⟨u,rfl⟩:=List.length_eq_one_iff.1 j.1;obtain ⟨v,rfl⟩:=List.length_eq_one_iff.1 i.1;have x:=j.2 0 H u Z Z;have t:=i.2 0 H v Z Z;simp only [QF,hs,List.headD_cons,BX,Bool.and_true];rcases R with ⟨k,rfl⟩ | rfl | rfl
   .cases u<;>cases v<;>simp only [MapKept.IsKey] at x t
    subst x t;exact run_equalIn_int w (d+m) T _ _ _ _ o
   .cases u<;>cases v<;>simp only [MapKept.IsKey] at x t
    exact run_equalIn_string w (d+m) T _ _ o
   .cases u<;>cases v<;>simp only [MapKept.IsKey] at x t
    exact run_equalIn_bool' w (d+m) T _ _ o
  | true=>
   obtain ⟨X,l,A,o,B,Y,z⟩:=Ho h hs;injection A with A;subst A
   have G:P.fieldsOf T=l:=by simp [Program.fieldsOf,o]
   simp only [QF,hs];rw [<-Nat.add_assoc,run_equalIn_struct w (d+m) T _ _ (by rw [G];exact o) z,G]
   -- along the fields
   have y:∀(l:List Field) (a:Nat) (e:List TypeDesc) (c b:List Value),KF (Dz P m) a l=some e ->BH e (c.drop a) ->BH e (b.drop a) ->a<=c.length ->a<=b.length ->(Op.eqFields (d+m) c.toArray b.toArray l).run P w= .ok (BX (c.drop a) (b.drop a)) w:=by
    intro l
    induction l with
    | nil=>
     intro a e c b h j i _ _;simp only [KF,Option.some.injEq] at h;subst h;rw [ωz j.1,ωz i.1];rfl
    | cons f l M=>
     intro a e c b h j i Q O;simp only [KF] at h
     split at h
     .cases h
     .rename_i d1 D
      split at h
      .cases h
      .rename_i r N
       split at h
       .rename_i C
        injection h with h;subst h
        simp only [ωd] at C;have p:=ωb C.1;have n:f.name≠ "_" :=by simpa using C.2
        have L:=j.1;have K:=i.1;rw [Δ,χd] at L K;have s:a+d1.length<=c.length:=by omega
        have q:a+d1.length<=b.length:=by omega
        obtain ⟨J,F⟩:=j.split;obtain ⟨I,E⟩:=i.split;rw [List.drop_drop] at F E;have W:=G9 D w c a s;have V:=G9 D w b a q;have U:=FS m f.type d1 D d _ _ J I w;have S:=M (a+d1.length) r c b N F E s q;simp only [Op.eqFields,n,ne_eq,not_false_eq_true,if_true,p,Sem.run_bind,W,V,U,Result.andThen_ok]
        have g:BX (c.drop a) (b.drop a)=(BX ((c.drop a).take d1.length) ((b.drop a).take d1.length) && BX (c.drop (a+d1.length)) (b.drop (a+d1.length))):=by
         rw [<-List.drop_drop,<-List.drop_drop,<-PZ (by simp;omega),χy,χy]
        rw [g]
        cases hc:BX ((c.drop a).take d1.length) ((b.drop a).take d1.length) with
        | false=>simp
        | true=>simp only [Bool.not_true,Bool.false_eq_true,if_false,Bool.true_and];exact S
       .cases h
   have:=y l.toList 0 e c b B (by simpa using j) (by simpa using i) (ζ _) (ζ _)
   simpa using this
theorem Jk (t:Bool):∀(m:Nat) (T:TypeId) (j:List TypeDesc),Dz P m T=some j ->∀(d:Nat) (c:List Value),BH j c ->∀w,(Instr.checkKey t (d+m) T (QF P T c)).run P w= .ok () w
 | 0,_,_,h=>by cases h
 | m+1,T,j,h=>λd c k w=>by
  cases hs:II P T with
  | false=>
   obtain ⟨J,rfl,l,L⟩:=Hq h hs;obtain ⟨u,rfl⟩:=List.length_eq_one_iff.1 k.1;have C:=k.2 0 J u Z Z;simp only [QF,hs,List.headD_cons];exact MapKept.run_checkKey l C t (d+m)
  | true=>
   obtain ⟨K,G,p,l,a,E,n⟩:=Ho h hs;injection p with p;subst p
   simp only [QF,hs];rw [<-Nat.add_assoc];simp only [Instr.checkKey,Sem.run_bind,run_underlying l,Result.andThen_ok];rw [<-Array.forIn_toList];have s:BH j (c.drop 0):=by simpa using k
   have o:0<=c.length:=ζ _
   clear h hs E k l n
   generalize G.toList=y at a⊢
   generalize (0:Nat)=b at a s o
   induction y generalizing b j with
   | nil=>rfl
   | cons f y D=>
    simp only [KF] at a
    split at a
    .cases a
    .rename_i d1 x
     split at a
     .cases a
     .rename_i r F
      split at a
      .rename_i q
       injection a with a;subst a
       simp only [ωd] at q;have g:=ωb q.1;have e:f.name≠ "_" :=by simpa using q.2
       have B:=s.1;rw [Δ,χd] at B;have i:b+d1.length<=c.length:=by omega
       obtain ⟨A,v⟩:=s.split;rw [List.drop_drop] at v;have I:=G9 x w c b i;have H:=Jk t m f.type d1 x d _ A w;have z:=D r (b+d1.length) F v i;rw [List.forIn_cons];simp only [e,ne_eq,not_false_eq_true,if_true,g,Sem.run_bind,I,H,Result.andThen_ok,Sem.run_pure] at z⊢;exact z
      .cases a
theorem I0 {d:TypeDesc} {u:Value} (h:MapKept.IsKey d u) (n:Nat):Instr.sameBits n u u=true:=by
 cases d<;>cases u<;>simp only [MapKept.IsKey] at h<;>cases n<;>simp [Instr.sameBits]<;>exact (beq_toListBytes _ _).trans (by simp)
theorem Vp (h:Dz P m T=some a) {b:List Value} (d:BH a b) (w:World):(Instr.keyThatStays (QF P T b) (QF P T b)).run P w= .ok (QF P T b) w:=by
 have:Instr.sameBits 10000 (QF P T b) (QF P T b)=true:=by
  cases hs:II P T with
  | false=>
   obtain ⟨k,rfl,f,l⟩:=Hq h hs;obtain ⟨u,rfl⟩:=List.length_eq_one_iff.1 d.1;simp only [QF,hs,List.headD_cons];exact I0 (d.2 0 k u Z Z) _
  | true=>
   simp only [QF,hs];show Instr.sameBits (9999+1) _ _=true;simp only [Instr.sameBits,beq_self_eq_true,Bool.true_and,χm];intro p g;obtain ⟨i,j,e⟩:=ωq g;rw [List.getElem_zip] at e;rw [<-e]
   simp only
   have c:i<b.length:=by simpa using j
   have f:i<a.length:=by rw [<-d.1];exact c
   exact I0 (d.2 i a[i] b[i] (ω f) (ω c)) _
 simp [Instr.keyThatStays,this]
theorem Bv.flat {f:Type} [DecidableEq f] {K:TypeId} {eK:f ->D} {c:f ->List Value} {ds:List TypeDesc} (e:Dz P 8 K=some ds) (g:II P K=true) (i:∀a,(eK a).val? =some (.agg (c a).toArray)) (d:∀a,BH ds (c a)) (j:∀a b,BX (c a) (c b)=decide (a=b)):Bv P K eK λa=> .agg (c a).toArray:=by
 have h:∀a,QF P K (c a)= .agg (c a).toArray:=λa=>by simp only [QF,g]
 obtain ⟨m,n,_,k,_⟩:=Ho e g;refine Bv.asking k i (λw l a=>?_) (λw a b=>?_) (λa b=>by simp [Instr.sameNow]) (λw a=>?_)
 .have:=Jk l 8 K ds e 9992 (c a) (d a) w
  grind
 .have:=FS 8 K ds e 9992 (c a) (c b) (d a) (d b) w;rw [h,h,j] at this;exact this
 .have:=Vp e (d a) w
  grind
end
theorem JT:∀a b:List UInt8,Op.bytesLess b a=(!Op.bytesLess a b && !a==b)
 | [],[]=>rfl
 | [],_::_=>rfl
 | _::_,[]=>rfl
 | x::a,y::b=>by
  have i:=JT a b;rcases Nat.lt_trichotomy x.toNat y.toNat with h | h | h
  .have d:x<y:=UInt8.lt_iff_toNat_lt.2 h;have c:¬y<x:=λf=>by have:=UInt8.lt_iff_toNat_lt.1 f;omega
   have g:y≠x:=λe=>by subst e;omega
   simp [Op.bytesLess,d,c,g]
  .have d:x=y:=UInt8.toNat_inj.1 h;subst d;have c:¬x<x:=λf=>by have:=UInt8.lt_iff_toNat_lt.1 f;omega
   simp [Op.bytesLess,c,i]
  .have d:y<x:=UInt8.lt_iff_toNat_lt.2 h;have c:¬x<y:=λf=>by have:=UInt8.lt_iff_toNat_lt.1 f;omega
   have g:x≠y:=λe=>by subst e;omega
   simp [Op.bytesLess,d,c,g]
section
variable {P:Program} {F:Fr} {s:AS} {d:Nat} {ty T T':TypeId} {pos:String} {aft:Array Edge} {g:Option (Nat×Bool)} {x y:Operand}
variable {t:Bool}
theorem XY {a b:ByteArray} (f:s.ev x=some (.d (.raw (.string a)))) (e:s.ev y=some (.d (.raw (.string b)))) (h:Nat.blt d s.n=true):AA P F ⟨some d,.binOp .gtr T x y T',ty,pos,aft,g⟩ s d (.d (.raw (.bool (Op.bytesLess b.toList a.toList)))):=
 Cz _ h λ_ i _ c=>⟨.bool (Op.bytesLess b.toList a.toList),by simp [execOp,eqGuard,binOp,Op.stringOp,c.raw f,c.raw e,JT a.toList b.toList],.d (.raw Z)⟩
theorem Fe {a b:D} {la lb:List Value} {ds:List TypeDesc} (m:Dz P 8 T=some ds) (k:II P T=true) (l:P.eqGuardType P.depth T=false) (i:s.ev x=some (.d a)) (h:s.ev y=some (.d b)) (p:a.val? =some (.agg la.toArray)) (o:b.val? =some (.agg lb.toArray)) (f:BH ds la) (e:BH ds lb) (j:BX la lb=t) (n:Nat.blt d s.n=true):
  AA P F ⟨some d,.binOp .eql T x y T',ty,pos,aft,g⟩ s d (.d (.raw (.bool t))):=
 Cz _ n λv u w c=>by
  have r:=(c.repD i).val p;have q:=(c.repD h).val o;have:=FS 8 T ds m 9992 la lb f e w;simp only [QF,k,j] at this;exact ⟨.bool t,by simp [execOp,r,q,run_eqGuard_agg w .eql T x y _ _ l,run_eql_struct,this,Result.andThen],.d (.raw Z)⟩
theorem OU {a b:D} {la lb:List Value} {ds:List TypeDesc} (m:Dz P 8 T=some ds) (k:II P T=true) (l:P.eqGuardType P.depth T=false) (i:s.ev x=some (.d a)) (h:s.ev y=some (.d b)) (p:a.val? =some (.agg la.toArray)) (o:b.val? =some (.agg lb.toArray)) (f:BH ds la) (e:BH ds lb) (j:(!BX la lb)=t) (n:Nat.blt d s.n=true):
  AA P F ⟨some d,.binOp .neq T x y T',ty,pos,aft,g⟩ s d (.d (.raw (.bool t))):=
 Cz _ n λv u w c=>by
  have r:=(c.repD i).val p;have q:=(c.repD h).val o;have:=FS 8 T ds m 9992 la lb f e w;simp only [QF,k] at this;exact ⟨.bool t,by simp [execOp,r,q,run_eqGuard_agg w .neq T x y _ _ l,run_neq_struct,this,j,Result.andThen],.d (.raw Z)⟩
end
end Go.Proofs.YteifpcnphnhaoaaGreat
