/- Maps: keys read off without memory, finding a key, the typed lists behind a map. No program in sight. -/
import Derived.Test.YtlmedakidpaeeaaGreatMg9
import Derived.Maps.RangeRun
import Derived.Laws.StructEq
import Derived.WideLaws
namespace Go.Proofs.YtlmedakidpaeeaaGreat
open Go.RowKit
def M8:List D ->Option (List Value)
 | []=>some []
 | d::r=>match M8 r with
  | none=>none
  | some l=>match d with
   | .raw v=>some (v::l)
   | _=>none
def D.val?:D ->Option Value
 | .raw v=>some v
 | .agg cs=>match M8 cs with
  | none=>none
  | some l=>some (.agg l.toArray)
 | _=>none
theorem JQ {w:World} {O:Nat ->Prop}:∀{cs:List D} {l vs:List Value},M8 cs=some l ->vs.length=cs.length ->(∀(i:Nat) c v,cs[i]? =some c ->vs[i]? =some v ->AM w O c v) ->vs=l
 | [],l,vs,h,hl,_=>by
  simp only [M8,Option.some.injEq] at h;subst h;exact List.eq_nil_of_length_eq_zero hl
 | d::r,l,vs,h,hl,hr=>by
  simp only [M8] at h
  split at h
  ·cases h
  ·rename_i l' hl'
   split at h
   ·rename_i v
    injection h with h;subst h
    match vs,hl with
    | u::us,hl=>
     have h0:=hr 0 _ u Z Z
     cases h0 with
     | raw _=>rw [JQ (w:=w) (O:=O) (vs:=us) hl' (by simpa using hl) fun i c v hc hv=>hr (i+1) c v (by simpa using hc) (by simpa using hv)]
   ·cases h
theorem AM.val {w:World} {O:Nat ->Prop} {d:D} {v v':Value} (h:AM w O d v) (hv:d.val? =some v'):v=v':=by
 cases d with
 | raw u=>simp only [D.val?,Option.some.injEq] at hv;subst hv;cases h;rfl
 | agg cs=>
  simp only [D.val?] at hv
  split at hv
  ·cases hv
  ·rename_i l hl
   injection hv with hv;subst hv
   cases h with
   | agg h1 _ h3=>rw [JQ hl h1 h3]
 | _=>cases hv
section
variable {α:Type} [DecidableEq α]
def Fb (a:α):List α ->List MapEntry ->Nat ->Option (Nat×Value)
 | b::r,e::es,i=>if a=b then some (i,e.val) else Fb a r es (i+1)
 | _,_,_=>none
theorem Kn {a:α}:∀{l:List α} {es:List MapEntry} {i:Nat},es.length=l.length ->Fb a l es i=none ->a∉l
 | [],_,_,_,_=>by simp
 | b::r,[],_,h,_=>by simp at h
 | b::r,e::es,i,h,hh=>by
  simp only [Fb] at hh
  split at hh
  ·cases hh
  ·rename_i hne
   simp only [List.mem_cons,not_or];exact ⟨hne,Kn (by simpa using h) hh⟩
theorem Km {a:α}:∀{l:List α} {es:List MapEntry} {i j:Nat} {v:Value},Fb a l es i=some (j,v) ->i≤j∧l[j - i]? =some a∧(∃e,es[j - i]? =some e∧e.val=v)∧∀k,k<j - i ->l[k]?≠some a
 | [],[],_,_,_,h=>by simp [Fb] at h
 | [],_::_,_,_,_,h=>by simp [Fb] at h
 | b::r,[],i,_,_,h=>by simp [Fb] at h
 | b::r,e::es,i,j,v,h=>by
  simp only [Fb] at h
  split at h
  ·rename_i heq
   injection h with h;injection h with h1 h2;subst h1 h2 heq
   refine ⟨Nat.le_refl _,by simp,⟨e,by simp,rfl⟩,fun k hk=>by omega⟩
  ·rename_i hne
   obtain ⟨h1,h2,⟨e',h3,h4⟩,h5⟩:=Km h;have he:j - i=(j - (i+1))+1:=by omega
   refine ⟨by omega,by rw [he];simpa using h2,⟨e',by rw [he];simpa using h3,h4⟩,fun k hk=>?_⟩
   cases k with
   | zero=>simp;exact fun e=>hne e.symm
   | succ k=>simpa using h5 k (by omega)
structure BT (P:Program) (K:TypeId) (eK:α ->D) (kv:α ->Value):Prop where
 val:∀a,(eK a).val? =some (kv a)
 check:∀w em a,(Instr.checkKey em 10000 K (kv a)).run P w= .ok () w
 find:∀w a (es:List MapEntry) (l:List α),es.map (·.key)=l.map kv ->(Instr.findKey K (kv a) es).run P w= .ok (Fb a l es 0) w
 stays:∀w a,(Instr.keyThatStays (kv a) (kv a)).run P w= .ok (kv a) w
theorem IU {d:TypeDesc} {kv:α ->Value} (hs:∀a b,Instr.sameNow d (kv a) (kv b)=some (decide (a=b))) (a:α):∀(l:List α) (es:List MapEntry) (i:Nat),es.map (·.key)=l.map kv ->Instr.findNow d (kv a) es i=some (Fb a l es i)
 | [],[],i,_=>rfl
 | [],_::_,_,h=>by simp at h
 | _::_,[],_,h=>by simp at h
 | b::r,e::es,i,h=>by
  simp only [List.map_cons,List.cons.injEq] at h;simp only [Instr.findNow,h.1,hs,Fb]
  by_cases hab:a=b
  ·simp [hab]
  ·simp only [hab,decide_false,if_false];exact IU hs a r es (i+1) h.2
theorem Fd {P:Program} {K:TypeId} {kv:α ->Value} (hs:∀w a b,(Op.equal K (kv a) (kv b)).run P w= .ok (decide (a=b)) w) (w:World) (a:α):∀(l:List α) (es:List MapEntry) (i:Nat),es.map (·.key)=l.map kv ->(Instr.findAsking K (kv a) es i).run P w= .ok (Fb a l es i) w
 | [],[],i,_=>rfl
 | [],_::_,_,h=>by simp at h
 | _::_,[],_,h=>by simp at h
 | b::r,e::es,i,h=>by
  simp only [List.map_cons,List.cons.injEq] at h;simp only [Instr.findAsking,Sem.run_bind,h.1,hs,Result.andThen_ok,Fb]
  by_cases hab:a=b
  ·simp [hab]
  ·simp only [hab,decide_false,Bool.false_eq_true,if_false];exact Fd hs w a r es (i+1) h.2
theorem BT.plain {P:Program} {K:TypeId} {eK:α ->D} {kv:α ->Value} {d:TypeDesc} (hd:P.underlying K=some d) (hv:∀a,(eK a).val? =some (kv a)) (hk:∀a,MapKept.IsKey d (kv a)) (hs:∀a b,Instr.sameNow d (kv a) (kv b)=some (decide (a=b))):BT P K eK kv where
 val:=hv
 check _ em a:=MapKept.run_checkKey hd (hk a) em 9999
 find _ a es l h:=MapKept.run_findKey hd (IU hs a l es 0 h)
 stays _ a:=MapKept.run_keyThatStays (hk a)
theorem BT.asking {P:Program} {K:TypeId} {eK:α ->D} {kv:α ->Value} {d:TypeDesc} (hd:P.underlying K=some d) (hv:∀a,(eK a).val? =some (kv a)) (hc:∀w em a,(Instr.checkKey em 10000 K (kv a)).run P w= .ok () w) (hs:∀w a b,(Op.equal K (kv a) (kv b)).run P w= .ok (decide (a=b)) w) (hn:∀a b,Instr.sameNow d (kv a) (kv b)=none) (ht:∀w a,(Instr.keyThatStays (kv a) (kv a)).run P w= .ok (kv a) w):BT P K eK kv where
 val:=hv
 check:=hc
 find w a es l h:=by
  simp only [Instr.findKey,Sem.run_bind,run_underlying hd,Result.andThen_ok]
  cases es with
  | nil=>
   cases l with
   | nil=>rfl
   | cons _ _=>simp at h
  | cons e es=>
   cases l with
   | nil=>simp at h
   | cons b r=>
    have h':=h;simp only [List.map_cons,List.cons.injEq] at h;simp only [Instr.findNow,h.1,hn];exact Fd hs w a _ _ 0 h'
 stays:=ht
variable {β:Type}
def CJ:List (α×β) ->α ->β ->β
 | [],_,z=>z
 | (k,b)::r,a,z=>if a=k then b else CJ r a z
def Ib:List (α×β) ->α ->Bool
 | [],_=>false
 | (k,_)::r,a=>decide (a=k) || Ib r a
def Bq:List (α×β) ->α ->β ->List (α×β)
 | [],a,b=> [(a,b)]
 | (k,b')::r,a,b=>if a=k then (k,b)::r else (k,b')::Bq r a b
def Df:List (α×β) ->α ->Nat
 | [],_=>0
 | (k,_)::r,a=>if a=k then 0 else Df r a+1
theorem mput_ix {m:List (α×β)} {a:α} {b:β}:(Bq m a b)[Df m a]? =some (a,b)∧∀j,j≠Df m a ->(Bq m a b)[j]? =m[j]?:=by
 induction m with
 | nil=>
  refine ⟨by simp [Bq,Df],fun j hj=>?_⟩
  cases j with
  | zero=>simp [Df] at hj
  | succ j=>simp [Bq]
 | cons p r ih=>
  obtain ⟨k,b'⟩:=p
  by_cases h:a=k
  ·subst h;refine ⟨by simp [Bq,Df],fun j hj=>?_⟩
   cases j with
   | zero=>simp [Df] at hj
   | succ j=>simp [Bq]
  ·refine ⟨by simp [Bq,Df,h,ih.1],fun j hj=>?_⟩
   cases j with
   | zero=>simp [Bq,h]
   | succ j=>simpa [Bq,h] using ih.2 j (by simpa [Df,h] using hj)
theorem Mq {m:List (α×β)} {a:α} {b:β}:(Bq m a b).length=max m.length (Df m a+1)∧Df m a≤m.length:=by
 induction m with
 | nil=>simp [Bq,Df]
 | cons p r ih=>
  obtain ⟨k,b'⟩:=p
  by_cases h:a=k
  ·subst h;simp [Bq,Df]
  ·simp only [Bq,Df,h,if_false,List.length_cons];omega
theorem DB {m:List (α×β)} {a:α}:Ib m a=true↔a∈m.map Prod.fst:=by
 induction m with
 | nil=>simp [Ib]
 | cons p r ih=>obtain ⟨k,b⟩:=p;simp [Ib,ih]
theorem IP {m:List (α×β)} {a:α} {b z:β} (hn:(m.map Prod.fst).Nodup) (h:(a,b)∈m):CJ m a z=b:=by
 induction m with
 | nil=>cases h
 | cons p r ih=>
  obtain ⟨k,b'⟩:=p;simp only [List.map_cons,List.nodup_cons] at hn;simp only [CJ];rcases List.mem_cons.1 h with h' | h'
  ·injection h' with h1 h2;subst h1 h2;simp
  ·have hne:a≠k:=fun e=>by subst e;exact hn.1 (List.mem_map_of_mem (f:=Prod.fst) h')
   rw [if_neg hne];exact ih hn.2 h'
theorem Kh {m:List (α×β)} {a:α} {z:β} (h:a∉m.map Prod.fst):CJ m a z=z:=by
 induction m with
 | nil=>rfl
 | cons p r ih=>
  obtain ⟨k,b'⟩:=p;simp only [List.map_cons,List.mem_cons,not_or] at h;simp only [CJ,h.1,if_false];exact ih h.2
def Bi (m:List (α×β)) (B seen:List Nat):List (α×β):=((m.zip B).filter fun p=>!(seen.contains p.2)).map Prod.fst
omit [DecidableEq α] in
theorem CZ {m:List (α×β)} {B:List Nat} (h:B.length=m.length):Bi m B []=m:=by
 unfold Bi;rw [List.filter_eq_self.2 (by simp)];exact List.map_fst_zip (by omega)
omit [DecidableEq α] in
theorem Mx:∀{m:List (α×β)} {B seen:List Nat} {j b:Nat} {x:α×β},B.Nodup ->m[j]? =some x ->B[j]? =some b ->b∉seen ->(Bi m B seen).Perm (x::Bi m B (seen++ [b]))
 | [],_,_,_,_,_,_,h,_,_=>by simp at h
 | y::m,[],_,_,_,_,_,_,h,_=>by simp at h
 | y::m,c::B,seen,j,b,x,hn,hx,hb,hs=>by
  simp only [List.nodup_cons] at hn
  cases j with
  | zero=>
   simp at hx hb;subst hx hb
   have e:∀(m:List (α×β)) (B:List Nat),c∉B ->Bi m B (seen++ [c])=Bi m B seen:=fun m B h=>by
    unfold Bi
    congr 1
    refine List.filter_congr fun p hp=>?_;have:p.2≠c:=fun e=>h (by rw [←e];exact (List.of_mem_zip hp).2)
    simp [this]
   have h1:Bi (y::m) (c::B) seen=y::Bi m B seen:=by simp [Bi,hs]
   have h2:Bi (y::m) (c::B) (seen++ [c])=Bi m B (seen++ [c]):=by simp [Bi]
   rw [h1,h2,e m B hn.1]
  | succ j=>
   have ih:=Mx (seen:=seen) hn.2 (by simpa using hx) (by simpa using hb) hs;have hbB:b∈B:=List.mem_of_getElem? (by simpa using hb);have hcb:c≠b:=fun e=>hn.1 (by rw [e];exact hbB)
   by_cases hcs:c∈seen
   ·have h1:Bi (y::m) (c::B) seen=Bi m B seen:=by simp [Bi,hcs]
    have h2:Bi (y::m) (c::B) (seen++ [b])=Bi m B (seen++ [b]):=by simp [Bi,hcs]
    rw [h1,h2];exact ih
   ·have h1:Bi (y::m) (c::B) seen=y::Bi m B seen:=by simp [Bi,hcs]
    have h2:Bi (y::m) (c::B) (seen++ [b])=y::Bi m B (seen++ [b]):=by simp [Bi,hcs,hcb]
    rw [h1,h2];exact (List.Perm.cons _ ih).trans (List.Perm.swap _ _ _)
end
def QU:Value ->Option AV
 | .agg cs=>match FB cs.toList with
  | none=>none
  | some l=>G9 l
 | v=>Fh v
def C6 (P:Program) (T:TypeId):Option AV:=match P.info? T with
 | none=>none
 | some i=>match i.zero with
  | none=>none
  | some z=>QU z
theorem Na {v:Value} {a:AV} (h:QU v=some a) (w:World) (O:Nat ->Prop) (ρ:Nat ->Nat ->Value):AP w O ρ a v:=by
 unfold QU at h
 split at h
 ·rename_i cs
  split at h
  ·cases h
  ·rename_i l hl
   obtain ⟨h1,h2⟩:=CC hl w O ρ;have:=Dy (w:=w) (O:=O) (ρ:=ρ) h h1 h2
   simpa using this
 ·exact (He h).1
theorem Dj {P:Program} {T:TypeId} {a:AV} (h:C6 P T=some a) (w:World):∃z,(zeroValue T).run P w= .ok z w∧∀(w':World) O ρ,AP w' O ρ a z:=by
 unfold C6 at h
 split at h
 ·cases h
 ·rename_i i hi
  split at h
  ·cases h
  ·rename_i z hz
   exact ⟨z,by simp [zeroValue,typeInfo,hi,hz],fun w' O ρ=>Na h w' O ρ⟩
def BW (P:Program) (T K E:TypeId):Bool:=match P.underlying T with
 | some (.map k e)=>Nat.beq k K && Nat.beq e E
 | _=>false
theorem N7 {P:Program} {T K E:TypeId} (h:BW P T K E=true):P.underlying T=some (.map K E):=by
 unfold BW at h
 split at h
 ·rename_i k e hk
  simp only [Bool.and_eq_true] at h;rw [hk,Nat.eq_of_beq_eq_true h.1,Nat.eq_of_beq_eq_true h.2]
 ·cases h
section
variable {α β:Type} [DecidableEq α]
def Ae (eK:α ->D) (eV:β ->D) (m:List (α×β)):List (D×D):=m.map fun x=>(eK x.1,eV x.2)
def Pp (eK:α ->D) (eV:β ->D) (m:List (α×β)):AJ:= .map (some (List.range m.length,m.length)) (Ae eK eV m)
def mapH (eK:α ->D) (eV:β ->D) (m:List (α×β)):AJ:= .map none (Ae eK eV m)
variable {P:Program} {F:Fr} {s:AS} {K:TypeId} {eK:α ->D} {kv:α ->Value} {eV:β ->D}
theorem QP (KT:BT P K eK kv) {w:World} {O:Nat ->Prop} {m:List (α×β)} {arr:Array MapEntry} (hz:arr.size=(Ae eK eV m).length)
  (h:∀(i:Nat) e x,arr[i]? =some e ->(Ae eK eV m)[i]? =some x ->AM w O x.1 e.key∧AM w O x.2 e.val):arr.toList.map (·.key)=(m.map Prod.fst).map kv:=by
 simp only [Ae,List.length_map] at hz;refine List.ext_getElem? fun i=>?_;simp only [List.getElem?_map,Array.getElem?_toList]
 cases ha:arr[i]? with
 | none=>
  have:arr.size≤i:=Array.getElem?_eq_none_iff.1 ha;rw [List.getElem?_eq_none (by omega)];rfl
 | some e=>
  have hlt:i<m.length:=by have:=(Array.getElem?_eq_some_iff.1 ha).1;omega
  rw [List.getElem?_eq_getElem hlt];have h1:=(h i e (eK m[i].1,eV m[i].2) ha (by simp [Ae,hlt])).1;simp only [Option.map_some,Option.some.injEq];exact h1.val (KT.val _)
theorem hit_get (KT:BT P K eK kv) {w:World} {O:Nat ->Prop} {m:List (α×β)} {arr:Array MapEntry} (hz:arr.size=(Ae eK eV m).length)
  (h:∀(i:Nat) e x,arr[i]? =some e ->(Ae eK eV m)[i]? =some x ->AM w O x.1 e.key∧AM w O x.2 e.val) (a:α) (z:β):
  (Fb a (m.map Prod.fst) arr.toList 0=none∧Ib m a=false∧CJ m a z=z∧Df m a=m.length)∨∃i e,Fb a (m.map Prod.fst) arr.toList 0=some (i,e.val)∧arr[i]? =some e∧e.key=kv a∧Ib m a=true∧Df m a=i∧i<m.length∧AM w O (eV (CJ m a z)) e.val:=by
 have hlen:arr.toList.length=(m.map Prod.fst).length:=by simpa [Ae] using hz
 cases hh:Fb a (m.map Prod.fst) arr.toList 0 with
 | none=>
  have hn:=Kn hlen hh;refine .inl ⟨rfl,?_,Kh hn,?_⟩
  ·cases hm:Ib m a with
   | false=>rfl
   | true=>exact absurd (DB.1 hm) hn
  ·clear hh hlen hz h
   induction m with
   | nil=>rfl
   | cons p r ih=>
    obtain ⟨k,b⟩:=p;simp only [List.map_cons,List.mem_cons,not_or] at hn
    simp [Df,hn.1,ih hn.2]
 | some q=>
  obtain ⟨i,v⟩:=q;obtain ⟨_,h2,⟨e,h3,h4⟩,h5⟩:=Km hh;simp only [Nat.sub_zero,Array.getElem?_toList] at h2 h3 h5;rw [List.getElem?_map] at h2
  have hi:i<m.length:=by
   cases hm:m[i]? with
   | none=>rw [hm] at h2;cases h2
   | some x=>exact (List.getElem?_eq_some_iff.1 hm).1
  have hx:(m[i]).1=a:=by rw [List.getElem?_eq_getElem hi] at h2;simpa using h2
  have hkey:Df m a=i∧CJ m a z=(m[i]).2:=by
   clear hh hlen hz h h3 h4
   induction m generalizing i with
   | nil=>simp at hi
   | cons p r ih=>
    obtain ⟨k,b⟩:=p
    cases i with
    | zero=>simp at hx;subst hx;simp [Df,CJ]
    | succ i=>
     have hne:a≠k:=fun e=>h5 0 (by omega) (by simp [e]);have h5':∀k',k'<i ->(r.map Prod.fst)[k']?≠some a:=fun k' hk'=>by simpa using h5 (k'+1) (by omega)
     have:=ih i (Nat.zero_le _) (by rw [List.getElem?_cons_succ] at h2;exact h2) h5' (by simpa using hi) (by simpa using hx)
     simp [Df,CJ,hne,this]
  obtain ⟨g1,g2⟩:=h i e (eK m[i].1,eV m[i].2) h3 (by simp [Ae,hi]);refine .inr ⟨i,e,by rw [←h4],h3,?_,DB.2 (by rw [←hx];exact List.mem_map_of_mem (List.getElem_mem hi)),hkey.1,hi,by rw [hkey.2];exact g2⟩;have:=g1.val (KT.val _);rw [this,hx]
variable {d:Nat} {ty T E:TypeId} {pos:String} {aft:Array Edge} {g:Option (Nat×Bool)} {x y z:Operand} {bs:Option (List Nat×Nat)}
def GU:AJ ->Option (Option (List Nat×Nat)×List (D×D))
 | .map bs es=>some (bs,es)
 | .nm _ bs es=>some (bs,es)
 | _=>none
theorem Ab.mapO {w:World} {O:Nat ->Prop} {ρ:Nat ->Nat ->Value} {o:AJ} {v:Value} {es:List (D×D)} (h:Ab w O ρ o v) (ho:GU o=some (bs,es)):
  ∃(mb:Nat) (arr:Array MapEntry) (c:Nat),v= .map (some mb)∧w.heap[mb]? =some (.map arr c)∧arr.size=es.length∧(∀(i:Nat) e x,arr[i]? =some e ->es[i]? =some x ->AM w O x.1 e.key∧AM w O x.2 e.val)∧
   (arr.toList.map (·.born)).Nodup∧(∀e∈arr.toList,e.born<c)∧∀B c',bs=some (B,c') ->B=arr.toList.map (·.born)∧c'=c:=by
 cases o with
 | map _ _=>simp only [GU,Option.some.injEq,Prod.mk.injEq] at ho;obtain ⟨rfl,rfl⟩:=ho;exact h
 | nm b _ _=>simp only [GU,Option.some.injEq,Prod.mk.injEq] at ho;obtain ⟨rfl,rfl⟩:=ho;exact ⟨b,h.2.choose,h.2.choose_spec.choose,h.1,h.2.choose_spec.choose_spec⟩
 | _=>cases ho
theorem SR.mapV {ρ:Nat ->Nat ->Value} {act:Act} {w:World} (hs:SR F s ρ act w) {f i:Nat} (hx:s.ev x=some (.map f i)):act.eval x=ρ f i:=by
 have hrx:=hs.ev hx
 generalize act.eval x=vx at hrx
 cases hrx with
 | map h=>exact h.symm
theorem SR.mapAt0 {ρ:Nat ->Nat ->Value} {act:Act} {w:World} (hs:SR F s ρ act w) {f i:Nat} {o:AJ} {es:List (D×D)} (hx:act.eval x=ρ f i) (ho:hget s.hp f i=some o) (hmo:GU o=some (bs,es)):
  ∃(mb:Nat) (arr:Array MapEntry) (c:Nat),act.eval x= .map (some mb)∧ρ f i= .map (some mb)∧w.heap[mb]? =some (.map arr c)∧arr.size=es.length∧(∀(i:Nat) e x,arr[i]? =some e ->es[i]? =some x ->AM w (F.O ρ s.hp) x.1 e.key∧AM w (F.O ρ s.hp) x.2 e.val)∧
   (arr.toList.map (·.born)).Nodup∧(∀e∈arr.toList,e.born<c)∧∀B c',bs=some (B,c') ->B=arr.toList.map (·.born)∧c'=c:=by
 obtain ⟨mb,arr,c,h1,h2⟩:=(hs.heap.sim f i _ ho).mapO hmo;exact ⟨mb,arr,c,hx.trans h1,h1,h2⟩
theorem SR.mapAt {ρ:Nat ->Nat ->Value} {act:Act} {w:World} (hs:SR F s ρ act w) {f i:Nat} {es:List (D×D)} (hx:s.ev x=some (.map f i)) (ho:hget s.hp f i=some (.map bs es)):
  ∃(mb:Nat) (arr:Array MapEntry) (c:Nat),act.eval x= .map (some mb)∧ρ f i= .map (some mb)∧w.heap[mb]? =some (.map arr c)∧arr.size=es.length∧(∀(i:Nat) e x,arr[i]? =some e ->es[i]? =some x ->AM w (F.O ρ s.hp) x.1 e.key∧AM w (F.O ρ s.hp) x.2 e.val)∧
   (arr.toList.map (·.born)).Nodup∧(∀e∈arr.toList,e.born<c)∧∀B c',bs=some (B,c') ->B=arr.toList.map (·.born)∧c'=c:=
 hs.mapAt0 (hs.mapV hx) ho rfl
theorem ML (m:List (α×β)) (a:α) (b0 v:β) {f i:Nat} {o:AJ} (hx:∀ρ act w,SR F s ρ act w ->act.eval x=ρ f i) (ho:hget s.hp f i=some o) (hmo:GU o=some (bs,Ae eK eV m)) (hy:s.ev y=some (.d (eK a))) (hT:BW P T K E=true) (KT:BT P K eK kv) (hz:C6 P E=some (.d (eV b0))) (hv:CJ m a b0=v) (hd:Nat.blt d s.n=true):
  AA P F ⟨some d,.lookup T x y false,ty,pos,aft,g⟩ s d (.d (eV v)):=
 Bt _ hd fun ρ act w hs=>by
  obtain ⟨mb,arr,c,e1,_,h1,h2,h3,_⟩:=hs.mapAt0 (hx _ _ _ hs) ho hmo;have hk:act.eval y=kv a:=(hs.repD hy).val (KT.val a);obtain ⟨zv,hz1,hz2⟩:=Dj hz w;subst hv;rcases hit_get KT h2 h3 a b0 with ⟨g1,_,g3,_⟩ | ⟨j,e,g1,g2,_,_,_,_,g7⟩
  ·refine ⟨zv,?_,by rw [g3];exact hz2 _ _ _⟩
   simp [execOp,Instr.lookup,run_underlying (N7 hT),e1,hk,MapKept.run_getObj_map h1,KT.check,KT.find w a _ _ (QP KT h2 h3),g1,hz1,Result.andThen]
  ·refine ⟨e.val,?_,.d g7⟩
   simp [execOp,Instr.lookup,run_underlying (N7 hT),e1,hk,MapKept.run_getObj_map h1,KT.check,KT.find w a _ _ (QP KT h2 h3),g1,Result.andThen]
theorem st_look (m:List (α×β)) (a:α) (b0 v:β) {f i:Nat} (hx:s.ev x=some (.map f i)) (ho:hget s.hp f i=some (.map bs (Ae eK eV m))) (hy:s.ev y=some (.d (eK a))) (hT:BW P T K E=true) (KT:BT P K eK kv) (hz:C6 P E=some (.d (eV b0))) (hv:CJ m a b0=v) (hd:Nat.blt d s.n=true):
  AA P F ⟨some d,.lookup T x y false,ty,pos,aft,g⟩ s d (.d (eV v)):=
 ML m a b0 v (fun _ _ _ hs=>hs.mapV hx) ho rfl hy hT KT hz hv hd
theorem JE (m:List (α×β)) (a:α) (b0:β) {f i:Nat} {o:AJ} (hx:∀ρ act w,SR F s ρ act w ->act.eval x=ρ f i) (ho:hget s.hp f i=some o) (hmo:GU o=some (bs,Ae eK eV m)) (hy:s.ev y=some (.d (eK a))) (hT:BW P T K E=true) (KT:BT P K eK kv) (hz:C6 P E=some (.d (eV b0))) (hd:Nat.blt d s.n=true):
  AA P F ⟨some d,.lookup T x y true,ty,pos,aft,g⟩ s d (.tup [.d (eV (CJ m a b0)),.d (.raw (.bool (Ib m a)))]):=
 Bt _ hd fun ρ act w hs=>by
  obtain ⟨mb,arr,c,e1,_,h1,h2,h3,_⟩:=hs.mapAt0 (hx _ _ _ hs) ho hmo;have hk:act.eval y=kv a:=(hs.repD hy).val (KT.val a);obtain ⟨zv,hz1,hz2⟩:=Dj hz w
  have tup2:∀{v1 v2:Value} {a1 a2:AV},AP w (F.O ρ s.hp) ρ a1 v1 ->AP w (F.O ρ s.hp) ρ a2 v2 ->AP w (F.O ρ s.hp) ρ (.tup [a1,a2]) (.tuple #[v1,v2]):=fun {v1 v2 a1 a2} h1 h2=>by
   refine .tup (vs:=[v1,v2]) rfl fun i a v ha hv=>?_;rcases i with _ | _ | i
   ·simp at ha hv;subst ha hv;exact h1
   ·simp at ha hv;subst ha hv;exact h2
   ·simp at ha
  rcases hit_get KT h2 h3 a b0 with ⟨g1,g2,g3,_⟩ | ⟨j,e,g1,g2,_,g4,_,_,g7⟩
  ·refine ⟨.tuple #[zv,.bool false],?_,tup2 (by rw [g3];exact hz2 _ _ _) (by rw [g2];exact .d (.raw rfl))⟩
   simp [execOp,Instr.lookup,run_underlying (N7 hT),e1,hk,MapKept.run_getObj_map h1,KT.check,KT.find w a _ _ (QP KT h2 h3),g1,hz1,Result.andThen]
  ·refine ⟨.tuple #[e.val,.bool true],?_,tup2 (.d g7) (by rw [g4];exact .d (.raw rfl))⟩
   simp [execOp,Instr.lookup,run_underlying (N7 hT),e1,hk,MapKept.run_getObj_map h1,KT.check,KT.find w a _ _ (QP KT h2 h3),g1,Result.andThen]
theorem Fz (m:List (α×β)) (a:α) (b0:β) {f i:Nat} (hx:s.ev x=some (.map f i)) (ho:hget s.hp f i=some (.map bs (Ae eK eV m))) (hy:s.ev y=some (.d (eK a))) (hT:BW P T K E=true) (KT:BT P K eK kv) (hz:C6 P E=some (.d (eV b0))) (hd:Nat.blt d s.n=true):
  AA P F ⟨some d,.lookup T x y true,ty,pos,aft,g⟩ s d (.tup [.d (eV (CJ m a b0)),.d (.raw (.bool (Ib m a)))]):=
 JE m a b0 (fun _ _ _ hs=>hs.mapV hx) ho rfl hy hT KT hz hd
theorem PN {es:List (D×D)} {f i n:Nat} {o:AJ} (hx:∀ρ act w,SR F s ρ act w ->act.eval x=ρ f i) (ho:hget s.hp f i=some o) (hmo:GU o=some (bs,es)) (hn:es.length=n) (hT:BW P T K E=true) (hd:Nat.blt d s.n=true):
  AA P F ⟨some d,.call {callee:= .builtin .len,args:= #[x],argTypes:= #[T]},ty,pos,aft,g⟩ s d (.d (.raw (.int .i64 (n:Int)))):=by
 subst hn
 exact Bt _ hd fun ρ act w hs=>by
  obtain ⟨mb,arr,c,e1,_,h1,h2,_⟩:=hs.mapAt0 (hx _ _ _ hs) ho hmo;refine ⟨.int .i64 (arr.size:Int),?_,by rw [h2];exact .d (.raw rfl)⟩;have hT':=N7 hT;have hT2:P.underlying T=some (.map (P.mapKeyOf T) (P.mapElemOf T)):=by simp [Program.mapKeyOf,Program.mapElemOf,hT']
  simp [execOp,resolve,invoke,builtin,e1,run_len_map (P:=P) w T ty mb arr c hT2 h1,Result.andThen,goInt]
theorem Ei (f:Nat) {env':List (Nat×AV)} {hp1 hp':List (Nat×List AJ)} (hE:AO f s.env=some env') (hH:AN f s.hp=some hp1) (hn:CE hp1 f (.map (some ([],0)) [])=some hp') (hd:Nat.blt d s.n=true):
  AK P F ⟨some d,.makeMap T none,ty,pos,aft,g⟩ s ⟨s.n,(d,.map f 0)::env',hp'⟩ (BG f):=fun ρ act w hs=>by
 have hrun:(execOp act.eval ⟨some d,.makeMap T none,ty,pos,aft,g⟩).run P w= .ok (.value (.map (some w.heap.size))) (w.alloc (.map #[] 0)):=by
  simp [execOp,run_makeMap,Result.andThen]
 unfold Oper.wp;rw [hrun];have hsr:=hs.new f (.map (some ([],0)) []) (.map (some w.heap.size)) (.map #[] 0) hE hH hn rfl (fun hrep=>⟨w.heap.size, #[],0,rfl,heap_alloc_new w _,rfl,by simp,by simp,by simp,fun B c' e=>by injection e with e;injection e with e1 e2;subst e1 e2;simp⟩);exact ⟨_,hsr.put (Fs hd) (.map Jp),fun f i h=>I0 fun e=>Lt h e.1⟩
end
end Go.Proofs.YtlmedakidpaeeaaGreat
/- The rules of maps' operations that write, and of ranges over maps. No program in sight. -/
namespace Go.Proofs.YtlmedakidpaeeaaGreat
open Go.RowKit Go.ChangeMaps
section
variable {α β:Type} [DecidableEq α]
variable {P:Program} {F:Fr} {s:AS} {K:TypeId} {eK:α ->D} {kv:α ->Value} {eV:β ->D}
variable {d:Nat} {ty T E:TypeId} {pos:String} {aft:Array Edge} {g:Option (Nat×Bool)} {x y z:Operand} {bs:Option (List Nat×Nat)}
def Jk (m:List (α×β)) (a:α):Option (List Nat×Nat) ->Option (List Nat×Nat)
 | none=>none
 | some (B,c)=>if Df m a<m.length then some (B,c) else some (B++ [c],c+1)
theorem NW (m:List (α×β)) (a:α) (b:β):Jk m a (some (List.range m.length,m.length))=some (List.range (Bq m a b).length,(Bq m a b).length):=by
 obtain ⟨h1,h2⟩:=Mq (m:=m) (a:=a) (b:=b);unfold Jk
 by_cases h:Df m a<m.length
 ·simp only [h,if_true,show (Bq m a b).length=m.length by omega]
 ·simp only [h,if_false,show (Bq m a b).length=m.length+1 by omega,List.range_succ]
theorem JI (_:BT P K eK kv) {w w':World} {O O':Nat ->Prop} {ρ:Nat ->Nat ->Value} {m:List (α×β)} {a:α} {b:β} {arr arr':Array MapEntry} {c c' mb:Nat} {v:Value}
  (hz:arr.size=(Ae eK eV m).length) (h:∀(i:Nat) e x,arr[i]? =some e ->(Ae eK eV m)[i]? =some x ->AM w O x.1 e.key∧AM w O x.2 e.val)
  (hn:(arr.toList.map (·.born)).Nodup) (hb:∀e∈arr.toList,e.born<c) (hbs:∀B c',bs=some (B,c') ->B=arr.toList.map (·.born)∧c'=c)
  (hrep:∀A v,AP w O ρ A v ->AP w' O' ρ A v) (hv:AM w' O' (eV b) v) (hkr:AM w' O' (eK a) (kv a))
  (hcase:(Df m a=m.length∧arr'=arr.push {key:=kv a,val:=v,born:=c}∧c'=c+1)∨∃e,arr[Df m a]? =some e∧Df m a<m.length∧arr'=(arr.modify (Df m a) fun e=>{e with key:=kv a,val:=v})∧c'=c)
  (hblk:w'.heap[mb]? =some (.map arr' c')):Ab w' O' ρ (.map (Jk m a bs) (Ae eK eV (Bq m a b))) (.map (some mb)):=by
 have hzm:arr.size=m.length:=by simpa [Ae] using hz
 obtain ⟨l1,l2⟩:=Mq (m:=m) (a:=a) (b:=b);obtain ⟨p1,p2⟩:=mput_ix (m:=m) (a:=a) (b:=b)
 have hrepD:∀x v,AM w O x v ->AM w' O' x v:=fun x v hx=>by
  have:=hrep (.d x) v (.d hx)
  cases this with | d h=>exact h
 rcases hcase with ⟨hm,rfl,rfl⟩ | ⟨e0,he0,hlt,rfl,rfl⟩
 ·refine ⟨mb,_,_,rfl,hblk,?_,fun i e x he hx=>?_,?_,fun e he=>?_,fun B c' hB=>?_⟩
  ·simp [Ae];omega
  ·have hi:i<(Bq m a b).length:=by have:=(List.getElem?_eq_some_iff.1 hx).1;simpa [Ae] using this
   by_cases hie:i=m.length
   ·subst hie;rw [Array.getElem?_push,if_pos hzm.symm] at he;injection he with he;subst he
    have:(Ae eK eV (Bq m a b))[m.length]? =some (eK a,eV b):=by
     have:=p1;rw [hm] at this;simp [Ae,this]
    rw [this] at hx;injection hx with hx;subst hx
    exact ⟨hkr,hv⟩
   ·rw [Array.getElem?_push,if_neg (by omega)] at he
    have hx':(Ae eK eV m)[i]? =some x:=by
     have:=p2 i (by omega);simp only [Ae,List.getElem?_map,this] at hx⊢;exact hx
    obtain ⟨g1,g2⟩:=h i e x he hx';exact ⟨hrepD _ _ g1,hrepD _ _ g2⟩
  ·simp only [Array.toList_push,List.map_append,List.map_cons,List.map_nil];rw [List.nodup_append];refine ⟨hn,by simp,fun u hu v' hv'=>?_⟩
   simp at hv';subst hv'
   obtain ⟨e,he,rfl⟩:=List.mem_map.1 hu;have:=hb e he;omega
  ·simp only [Array.toList_push,List.mem_append,List.mem_cons,List.not_mem_nil,or_false] at he;rcases he with he | rfl
   ·have:=hb e he;omega
   ·show c<c+1;omega
  ·cases bs with
   | none=>cases hB
   | some q=>
    obtain ⟨B0,c0⟩:=q;obtain ⟨rfl,rfl⟩:=hbs B0 c0 rfl;simp only [Jk,hm,Nat.lt_irrefl,if_false,Option.some.injEq,Prod.mk.injEq] at hB;obtain ⟨rfl,rfl⟩:=hB
    simp
 ·have hie:∀(i:Nat) e,(arr.modify (Df m a) fun e=>{e with key:=kv a,val:=v})[i]? =some e ->∃e1,arr[i]? =some e1∧e=if i=Df m a then {e1 with key:=kv a,val:=v} else e1:=fun i e he=>by
   rw [Array.getElem?_modify] at he
   split at he
   ·rename_i hh;subst hh
    rw [he0] at he;simp at he;subst he;exact ⟨e0,he0,by simp⟩
   ·rename_i hh;exact ⟨e,he,by rw [if_neg (fun hh'=>hh hh'.symm)]⟩
  have hborn:(arr.modify (Df m a) fun e=>{e with key:=kv a,val:=v}).toList.map (·.born)=arr.toList.map (·.born):=by
   refine List.ext_getElem? fun i=>?_;simp only [List.getElem?_map,Array.getElem?_toList,Array.getElem?_modify]
   split
   ·rename_i hh;subst hh;rw [he0];rfl
   ·rfl
  refine ⟨mb,_,_,rfl,hblk,?_,fun i e x he hx=>?_,by rw [hborn];exact hn,fun e he=>?_,fun B c' hB=>?_⟩
  ·simp [Ae];omega
  ·obtain ⟨e1,h1,rfl⟩:=hie i e he
   by_cases hii:i=Df m a
   ·subst hii;rw [if_pos rfl];have:(Ae eK eV (Bq m a b))[Df m a]? =some (eK a,eV b):=by simp [Ae,p1]
    rw [this] at hx;injection hx with hx;subst hx
    exact ⟨hkr,hv⟩
   ·rw [if_neg hii]
    have hx':(Ae eK eV m)[i]? =some x:=by
     have:=p2 i hii;simp only [Ae,List.getElem?_map,this] at hx⊢;exact hx
    obtain ⟨g1,g2⟩:=h i e1 x h1 hx';exact ⟨hrepD _ _ g1,hrepD _ _ g2⟩
  ·have:e.born∈(arr.modify (Df m a) fun e=>{e with key:=kv a,val:=v}).toList.map (·.born):=List.mem_map_of_mem (f:=(·.born)) he;rw [hborn] at this;obtain ⟨e1,h1,h2⟩:=List.mem_map.1 this;rw [←h2];exact hb e1 h1
  ·cases bs with
   | none=>cases hB
   | some q=>
    obtain ⟨B0,c0⟩:=q;simp only [Jk,hlt,if_true,Option.some.injEq,Prod.mk.injEq] at hB;obtain ⟨rfl,rfl⟩:=hB;rw [hborn];exact hbs _ _ rfl
theorem Zcu {w:World} {b:Nat} {o:Obj} {i:Nat} (h:i≠b):(setBlock w b o).heap[i]? =w.heap[i]?:=by
 simp [setBlock,Ne.symm h]
theorem Co {w:World} {b:Nat} {o o':Obj} (h:w.heap[b]? =some o'):(setBlock w b o).heap[b]? =some o:=by
 have:=(Array.getElem?_eq_some_iff.1 h).1
 simp [setBlock,this]
theorem Zcq {w:World} {b:Nat} {o:Obj}:(setBlock w b o).heap.size=w.heap.size:=by simp [setBlock]
theorem MK (m:List (α×β)) (a:α) (b:β) {f i:Nat} {hp':List (Nat×List AJ)} (hx:s.ev x=some (.map f i)) (ho:hget s.hp f i=some (.map bs (Ae eK eV m))) (hy:s.ev y=some (.d (eK a))) (hT:BW P T K E=true) (KT:BT P K eK kv) (hz:s.ev z=some (.d (eV b)))
  (hh:Ay s.hp f i (.map (Jk m a bs) (Ae eK eV (Bq m a b)))=some hp'):AK P F ⟨none,.mapUpdate T x y z,ty,pos,aft,g⟩ s ⟨s.n,s.env,hp'⟩ (fun _ _=>true):=fun ρ act w hs=>by
 obtain ⟨mb,arr,c,e1,e2,h1,h2,h3,h4,h5,h6⟩:=hs.mapAt hx ho;have hk:act.eval y=kv a:=(hs.repD hy).val (KT.val a);have hkr:AM w (F.O ρ s.hp) (eK a) (kv a):=hk▸hs.repD hy;have hvr:=hs.ev hz
 have fin:∀arr' c',(execOp act.eval ⟨none,.mapUpdate T x y z,ty,pos,aft,g⟩).run P w= .ok .skip (setBlock w mb (.map arr' c')) ->((Df m a=m.length∧arr'=arr.push {key:=kv a,val:=act.eval z,born:=c}∧c'=c+1)∨∃e,arr[Df m a]? =some e∧Df m a<m.length∧arr'=(arr.modify (Df m a) fun e=>{e with key:=kv a,val:=act.eval z})∧c'=c)→
   (⟨none,.mapUpdate T x y z,ty,pos,aft,g⟩:Oper).wp P act w (fun act' w'=>∃ρ',SR F ⟨s.n,s.env,hp'⟩ ρ' act' w'∧∀f i,(fun _ _=>true) f i=true ->ρ' f i=ρ f i) (fun _ _ _=>False):=fun arr' c' hrun hcase=>by
  unfold Oper.wp;rw [hrun];refine ⟨ρ,hs.write f i _ (.map (Jk m a bs) (Ae eK eV (Bq m a b))) ho (Ah hh) Z Z Z Zcq (fun b' hb'=>Zcu fun e=>hb' (by rw [e2,e];rfl)) (fun _ _ e=>by cases e) fun hrep=>?_,fun _ _ _=>rfl⟩;rw [e2];refine JI KT h2 h3 h4 h5 h6 hrep (by have:=hrep _ _ hvr;cases this with | d h=>exact h) ?_ hcase (Co h1);have:=hrep (.d (eK a)) _ (.d hkr)
  cases this with | d h=>exact h
 rcases hit_get KT h2 h3 a b with ⟨g1,_,_,g4⟩ | ⟨j,e,g1,g2,g3,_,g5,g6,_⟩
 ·refine fin _ _ ?_ (.inl ⟨g4,rfl,rfl⟩)
  simp [execOp,Instr.mapUpdate,run_underlying (N7 hT),e1,hk,MapKept.run_getObj_map h1,KT.check,KT.find w a _ _ (QP KT h2 h3),g1,Result.andThen,MapKept.run_setObj_map _ h1,setBlock]
 ·refine fin _ _ ?_ (.inr ⟨e,by rw [g5];exact g2,by rw [g5];exact g6,rfl,rfl⟩)
  simp [execOp,Instr.mapUpdate,run_underlying (N7 hT),e1,hk,MapKept.run_getObj_map h1,KT.check,KT.find w a _ _ (QP KT h2 h3),g1,g2,g3,g5,Result.andThen,MapKept.run_setObj_map _ h1,setBlock,KT.stays]
theorem LJ {n:Nat} {env:List (Nat×AV)} {hp hp':List (Nat×List AJ)} (m:List (α×β)) (a:α) (b:β) {f i:Nat} (hx:AS.ev ⟨n,env,hp⟩ x=some (.map f i)) (ho:hget hp f i=some (Pp eK eV m)) (hy:AS.ev ⟨n,env,hp⟩ y=some (.d (eK a))) (hT:BW P T K E=true) (KT:BT P K eK kv) (hz:AS.ev ⟨n,env,hp⟩ z=some (.d (eV b)))
  (hh:Ay hp f i (Pp eK eV (Bq m a b))=some hp'):AK P F ⟨none,.mapUpdate T x y z,ty,pos,aft,g⟩ ⟨n,env,hp⟩ ⟨n,env,hp'⟩ (fun _ _=>true):=
 MK (s:=⟨n,env,hp⟩) m a b hx ho hy hT KT hz (by rw [NW (b:=b)];exact hh)
theorem QZ {n:Nat} {env:List (Nat×AV)} {hp hp':List (Nat×List AJ)} (m:List (α×β)) (a:α) (b:β) {f i:Nat} (hx:AS.ev ⟨n,env,hp⟩ x=some (.map f i)) (ho:hget hp f i=some (mapH eK eV m)) (hy:AS.ev ⟨n,env,hp⟩ y=some (.d (eK a))) (hT:BW P T K E=true) (KT:BT P K eK kv) (hz:AS.ev ⟨n,env,hp⟩ z=some (.d (eV b)))
  (hh:Ay hp f i (mapH eK eV (Bq m a b))=some hp'):AK P F ⟨none,.mapUpdate T x y z,ty,pos,aft,g⟩ ⟨n,env,hp⟩ ⟨n,env,hp'⟩ (fun _ _=>true):=
 MK (s:=⟨n,env,hp⟩) m a b hx ho hy hT KT hz hh
theorem PM (gf:Nat) {f i c:Nat} {B:List Nat} {es:List (D×D)} {env':List (Nat×AV)} {hp1 hp':List (Nat×List AJ)} {o:AJ} (hx:∀ρ act w,SR F s ρ act w ->act.eval x=ρ f i) (ho:hget s.hp f i=some o) (hmo:GU o=some (some (B,c),es)) (hne:Nat.beq f gf=false) (hT:BW P T K E=true)
  (hE:AO gf s.env=some env') (hH:AN gf s.hp=some hp1) (hn:CE hp1 gf (.iter f i c [])=some hp') (hd:Nat.blt d s.n=true):
  AK P F ⟨some d,.range T x,ty,pos,aft,g⟩ s ⟨s.n,(d,.ptr gf 0 0)::env',hp'⟩ (BG gf):=fun ρ act w hs=>by
 obtain ⟨mb,arr,c',e1,e2,h1,h2,h3,h4,h5,h6⟩:=hs.mapAt0 (hx _ _ _ hs) ho hmo;obtain ⟨_,rfl⟩:=h6 _ _ rfl
 have hrun:(execOp act.eval ⟨some d,.range T x,ty,pos,aft,g⟩).run P w= .ok (.value (.pointer (some ⟨w.heap.size,0,none⟩))) (w.alloc (.mapIter (some mb) c #[] c)):=by
  simp [execOp,Instr.range,run_underlying (N7 hT),e1,MapKept.run_getObj_map h1,Result.andThen]
 unfold Oper.wp;rw [hrun];have hsr:=hs.new gf (.iter f i c []) (.pointer (some ⟨w.heap.size,0,none⟩)) (.mapIter (some mb) c #[] c) hE hH hn rfl (fun hrep=>⟨w.heap.size,mb, #[],rfl,by rw [I0 (fun e=>(Nat.ne_of_beq_eq_false hne) e.1)];exact e2,heap_alloc_new w _,rfl⟩);exact ⟨_,hsr.put (Fs hd) (.ptr Jp),fun f i h=>I0 fun e=>Lt h e.1⟩
omit [DecidableEq α] in
theorem o_next0 {Q:Exit ->AS ->Prop} {ops:Array Oper} {rest:List Oper} {n:Nat} {env:List (Nat×AV)} {hp:List (Nat×List AJ)} (m:List (α×β)) {gf f i c:Nat} {o:AJ} {B seen:List Nat} (hx:AS.ev ⟨n,env,hp⟩ x=some (.ptr gf 0 0)) (hi:hget hp gf 0=some (.iter f i c seen)) (ho:hget hp f i=some o) (hmo:GU o=some (some (B,c),Ae eK eV m)) (hd:Nat.blt d n=true)
  (h0:Bi m B seen=[] ->As P F ops rest Q ⟨n,(d,.tup [.d (.raw (.bool false))])::env,hp⟩)
  (h1:∀(j b:Nat) (k:α) (v:β),m[j]? =some (k,v) ->B[j]? =some b ->B.Nodup ->(Bi m B seen).Perm ((k,v)::Bi m B (seen++ [b])) ->∃hp',Ay hp gf 0 (.iter f i c (seen++ [b]))=some hp'∧As P F ops rest Q ⟨n,(d,.tup [.d (.raw (.bool true)),.d (eK k),.d (eV v)])::env,hp'⟩):
  As P F ops (⟨some d,.next x false,ty,pos,aft,none⟩::rest) Q ⟨n,env,hp⟩:=fun ρ act w hs=>by
 obtain ⟨r,mb,sn,q1,q2,q3,q4⟩:=hs.heap.sim gf 0 _ hi;obtain ⟨mb',arr,c',p1,p2,p3,p4,p5,p6,p7⟩:=(hs.heap.sim f i _ ho).mapO hmo;obtain ⟨hB,hc⟩:=p7 _ _ rfl;subst hc;have:mb'=mb:=by rw [p1] at q2;injection q2 with q2;injection q2 with q2
 subst this
 have hxv:act.eval x= .pointer (some ⟨r,0,none⟩):=by
  have hr:=hs.ev hx
  generalize act.eval x=vx at hr
  cases hr with
  | ptr h=>rw [q1] at h;injection h with h;injection h with h;injection h with h;subst h;rfl
 have hzm:arr.size=m.length:=by simpa [Ae] using p3
 have hBn:B.Nodup:=hB▸p5;have hBl:B.length=m.length:=by rw [hB];simp [hzm]
 refine wpListIn_plain rfl fun Kk hk=>Ch rfl ?_;rcases run_next_at (P:=P) w ty r mb' c c sn arr c q3 p2 (fun e he=>p6 e he) (Nat.le_refl _) with ⟨hz,hrun⟩ | ⟨e,he,w1,hw1,hrun⟩
 ·have hl0:Bi m B seen=[]:=by
   have hz':arr.filter (fun e=>!sn.contains e.born)= #[]:=Array.eq_empty_of_size_eq_zero hz;rw [Array.filter_eq_empty_iff] at hz';unfold Bi;rw [List.map_eq_nil_iff,List.filter_eq_nil_iff];intro q hq hs';obtain ⟨j,hj,rfl⟩:=List.getElem_of_mem hq;rw [List.length_zip] at hj;have hja:j<arr.size:=by omega
   have h2:=hz' arr[j] (by simp);rw [List.getElem_zip] at hs'
   have h3:B[j]'(by omega)=arr[j].born:=by
    have:=congrArg (·[j]?) hB;simp only [List.getElem?_map,Array.getElem?_toList,Array.getElem?_eq_getElem hja,Option.map_some] at this;rw [List.getElem?_eq_getElem (by omega)] at this;injection this
   simp only [h3,←q4] at hs';simp only [Array.contains_toList] at hs';exact absurd hs' (by simpa using h2)
  have hex:(execOp act.eval ⟨some d,.next x false,ty,pos,aft,none⟩).run P w= .ok (.value (.tuple #[.bool false])) w:=by
   simp [execOp,hxv,hrun,Result.andThen]
  unfold Oper.wp;rw [hex]
  exact hk _ _ (h0 hl0 ρ _ w (hs.put (Fs hd) (.tup (vs:=[.bool false]) rfl fun i a v ha hv=>by
   rcases i with _ | i
   ·simp at ha hv;subst ha hv;exact .d (.raw rfl)
   ·simp at ha)))
 ·have he':e∈arr∧(!sn.contains e.born)=true:=by
   have:e∈arr.filter (fun e=>!sn.contains e.born):=by simpa [leftOf] using he
   rwa [Array.mem_filter] at this
  obtain ⟨j,hj,rfl⟩:=Array.getElem_of_mem he'.1;have hjm:j<m.length:=by omega
  have hBj:B[j]? =some arr[j].born:=by rw [hB];simp [hj]
  obtain ⟨g1,g2⟩:=p4 j arr[j] (eK m[j].1,eV m[j].2) (Array.getElem?_eq_getElem hj) (by simp [Ae,hjm])
  have hns:arr[j].born∉seen:=by
   rw [←q4];have:=he'.2
   simpa using this
  have hperm:=Mx hBn (List.getElem?_eq_getElem hjm) hBj hns;obtain ⟨hp',hh,hA⟩:=h1 j _ m[j].1 m[j].2 (List.getElem?_eq_getElem hjm) hBj hBn hperm
  have hex:(execOp act.eval ⟨some d,.next x false,ty,pos,aft,none⟩).run P w= .ok (.value (.tuple #[.bool true,arr[j].key,arr[j].val])) (setBlock w1 r (.mapIter (some mb') c (sn.push arr[j].born) c)):=by
   simp [execOp,hxv,hrun,Result.andThen]
  unfold Oper.wp;rw [hex]
  have hs1:SR F ⟨n,env,hp⟩ ρ act w1:=by
   rcases hw1 with rfl | rfl
   ·exact hs
   ·exact hs.drew Z Z Z Z
  have q3':w1.heap[r]? =some (.mapIter (some mb') c sn c):=by rcases hw1 with rfl | rfl<;>exact q3
  have hr1:AM w1 (F.O ρ hp) (eK m[j].1) arr[j].key∧AM w1 (F.O ρ hp) (eV m[j].2) arr[j].val:=by
   rcases hw1 with rfl | rfl
   ·exact ⟨g1,g2⟩
   ·exact ⟨g1.mono (w:=w) (w':=w.drew) (Nat.le_refl _) (fun _ _ _=>rfl) (fun _ _ h=>h),g2.mono (w:=w) (w':=w.drew) (Nat.le_refl _) (fun _ _ _=>rfl) (fun _ _ h=>h)⟩
  have hw:=hs1.write gf 0 _ (.iter f i c (seen++ [arr[j].born])) (w':=setBlock w1 r (.mapIter (some mb') c (sn.push arr[j].born) c)) hi (Ah hh) Z Z Z Zcq (fun b' hb'=>Zcu fun e=>hb' (by rw [q1,e];rfl)) (fun _ _ e=>by cases e) fun hrep=>by
   exact ⟨r,mb',sn.push arr[j].born,q1,q2,Co q3',by simp [q4]⟩
  have hO:∀b,F.O ρ hp' b ->F.O ρ hp b:=fun b hh'=>by
   rcases hh' with hh' | ⟨f',i',o1,k1,k2⟩
   ·exact .inl hh'
   ·refine .inr ?_
    by_cases e:f'=gf∧i'=0
    ·obtain ⟨rfl,rfl⟩:=e;exact ⟨f',0,_,hi,k2⟩
    ·rw [Ah hh,if_neg e] at k1;exact ⟨f',i',o1,k1,k2⟩
  have hbb:∀b,b<w1.heap.size ->¬F.O ρ hp b ->(setBlock w1 r (.mapIter (some mb') c (sn.push arr[j].born) c)).heap[b]? =w1.heap[b]?:=fun b _ hn=>Zcu fun e=>hn (.inr ⟨gf,0,_,hi,by rw [q1,e];rfl⟩);refine hk _ _ (hA ρ _ _ (hw.put (Fs hd) (.tup (vs:=[.bool true,arr[j].key,arr[j].val]) rfl fun i a v ha hv=>?_)));rcases i with _ | _ | _ | i
  ·simp at ha hv;subst ha hv;exact .d (.raw rfl)
  ·simp at ha hv;subst ha hv;exact .d (hr1.1.mono (Nat.le_of_eq Zcq.symm) hbb (fun b _=>hO b))
  ·simp at ha hv;subst ha hv;exact .d (hr1.2.mono (Nat.le_of_eq Zcq.symm) hbb (fun b _=>hO b))
  ·simp at ha
omit [DecidableEq α] in
omit [DecidableEq α] in
theorem PO (m:List (α×β)) (j b:Nat) {k:α} {v:β} {gf f i c:Nat} {o:AJ} {B seen:List Nat} (hx:s.ev x=some (.ptr gf 0 0)) (hi:hget s.hp gf 0=some (.iter f i c (seen++ [b]))) (ho:hget s.hp f i=some o) (hmo:GU o=some (some (B,c),Ae eK eV m)) (hm:m[j]? =some (k,v)) (hb:B[j]? =some b) (hd:Nat.blt d s.n=true):
  AA P F ⟨some d,.entry x,ty,pos,aft,g⟩ s d (.tup [.d (eK k),.d (eV v)]):=
 Bt _ hd fun ρ act w hs=>by
  obtain ⟨r,mb,sn,q1,q2,q3,q4⟩:=hs.heap.sim gf 0 _ hi;obtain ⟨mb',arr,c',p1,p2,p3,p4,p5,p6,p7⟩:=(hs.heap.sim f i _ ho).mapO hmo;obtain ⟨hB,hc⟩:=p7 _ _ rfl;subst hc;have:mb'=mb:=by rw [p1] at q2;injection q2 with q2;injection q2 with q2
  subst this
  have hxv:act.eval x= .pointer (some ⟨r,0,none⟩):=by
   have hr:=hs.ev hx
   generalize act.eval x=vx at hr
   cases hr with
   | ptr h=>rw [q1] at h;injection h with h;injection h with h;injection h with h;subst h;rfl
  have hjm:j<m.length:=(List.getElem?_eq_some_iff.1 hm).1;have hzm:arr.size=m.length:=by simpa [Ae] using p3
  have hbe:arr[j].born=b:=by
   rw [hB] at hb;simpa [show j<arr.size by omega] using hb
  have hsn:sn=(⟨seen⟩:Array Nat).push arr[j].born:=by
   apply Array.ext'
   rw [q4,Array.toList_push,hbe]
  rw [hsn] at q3;have hrun:=run_entry_at (P:=P) w r mb' c ⟨seen⟩ arr c arr[j] q3 p2 (by simp) p5;obtain ⟨g1,g2⟩:=p4 j arr[j] (eK k,eV v) (Array.getElem?_eq_getElem (by omega)) (by simp [Ae,hm]);refine ⟨.tuple #[arr[j].key,arr[j].val],by simp [execOp,hxv,hrun,Result.andThen],.tup (vs:=[arr[j].key,arr[j].val]) rfl fun i a v ha hv=>?_⟩;rcases i with _ | _ | i
  ·simp at ha hv;subst ha hv;exact .d g1
  ·simp at ha hv;subst ha hv;exact .d g2
  ·simp at ha
omit [DecidableEq α] in
end
end Go.Proofs.YtlmedakidpaeeaaGreat
/- Keys of plain types. No program in sight. -/
namespace Go.Proofs.YtlmedakidpaeeaaGreat
open Go.RowKit
theorem BT.int {P:Program} {K:TypeId} (hK:P.underlying K=some (.int .i64)):BT P K (fun z:Int=> .raw (.int .i64 z)) (fun z=> .int .i64 z):=
 BT.plain hK (fun _=>rfl) (fun _=>rfl) fun a b=>by simp [Instr.sameNow];rfl
def LI (l:List UInt8):Value:= .string ⟨l.toArray⟩
theorem Kz (a b:List UInt8):((⟨a.toArray⟩:ByteArray)==⟨b.toArray⟩)=decide (a=b):=by
 rw [beq_toListBytes,ByteArray.toList_eq,ByteArray.toList_eq]
 by_cases h:a=b
 ·subst h;simp
 ·simp [h]
theorem BT.str {P:Program} {K:TypeId} (hK:P.underlying K=some .string):BT P K AU LI:=
 BT.plain hK (fun _=>rfl) (fun _=>trivial) fun a b=>by simp only [Instr.sameNow,LI,Kz]
def Gf (rec:TypeId ->Option (List TypeDesc)):Nat ->List Field ->Option (List TypeDesc)
 | _,[]=>some []
 | off,f::fs=>match rec f.type with
  | none=>none
  | some ds=>match Gf rec (off+ds.length) fs with
   | none=>none
   | some r=>match Nat.beq f.offset off && f.name != "_" with
    | true=>some (ds++r)
    | false=>none
def Ce (P:Program):Nat ->TypeId ->Option (List TypeDesc)
 | 0,_=>none
 | m+1,T=>match P.underlying T with
  | some (.int k)=>some [.int k]
  | some .string=>some [.string]
  | some .bool=>some [.bool]
  | some (.struct fs)=>match Gf (Ce P m) 0 fs.toList with
   | none=>none
   | some ds=>match Aj P T ds.length && !P.stoodInHeld T with
    | true=>some ds
    | false=>none
  | _=>none
def Ar (ds:List TypeDesc) (us:List Value):Prop:=us.length=ds.length∧∀(i:Nat) d u,ds[i]? =some d ->us[i]? =some u ->MapKept.IsKey d u
def FH (P:Program) (T:TypeId):Bool:=match P.underlying T with
 | some (.struct _)=>true
 | _=>false
def KC (P:Program) (T:TypeId) (us:List Value):Value:=match FH P T with
 | true=> .agg us.toArray
 | false=>us.headD undef
def Jg:Value ->Value ->Bool
 | .int _ a,.int _ b=>a==b
 | .string a,.string b=>a.toList==b.toList
 | .bool a,.bool b=>a==b
 | _,_=>false
def BD:List Value ->List Value ->Bool
 | [],[]=>true
 | a::r,b::s=>Jg a b && BD r s
 | _,_=>false
theorem Jd {a a' b b':List Value} (h:a.length=b.length):BD (a++a') (b++b')=(BD a b && BD a' b'):=by
 induction a generalizing b with
 | nil=>
  cases b with
  | nil=>simp [BD]
  | cons _ _=>simp at h
 | cons x r ih=>
  cases b with
  | nil=>simp at h
  | cons y s=>simp only [List.cons_append,BD,ih (show r.length=s.length by simpa using h),Bool.and_assoc]
theorem Ar.split {ds ds':List TypeDesc} {us:List Value} (h:Ar (ds++ds') us):Ar ds (us.take ds.length)∧Ar ds' (us.drop ds.length):=by
 obtain ⟨h1,h2⟩:=h;rw [List.length_append] at h1;refine ⟨⟨by simp;omega,fun i d u hd hu=>?_⟩,⟨by simp;omega,fun i d u hd hu=>?_⟩⟩
 ·have hi:i<ds.length:=(List.getElem?_eq_some_iff.1 hd).1;rw [List.getElem?_take_of_lt hi] at hu;exact h2 i d u (by rw [List.getElem?_append_left hi];exact hd) hu
 ·rw [List.getElem?_drop] at hu;refine h2 (ds.length+i) d u ?_ hu;rw [List.getElem?_append_right (by omega),show ds.length+i - ds.length=i by omega];exact hd
section
variable {P:Program}
theorem Ey {m:Nat} {T:TypeId} {ds:List TypeDesc} (h:Ce P m T=some ds) (hs:FH P T=false):∃d,ds=[d]∧P.underlying T=some d∧((∃k,d= .int k)∨d= .string∨d= .bool):=by
 cases m with
 | zero=>cases h
 | succ m=>
  unfold Ce at h;unfold FH at hs
  split at h
  ·rename_i k hk;injection h with h;subst h;exact ⟨_,rfl,hk,.inl ⟨k,rfl⟩⟩
  ·rename_i hk;injection h with h;subst h;exact ⟨_,rfl,hk,.inr (.inl rfl)⟩
  ·rename_i hk;injection h with h;subst h;exact ⟨_,rfl,hk,.inr (.inr rfl)⟩
  ·rename_i fs hk;rw [hk] at hs;cases hs
  ·cases h
theorem Ex {m:Nat} {T:TypeId} {ds:List TypeDesc} (h:Ce P m T=some ds) (hs:FH P T=true):∃m' fs,m=m'+1∧P.underlying T=some (.struct fs)∧Gf (Ce P m') 0 fs.toList=some ds∧Aj P T ds.length=true∧P.stoodInHeld T=false:=by
 cases m with
 | zero=>cases h
 | succ m=>
  unfold Ce at h;unfold FH at hs
  split at h
  ·rename_i k hk;rw [hk] at hs;cases hs
  ·rename_i hk;rw [hk] at hs;cases hs
  ·rename_i hk;rw [hk] at hs;cases hs
  ·rename_i fs hk
   split at h
   ·cases h
   ·rename_i ds' hds
    split at h
    ·rename_i hb
     injection h with h;subst h
     simp only [Bool.and_eq_true,Bool.not_eq_true'] at hb;exact ⟨m,fs,rfl,hk,hds,hb.1,hb.2⟩
    ·cases h
  ·cases h
theorem EE {m:Nat} {T:TypeId} {ds:List TypeDesc} (h:Ce P m T=some ds) (w:World) (us:List Value) (off:Nat) (hl:off+ds.length≤us.length):(part T us.toArray off).run P w= .ok (KC P T ((us.drop off).take ds.length)) w:=by
 cases hs:FH P T with
 | false=>
  obtain ⟨d,rfl,hd,hk⟩:=Ey h hs
  have ha:(isAgg T).run P w= .ok false w:=by
   rcases hk with ⟨k,rfl⟩ | rfl | rfl<;>simp [isAgg,run_underlying hd,Result.andThen]
  have hlt:off<us.length:=by simp at hl;omega
  simp only [part,Sem.run_bind,ha,Result.andThen_ok,Bool.false_eq_true,if_false,KC,hs];rw [List.getElem?_toArray,List.getElem?_eq_getElem hlt];simp only [Sem.run_pure,List.length_cons,List.length_nil];rw [List.drop_eq_getElem_cons hlt];rfl
 | true=>
  obtain ⟨m',fs,rfl,hd,_,hz,_⟩:=Ex h hs;have ha:(isAgg T).run P w= .ok true w:=by simp [isAgg,run_underlying hd,Result.andThen]
  have hz':=Zcl (P:=P) (Ow hz) w;simp only [part,Sem.run_bind,ha,Result.andThen_ok,if_true,hz',Sem.run_pure,KC,hs]
  congr 2
  apply Array.ext'
  simp
theorem DT:∀(m:Nat) (T:TypeId) (ds:List TypeDesc),Ce P m T=some ds ->∀(d:Nat) (us vs:List Value),Ar ds us ->Ar ds vs ->∀w,(Op.equalIn (d+m) T (KC P T us) (KC P T vs)).run P w= .ok (BD us vs) w
 | 0,_,_,h=>by cases h
 | m+1,T,ds,h=>fun d us vs hu hv w=>by
  cases hs:FH P T with
  | false=>
   obtain ⟨d',rfl,hd,hk⟩:=Ey h hs;obtain ⟨u,rfl⟩:=List.length_eq_one_iff.1 hu.1;obtain ⟨v,rfl⟩:=List.length_eq_one_iff.1 hv.1;have k1:=hu.2 0 d' u Z Z;have k2:=hv.2 0 d' v Z Z;simp only [KC,hs,List.headD_cons,BD,Bool.and_true];rcases hk with ⟨k,rfl⟩ | rfl | rfl
   ·cases u<;>cases v<;>simp only [MapKept.IsKey] at k1 k2
    subst k1 k2;exact run_equalIn_int w (d+m) T _ _ _ _ hd
   ·cases u<;>cases v<;>simp only [MapKept.IsKey] at k1 k2
    exact run_equalIn_string w (d+m) T _ _ hd
   ·cases u<;>cases v<;>simp only [MapKept.IsKey] at k1 k2
    exact run_equalIn_bool' w (d+m) T _ _ hd
  | true=>
   obtain ⟨m',fs,hm,hd,hfl,hz,hst⟩:=Ex h hs;injection hm with hm;subst hm
   have hf:P.fieldsOf T=fs:=by simp [Program.fieldsOf,hd]
   simp only [KC,hs];rw [←Nat.add_assoc,run_equalIn_struct w (d+m) T _ _ (by rw [hf];exact hd) hst,hf]
   -- along the fields
   have key:∀(fs:List Field) (off:Nat) (ds:List TypeDesc) (us vs:List Value),Gf (Ce P m) off fs=some ds ->Ar ds (us.drop off) ->Ar ds (vs.drop off) ->off≤us.length ->off≤vs.length ->(Op.eqFields (d+m) us.toArray vs.toArray fs).run P w= .ok (BD (us.drop off) (vs.drop off)) w:=by
    intro fs
    induction fs with
    | nil=>
     intro off ds us vs h hu hv _ _;simp only [Gf,Option.some.injEq] at h;subst h;rw [List.eq_nil_of_length_eq_zero hu.1,List.eq_nil_of_length_eq_zero hv.1];rfl
    | cons f fs ih=>
     intro off ds us vs h hu hv hou hov;simp only [Gf] at h
     split at h
     ·cases h
     ·rename_i d1 h1
      split at h
      ·cases h
      ·rename_i r hr
       split at h
       ·rename_i hb
        injection h with h;subst h
        simp only [Bool.and_eq_true] at hb;have hoff:=Nat.eq_of_beq_eq_true hb.1;have hname:f.name≠ "_" :=by simpa using hb.2
        have lu:=hu.1;have lv:=hv.1;rw [List.length_append,List.length_drop] at lu lv;have hl1:off+d1.length≤us.length:=by omega
        have hl2:off+d1.length≤vs.length:=by omega
        obtain ⟨u1,u2⟩:=hu.split;obtain ⟨v1,v2⟩:=hv.split;rw [List.drop_drop] at u2 v2;have e1:=EE h1 w us off hl1;have e2:=EE h1 w vs off hl2;have e3:=DT m f.type d1 h1 d _ _ u1 v1 w;have e4:=ih (off+d1.length) r us vs hr u2 v2 hl1 hl2;simp only [Op.eqFields,hname,ne_eq,not_false_eq_true,if_true,hoff,Sem.run_bind,e1,e2,e3,Result.andThen_ok]
        have hsplit:BD (us.drop off) (vs.drop off)=(BD ((us.drop off).take d1.length) ((vs.drop off).take d1.length) && BD (us.drop (off+d1.length)) (vs.drop (off+d1.length))):=by
         rw [←List.drop_drop,←List.drop_drop,←Jd (by simp;omega),List.take_append_drop,List.take_append_drop]
        rw [hsplit]
        cases hc:BD ((us.drop off).take d1.length) ((vs.drop off).take d1.length) with
        | false=>simp
        | true=>simp only [Bool.not_true,Bool.false_eq_true,if_false,Bool.true_and];exact e4
       ·cases h
   have:=key fs.toList 0 ds us vs hfl (by simpa using hu) (by simpa using hv) (Nat.zero_le _) (Nat.zero_le _)
   simpa using this
theorem GY (em:Bool):∀(m:Nat) (T:TypeId) (ds:List TypeDesc),Ce P m T=some ds ->∀(d:Nat) (us:List Value),Ar ds us ->∀w,(Instr.checkKey em (d+m) T (KC P T us)).run P w= .ok () w
 | 0,_,_,h=>by cases h
 | m+1,T,ds,h=>fun d us hu w=>by
  cases hs:FH P T with
  | false=>
   obtain ⟨d',rfl,hd,hk⟩:=Ey h hs;obtain ⟨u,rfl⟩:=List.length_eq_one_iff.1 hu.1;have k1:=hu.2 0 d' u Z Z;simp only [KC,hs,List.headD_cons];exact MapKept.run_checkKey hd k1 em (d+m)
  | true=>
   obtain ⟨m',fs,hm,hd,hfl,hz,hst⟩:=Ex h hs;injection hm with hm;subst hm
   simp only [KC,hs];rw [←Nat.add_assoc];simp only [Instr.checkKey,Sem.run_bind,run_underlying hd,Result.andThen_ok];rw [←Array.forIn_toList];have h0:Ar ds (us.drop 0):=by simpa using hu
   have hou:0≤us.length:=Nat.zero_le _
   clear h hs hz hu hd hst
   generalize fs.toList=fl at hfl⊢
   generalize (0:Nat)=off at hfl h0 hou
   induction fl generalizing off ds with
   | nil=>rfl
   | cons f fl ih=>
    simp only [Gf] at hfl
    split at hfl
    ·cases hfl
    ·rename_i d1 h1
     split at hfl
     ·cases hfl
     ·rename_i r hr
      split at hfl
      ·rename_i hb
       injection hfl with hfl;subst hfl
       simp only [Bool.and_eq_true] at hb;have hoff:=Nat.eq_of_beq_eq_true hb.1;have hname:f.name≠ "_" :=by simpa using hb.2
       have lu:=h0.1;rw [List.length_append,List.length_drop] at lu;have hl1:off+d1.length≤us.length:=by omega
       obtain ⟨u1,u2⟩:=h0.split;rw [List.drop_drop] at u2;have e1:=EE h1 w us off hl1;have e3:=GY em m f.type d1 h1 d _ u1 w;have e4:=ih r (off+d1.length) hr u2 hl1;rw [List.forIn_cons];simp only [hname,ne_eq,not_false_eq_true,if_true,hoff,Sem.run_bind,e1,e3,Result.andThen_ok,Sem.run_pure] at e4⊢;exact e4
      ·cases hfl
theorem F4 {d:TypeDesc} {u:Value} (h:MapKept.IsKey d u) (n:Nat):Instr.sameBits n u u=true:=by
 cases d<;>cases u<;>simp only [MapKept.IsKey] at h<;>cases n<;>simp [Instr.sameBits]<;>exact (beq_toListBytes _ _).trans (by simp)
theorem Nb {m:Nat} {T:TypeId} {ds:List TypeDesc} (h:Ce P m T=some ds) {us:List Value} (hu:Ar ds us) (w:World):(Instr.keyThatStays (KC P T us) (KC P T us)).run P w= .ok (KC P T us) w:=by
 have:Instr.sameBits 10000 (KC P T us) (KC P T us)=true:=by
  cases hs:FH P T with
  | false=>
   obtain ⟨d',rfl,hd,hk⟩:=Ey h hs;obtain ⟨u,rfl⟩:=List.length_eq_one_iff.1 hu.1;simp only [KC,hs,List.headD_cons];exact F4 (hu.2 0 d' u Z Z) _
  | true=>
   simp only [KC,hs];show Instr.sameBits (9999+1) _ _=true;simp only [Instr.sameBits,beq_self_eq_true,Bool.true_and,List.all_eq_true];intro p hp;obtain ⟨i,hi,e⟩:=List.getElem_of_mem hp;rw [List.getElem_zip] at e;rw [←e]
   simp only
   have hi':i<us.length:=by simpa using hi
   have hd:i<ds.length:=by rw [←hu.1];exact hi'
   exact F4 (hu.2 i ds[i] us[i] (List.getElem?_eq_getElem hd) (List.getElem?_eq_getElem hi')) _
 simp [Instr.keyThatStays,this]
theorem BT.flat {α:Type} [DecidableEq α] {K:TypeId} {eK:α ->D} {cl:α ->List Value} {ds:List TypeDesc} (hf:Ce P 8 K=some ds) (hs:FH P K=true) (hv:∀a,(eK a).val? =some (.agg (cl a).toArray)) (hp:∀a,Ar ds (cl a)) (he:∀a b,BD (cl a) (cl b)=decide (a=b)):BT P K eK fun a=> .agg (cl a).toArray:=by
 have hm:∀a,KC P K (cl a)= .agg (cl a).toArray:=fun a=>by simp only [KC,hs]
 obtain ⟨m',fs,_,hd,_⟩:=Ex hf hs;refine BT.asking hd hv (fun w em a=>?_) (fun w a b=>?_) (fun a b=>by simp [Instr.sameNow]) (fun w a=>?_)
 ·have:=GY em 8 K ds hf 9992 (cl a) (hp a) w
  rwa [hm] at this
 ·have:=DT 8 K ds hf 9992 (cl a) (cl b) (hp a) (hp b) w;rw [hm,hm,he] at this;exact this
 ·have:=Nb hf (hp a) w
  rwa [hm] at this
end
theorem GH:∀a b:List UInt8,Op.bytesLess b a=(!Op.bytesLess a b && !a==b)
 | [],[]=>rfl
 | [],_::_=>rfl
 | _::_,[]=>rfl
 | x::a,y::b=>by
  have ih:=GH a b;rcases Nat.lt_trichotomy x.toNat y.toNat with h | h | h
  ·have h1:x<y:=UInt8.lt_iff_toNat_lt.2 h;have h2:¬y<x:=fun h'=>by have:=UInt8.lt_iff_toNat_lt.1 h';omega
   have h3:y≠x:=fun e=>by subst e;omega
   simp [Op.bytesLess,h1,h2,h3]
  ·have h1:x=y:=UInt8.toNat_inj.1 h;subst h1;have h2:¬x<x:=fun h'=>by have:=UInt8.lt_iff_toNat_lt.1 h';omega
   simp [Op.bytesLess,h2,ih]
  ·have h1:y<x:=UInt8.lt_iff_toNat_lt.2 h;have h2:¬x<y:=fun h'=>by have:=UInt8.lt_iff_toNat_lt.1 h';omega
   have h3:x≠y:=fun e=>by subst e;omega
   simp [Op.bytesLess,h1,h2,h3]
section
variable {P:Program} {F:Fr} {s:AS} {d:Nat} {ty T T':TypeId} {pos:String} {aft:Array Edge} {g:Option (Nat×Bool)} {x y:Operand}
theorem GA {a b:ByteArray} (hx:s.ev x=some (.d (.raw (.string a)))) (hy:s.ev y=some (.d (.raw (.string b)))) (hd:Nat.blt d s.n=true):AA P F ⟨some d,.binOp .gtr T x y T',ty,pos,aft,g⟩ s d (.d (.raw (.bool (Op.bytesLess b.toList a.toList)))):=
 Bt _ hd fun _ act _ hs=>⟨.bool (Op.bytesLess b.toList a.toList),by simp [execOp,eqGuard,binOp,Op.stringOp,hs.raw hx,hs.raw hy,GH a.toList b.toList],.d (.raw rfl)⟩
theorem Q2 {a b:D} {la lb:List Value} {ds:List TypeDesc} {t:Bool} (hf:Ce P 8 T=some ds) (hs:FH P T=true) (hg:P.eqGuardType P.depth T=false) (hx:s.ev x=some (.d a)) (hy:s.ev y=some (.d b)) (ha:a.val? =some (.agg la.toArray)) (hb:b.val? =some (.agg lb.toArray)) (p1:Ar ds la) (p2:Ar ds lb) (ht:BD la lb=t) (hd:Nat.blt d s.n=true):
  AA P F ⟨some d,.binOp .eql T x y T',ty,pos,aft,g⟩ s d (.d (.raw (.bool t))):=
 Bt _ hd fun ρ act w hs'=>by
  have e1:=(hs'.repD hx).val ha;have e2:=(hs'.repD hy).val hb;have:=DT 8 T ds hf 9992 la lb p1 p2 w;simp only [KC,hs,ht] at this;exact ⟨.bool t,by simp [execOp,e1,e2,run_eqGuard_agg w .eql T x y _ _ hg,run_eql_struct,this,Result.andThen],.d (.raw rfl)⟩
theorem MJ {a b:D} {la lb:List Value} {ds:List TypeDesc} {t:Bool} (hf:Ce P 8 T=some ds) (hs:FH P T=true) (hg:P.eqGuardType P.depth T=false) (hx:s.ev x=some (.d a)) (hy:s.ev y=some (.d b)) (ha:a.val? =some (.agg la.toArray)) (hb:b.val? =some (.agg lb.toArray)) (p1:Ar ds la) (p2:Ar ds lb) (ht:(!BD la lb)=t) (hd:Nat.blt d s.n=true):
  AA P F ⟨some d,.binOp .neq T x y T',ty,pos,aft,g⟩ s d (.d (.raw (.bool t))):=
 Bt _ hd fun ρ act w hs'=>by
  have e1:=(hs'.repD hx).val ha;have e2:=(hs'.repD hy).val hb;have:=DT 8 T ds hf 9992 la lb p1 p2 w;simp only [KC,hs] at this;exact ⟨.bool t,by simp [execOp,e1,e2,run_eqGuard_agg w .neq T x y _ _ hg,run_neq_struct,this,ht,Result.andThen],.d (.raw rfl)⟩
end
section
variable {P:Program} {F:Fr} {s:AS} {d:Nat} {ty T T' E:TypeId} {pos:String} {aft:Array Edge} {g:Option (Nat×Bool)} {at_:Array TypeId} {x:Operand}
def Dt (P:Program) (T:TypeId):Bool:=match P.underlying T with
 | some (.interface _)=>false
 | some _=>true
 | none=>false
theorem Dq {w:World} {v:Value} (h:Dt P T=true):(Instr.makeInterface T v).run P w= .ok (.iface T v) w:=by
 unfold Dt at h
 split at h
 ·cases h
 ·rename_i u hne hu
  unfold Instr.makeInterface;simp only [Sem.run_bind,run_underlying hu,Result.andThen_ok]
  cases u<;>first | rfl | exact absurd rfl (hne _)
 ·cases h
theorem LK {f i:Nat} (hT:Dt P T=true) (hx:s.ev x=some (.ptr f i 0)) (hd:Nat.blt d s.n=true):
  AA P F ⟨some d,.makeInterface T x,ty,pos,aft,g⟩ s d (.ifc T none f i):=
 Bt _ hd fun ρ act w hs=>by
  have hr:=hs.ev hx
  generalize hv:act.eval x=v at hr
  cases hr with
  | @ptr _ _ _ b h=>exact ⟨.iface T (.pointer (some ⟨b,0,none⟩)),by simp [execOp,hv,Dq hT],.ifc (nm:=none) h⟩
theorem Jz {v:Value} (hT:Dt P T=true) (hx:s.ev x=some (.d (.raw v))) (hd:Nat.blt d s.n=true):
  AA P F ⟨some d,.makeInterface T x,ty,pos,aft,g⟩ s d (.d (.raw (.iface T v))):=
 Bt _ hd fun ρ act w hs=>by
  have hr:=hs.raw hx;exact ⟨.iface T v,by simp [execOp,hr,Dq hT],.d (.raw rfl)⟩
theorem JJ {w:World} {v:Value} (h:Dt P T=true):(Instr.typeAssert (.iface T v) T' T false).run P w= .ok v w:=by
 unfold Dt at h
 split at h
 ·cases h
 ·rename_i u hne hu
  unfold Instr.typeAssert;simp only [Sem.run_bind,run_underlying hu,Result.andThen_ok]
  cases u<;>first | exact absurd rfl (hne _) | simp
 ·cases h
end
theorem SR.ghost {F:Fr} {s:AS} {ρ:Nat ->Nat ->Value} {act:Act} {w:World} (h:SR F s ρ act w) (g f i:Nat) (hne:Nat.beq f g=false) {env':List (Nat×AV)} {hp1 hp':Hp} (hE:AO g s.env=some env') (hH:AN g s.hp=some hp1) (hn:CE hp1 g (.addr f i (ρ f i))=some hp'):
  SR F ⟨s.n,env',hp'⟩ (Da ρ g 0 .nilFunc) act w:=by
 obtain ⟨h1,h2⟩:=Ev hn
 refine h.set g 0 (.addr f i (ρ f i)) .nilFunc hE hH h1 (fun t cs hh=>?_) (fun b hb=>by cases hb) Z Z Z (Nat.le_refl _) (fun _ _ _=>rfl) fun _=>⟨rfl,I0 fun e=>(Nat.ne_of_beq_eq_false hne) e.1⟩
 obtain ⟨_,k2⟩:=A9 hH;obtain ⟨o,ho,_⟩:=k2 _ _ _ hh;rw [h2] at ho;cases ho
section
variable {P:Program} {F:Fr} {Q:Exit ->AS ->Prop} {c:Code} {ops:Array Oper} {l:List Oper} {n:Nat} {env env':List (Nat×AV)} {hp hp1:Hp}
theorem DF (g f i:Nat) {t:TypeId} {cs:List AV} (ho:hget hp f i=some (.blk t cs)) (hne:Nat.beq f g=false) (hE:AO g env=some env') (hH:AN g hp=some hp1) (hz:hfam hp1 g=none)
  (h:∀b:Nat,B9 P F c Q ⟨n,env',(g,[.addr f i (.pointer (some ⟨b,0,none⟩))])::hp1⟩):B9 P F c Q ⟨n,env,hp⟩:=fun ρ act w hs=>by
 obtain ⟨b,_,e,_⟩:=hs.heap.sim f i _ ho;exact h b _ act w (hs.ghost g f i hne hE hH (by rw [e];unfold CE;rw [hz];rfl))
end
section
variable {P:Program} {F:Fr} {Q:Exit ->AS ->Prop} {c:Code} {ops:Array Oper} {l:List Oper} {n:Nat} {env env':List (Nat×AV)} {hp hp1:Hp}
end
section
variable {P:Program} {F:Fr} {s:AS} {d:Nat} {ty T:TypeId} {pos:String} {aft:Array Edge} {g:Option (Nat×Bool)} {x:Operand}
end
abbrev pV (b off:Nat):Value:= .pointer (some ⟨b,off,none⟩)
abbrev pD (b off:Nat):D:= .raw (pV b off)
abbrev sV (b n cap:Nat):Value:= .slice (some ⟨b,0,none⟩) n cap
abbrev MF:=Nat ->Option A7
def BU (M:MF) (b:Nat) (m:A7):MF:=fun i=>if i=b then some m else M i
def IQ (M:MF) (b:Nat):MF:=fun i=>if i=b then none else M i
theorem D9 (M:MF) (b:Nat) (m:A7):BU M b m b=some m:=by unfold BU;rw [if_pos rfl]
theorem ER {M:MF} {b i:Nat} {m:A7} (h:i≠b):BU M b m i=M i:=by unfold BU;rw [if_neg h]
theorem Ki (M:MF) (b:Nat):IQ M b b=none:=by unfold IQ;rw [if_pos rfl]
theorem HO {M:MF} {b i:Nat} (h:i≠b):IQ M b i=M i:=by unfold IQ;rw [if_neg h]
def BC:Hp ->Nat ->MF ->Option Hp
 | [],_,_=>none
 | (k,l)::r,f,M=>match Nat.beq k f with
  | true=>match isM l with
   | some _=>some ((k,[.multi M])::r)
   | none=>none
  | false=>match BC r f M with
   | none=>none
   | some r'=>some ((k,l)::r')
theorem ES {hp:Hp} {f:Nat} {M:MF} (h:hfam hp f=some [.multi M]) (b:Nat):hget hp f b=(M b).map (A7.at_ b):=by unfold hget;rw [h];rfl
theorem By {hp hp':Hp} {f:Nat} {M':MF} (h:BC hp f M'=some hp'):∀g i,hget hp' g i=if g=f then (M' i).map (A7.at_ i) else hget hp g i:=by
 induction hp generalizing hp' with
 | nil=>simp [BC] at h
 | cons p r ih=>
  obtain ⟨k,l⟩:=p;simp only [BC] at h
  split at h
  ·rename_i hk
   have hk':=Nat.eq_of_beq_eq_true hk;subst hk'
   split at h
   ·injection h with h;subst h
    intro g i
    by_cases e:k=g
    ·subst e;rw [if_pos rfl];simp only [hget,hfam,Nat.beq_refl,Option.bind_some,gl,isM]
    ·rw [if_neg (fun h=>e h.symm)];simp only [hget,hfam,D8 e]
   ·cases h
  ·rename_i hk
   have hk':=Nat.ne_of_beq_eq_false hk
   split at h
   ·cases h
   ·rename_i r' hr
    injection h with h;subst h
    intro g i
    by_cases e:k=g
    ·subst e;rw [if_neg hk'];simp only [hget,hfam,Nat.beq_refl]
    ·have:=ih hr g i;simp only [hget,hfam,D8 e] at this⊢;exact this
theorem SR.writeM {F:Fr} {s:AS} {ρ:Nat ->Nat ->Value} {act:Act} {w w':World} (h:SR F s ρ act w) (f b:Nat) {M:MF} {m m':A7} {hp':Hp} (hM:hfam s.hp f=some [.multi M]) (hb:M b=some m) (hh:BC s.hp f (BU M b m')=some hp') (hos:w'.os=w.os) (htape:w'.tape=w.tape) (hout:w'.output=w.output) (hs:w'.heap.size=w.heap.size)
  (hk:∀b',b'≠b ->w'.heap[b']? =w.heap[b']?) (hv:BK (ρ f b)=some b) (hsim:(∀A v,AP w (F.O ρ s.hp) ρ A v ->AP w' (F.O ρ hp') ρ A v) ->Ab w' (F.O ρ hp') ρ (m'.at_ b) (ρ f b)) (hdr:w.drawn≤w'.drawn:=by exact Nat.le_refl _):SR F ⟨s.n,s.env,hp'⟩ ρ act w':=by
 refine h.write f b (m.at_ b) (m'.at_ b) (by rw [ES hM,hb];rfl) (fun g i=>?_) hos htape hout hs (fun b' hb'=>hk b' fun e=>hb' (by rw [hv,e])) (fun t cs e=>absurd e A7.notBlk) hsim hdr;rw [By hh]
 by_cases e:g=f
 ·subst e;rw [if_pos rfl,ES hM]
  by_cases e2:i=b
  ·subst e2;rw [if_pos ⟨rfl,rfl⟩,D9];rfl
  ·rw [if_neg (fun h=>e2 h.2),ER e2]
 ·rw [if_neg e,if_neg (fun h=>e h.1)]
theorem SR.writeN {F:Fr} {s:AS} {ρ:Nat ->Nat ->Value} {act:Act} {w w':World} (h:SR F s ρ act w) (f b:Nat) {M:MF} {m m':A7} {hp':Hp} (hM:hfam s.hp f=some [.multi M]) (hb:M b=some m) (hh:BC s.hp f (BU M b m')=some hp') (hos:w'.os=w.os) (htape:w'.tape=w.tape) (hout:w'.output=w.output) (hs:w'.heap.size=w.heap.size)
  (hk:∀b',b'≠b ->w'.heap[b']? =w.heap[b']?) (hv:ρ f b=pV b 0) (hsim:(∀A v,AP w (F.O ρ s.hp) ρ A v ->AP w' (F.O ρ hp') ρ A v) ->Ab w' (F.O ρ hp') ρ (m'.at_ b) (ρ f b)) (hdr:w.drawn≤w'.drawn:=by exact Nat.le_refl _):SR F ⟨s.n,s.env,hp'⟩ ρ act w':=
 h.writeM f b hM hb hh hos htape hout hs hk (by rw [hv];rfl) hsim hdr
theorem SR.cellsN {F:Fr} {s:AS} {ρ:Nat ->Nat ->Value} {act:Act} {w:World} (h:SR F s ρ act w) {f b:Nat} {M:MF} {t:TypeId} {cs:List D} (hM:hfam s.hp f=some [.multi M]) (hb:M b=some (.cells t cs)):ρ f b=pV b 0∧∃us:List Value,w.heap[b]? =some (.cells us.toArray t (0,0))∧us.length=cs.length∧(∀(j:Nat) c u,cs[j]? =some c ->us[j]? =some u ->AM w (F.O ρ s.hp) c u)∧∀u∈us,u.oneCell'=true:=
 h.heap.sim f b (.nb b t cs) (by rw [ES hM,hb];rfl)
theorem SR.rowN {F:Fr} {s:AS} {ρ:Nat ->Nat ->Value} {act:Act} {w:World} (h:SR F s ρ act w) {f b:Nat} {M:MF} {t:TypeId} {k cap:Nat} {xs:List D} (hM:hfam s.hp f=some [.multi M]) (hb:M b=some (.row t k cap xs)):ρ f b=pV b 0∧∃us:List Value,w.ownsRow 0 t k (sV b xs.length cap) xs.length us∧FY D.cells k (AM w (F.O ρ s.hp)) xs us∧∀x∈xs,∀c∈x.cells,c.one=true:=
 h.heap.sim f b (.nr b t k cap xs) (by rw [ES hM,hb];rfl)
section
variable {P:Program} {F:Fr} {s:AS} {d:Nat} {x y:Operand} {T E:TypeId} {ty:TypeId} {pos:String} {aft:Array Edge} {g:Option (Nat×Bool)} {k:IntKind} {i:Int}
theorem GS {b off:Nat} (hx:s.ev x=some (.d (pD b off))) (hd:Nat.blt d s.n=true):AA P F ⟨some d,.nilCheck x,ty,pos,aft,g⟩ s d (.d (pD b off)):=
 Bt _ hd fun _ act w hs=>⟨pV b off,by simp [execOp,hs.raw hx],.d (.raw rfl)⟩
theorem A1 {b off off' o n i:Nat} {r:Bool} (hx:s.ev x=some (.d (pD b off))) (hf:Af P T i=some (o,n,r)) (hn:Nat.blt 0 n=true) (ho:off+o=off') (hd:Nat.blt d s.n=true):
  AA P F ⟨some d,.fieldAddr T x i,ty,pos,aft,g⟩ s d (.d (pD b off')):=
 Bt _ hd fun ρ act w hs=>by
  have h:=hs.raw hx;subst ho;exact ⟨pV b (off+o),by simp [execOp,h,Cw hf hn],.d (.raw rfl)⟩
theorem Gi {f b off:Nat} {M:MF} {t:TypeId} {cs:List D} {c:D} (hx:s.ev x=some (.d (pD b off))) (hM:hfam s.hp f=some [.multi M]) (hb:M b=some (.cells t cs)) (hc:cs[off]? =some c) (hT:Bj P T=true) (hd:Nat.blt d s.n=true):
  AA P F ⟨some d,.load T x,ty,pos,aft,g⟩ s d (.d c):=
 Bt _ hd fun ρ act w hs=>by
  have hrx:=hs.raw hx;obtain ⟨_,us,h1,h2,h3,h4⟩:=hs.cellsN hM hb;have hlt:off<us.length:=by rw [h2];exact (List.getElem?_eq_some_iff.1 hc).1
  have hcell:w.cell? ⟨b,off,none⟩=some us[off]:=by
   rw [cell_of_row w b off us.toArray t (0,0) h1];simp [hlt]
  exact ⟨us[off],by simp [execOp,hrx,Instr.loadAt,Instr.sureAddr,loadVar,Cl hT,hcell],.d (h3 off c _ hc (List.getElem?_eq_getElem hlt))⟩
theorem ID {a:Option Addr} {n cap:Nat} (hx:s.ev x=some (.d (.raw (.slice a n cap)))) (hT:P.underlying T=some (.slice E)) (hd:Nat.blt d s.n=true):
  AA P F ⟨some d,.call {callee:= .builtin .len,args:= #[x],argTypes:= #[T]},ty,pos,aft,g⟩ s d (.d (.raw (.int .i64 (n:Int)))):=
 Bt _ hd fun _ act w hs=>⟨_,by simp [execOp,resolve,invoke,builtin,Builtin.len_,run_underlying hT,hs.raw hx,goInt],.d (.raw rfl)⟩
theorem E3 {b n cap kk:Nat} (m:Nat) (hx:s.ev x=some (.d (.raw (sV b n cap)))) (hy:s.ev y=some (.d (.raw (.int k i)))) (hi:i=(m:Int)) (hm:m<n) (hT:P.underlying T=some (.slice E)) (hE:Aj P E kk=true) (hd:Nat.blt d s.n=true):
  AA P F ⟨some d,.indexAddr T x y,ty,pos,aft,g⟩ s d (.d (pD b (m*kk))):=
 Bt _ hd fun ρ act w hs=>by
  have hrx:=hs.raw hx;subst hi;exact ⟨pV b (m*kk),by simp [execOp,Instr.indexAt,asIntOf,hs.raw hy,hrx,run_underlying hT,hm,Zcl (Ow hE),Addr.add_mid],.d (.raw rfl)⟩
theorem Zcs {f b off kk e cap:Nat} {M:MF} {t:TypeId} {xs:List D} {z c:D} {p:Nat} (hx:s.ev x=some (.d (pD b p))) (hp:p=e*kk+off) (hM:hfam s.hp f=some [.multi M]) (hb:M b=some (.row t kk cap xs)) (hz:xs[e]? =some z) (hc:z.cells[off]? =some c) (hT:Bj P T=true) (hd:Nat.blt d s.n=true):
  AA P F ⟨some d,.load T x,ty,pos,aft,g⟩ s d (.d c):=
 Bt _ hd fun ρ act w hs=>by
  subst hp;have hrx:=hs.raw hx;obtain ⟨_,us,h1,h2,h3⟩:=hs.rowN hM hb;obtain ⟨g1,g2⟩:=h1;have hlt:e<xs.length:=(List.getElem?_eq_some_iff.1 hz).1;rcases g2 with ⟨e1,_⟩ | ⟨b',cap',cur,e1,_,h6,h7,h8,h9,h10⟩
  ·cases e1
  ·injection e1 with e2 e3 e4;injection e2 with e2;injection e2 with e2;subst e2
   obtain ⟨u,h11,h12,h13⟩:=h2.2.2 e z hz off c hc;have hcell:=Cx h6 h10 h11;exact ⟨u,by simp [execOp,hrx,Instr.loadAt,Instr.sureAddr,loadVar,Cl hT,hcell],.d h13⟩
theorem PG {n:Nat} {env:List (Nat×AV)} {hp hp':Hp} {f b off:Nat} {M:MF} {t:TypeId} {cs:List D} {v:D} (hx:AS.ev ⟨n,env,hp⟩ x=some (.d (pD b off))) (hy:AS.ev ⟨n,env,hp⟩ y=some (.d v)) (hv:v.one=true) (hM:hfam hp f=some [.multi M]) (hb:M b=some (.cells t cs)) (hoff:off<cs.length)
  (hh:BC hp f (BU M b (.cells t (cs.set off v)))=some hp') (hT:Aj P T 1=true):AK P F ⟨none,.store T x y,ty,pos,aft,g⟩ ⟨n,env,hp⟩ ⟨n,env,hp'⟩ (fun _ _=>true):=fun ρ act w hs=>by
 have hrx:=hs.raw hx;have hry:=hs.repD hy;obtain ⟨hρ,us,h1,h2,h3,h4⟩:=hs.cellsN hM hb
 generalize hvy:act.eval y=vy at hry
 have hone:=hry.oneCell hv;have hcl:vy.cells.toList=[vy]:=by cases vy<;>first | rfl | cases hone
 have hrun:=Cp (P:=P) (T:=T) (o:=off) (v:=vy) h1 (by rw [hcl];exact Ow hT) (by rw [hcl];simp only [List.length_singleton];omega) (by rw [hcl];intro u hu;rw [List.mem_singleton.1 hu];exact hone)
 have hex:(execOp act.eval ⟨none,.store T x y,ty,pos,aft,g⟩).run P w= .ok .skip (w.setCells b off vy.cells.toList):=by
  simp [execOp,hrx,hvy,hrun]
 unfold Oper.wp;rw [hex];obtain ⟨g1,g2,g3,g4⟩:=Zcp (b:=b) vy.cells.toList off w;refine ⟨ρ,hs.writeN f b hM hb hh g1 g2 g3 g4 (fun b' hb'=>Zcb _ _ _ _ hb') hρ (fun hrep=>?_) (Nat.le_of_eq (C7 _ _ _ _).symm),fun _ _ _=>rfl⟩;rw [hρ]
 have hrepD:∀(c:D) u,AM w (F.O ρ hp) c u ->AM (w.setCells b off vy.cells.toList) (F.O ρ hp') c u:=fun c u h=>by
  have:=hrep (.d c) u (.d h)
  cases this with | d h=>exact h
 refine ⟨rfl,setL us off vy.cells.toList,Zcc _ _ _ _ h1,by rw [OX,List.length_set];exact h2,fun j c u hc hu=>?_,fun u hu=>?_⟩
 ·rw [QJ _ _ _ (by rw [hcl];simp only [List.length_singleton];omega),hcl] at hu;rw [List.getElem?_set] at hc
  by_cases e:off=j
  ·subst e;rw [if_pos rfl,if_pos hoff] at hc;rw [if_pos (by simp only [List.length_singleton];omega),Nat.sub_self] at hu;injection hc with hc;subst hc
   simp at hu;subst hu
   exact hrepD _ _ hry
  ·rw [if_neg e] at hc;rw [if_neg (by simp only [List.length_singleton];omega)] at hu;exact hrepD _ _ (h3 j c u hc hu)
 ·obtain ⟨j,hj,rfl⟩:=List.getElem_of_mem hu;have hj2:=List.getElem?_eq_getElem hj;rw [QJ _ _ _ (by rw [hcl];simp only [List.length_singleton];omega)] at hj2
  split at hj2
  ·have h6:∀q∈vy.cells.toList,q.oneCell'=true:=by rw [hcl];intro q hq;rw [List.mem_singleton.1 hq];exact hone
   exact h6 _ (List.mem_of_getElem? hj2)
  ·exact h4 _ (List.mem_of_getElem? hj2)
end
theorem SR.move {F:Fr} {s:AS} {ρ:Nat ->Nat ->Value} {act:Act} {w:World} (hs:SR F s ρ act w) (f1 i1 f2 i2:Nat) {o1 o2:AJ} {v2:Value} {env':List (Nat×AV)} {hp':Hp}
  (h1:hget s.hp f1 i1=some o1) (hn2:hget s.hp f2 i2=none) (hv:BK v2=BK (ρ f1 i1)) (hp1:F.pin f1 i1=none)
  (ha:∀f i o',hget hp' f i=some o' ->(f=f2∧i=i2∧o'=o2)∨(¬(f=f2∧i=i2)∧¬(f=f1∧i=i1)∧∃o,hget s.hp f i=some o∧(∀w O ρ v,Ab w O ρ o v ->Ab w O ρ o' v)∧¬o'.Refs f2 i2))
  (hb:hget hp' f2 i2=some o2) (hc:∀f i t cs,hget s.hp f i=some (.blk t cs) ->¬(f=f1∧i=i1) ->∃cs',hget hp' f i=some (.blk t cs'))
  (hcc:∀f i o,hget s.hp f i=some o ->¬(f=f1∧i=i1) ->∃o',hget hp' f i=some o')
  (hE:∀t a,get env' t=some a ->AP w (F.O ρ s.hp) ρ a (act.tmps.getD t undef)∧¬a.Refs f2 i2)
  (hsim:Ab w (F.O ρ s.hp) (Da ρ f2 i2 v2) o2 v2):SR F ⟨s.n,env',hp'⟩ (Da ρ f2 i2 v2) act w:=by
 have hown:∀b,Al (Da ρ f2 i2 v2) hp' b↔Al ρ s.hp b:=fun b=>by
  constructor
  ·rintro ⟨f,i,o',ho,hbk⟩;rcases ha f i o' ho with ⟨rfl,rfl,rfl⟩ | ⟨e2,_,o,h3,_⟩
   ·rw [Jp,hv] at hbk;exact ⟨f1,i1,o1,h1,hbk⟩
   ·rw [I0 e2] at hbk;exact ⟨f,i,o,h3,hbk⟩
  ·rintro ⟨f,i,o,ho,hbk⟩
   by_cases e:f=f1∧i=i1
   ·obtain ⟨rfl,rfl⟩:=e;exact ⟨f2,i2,o2,hb,by rw [Jp,hv];exact hbk⟩
   ·have e2:¬(f=f2∧i=i2):=fun e2=>by rw [e2.1,e2.2,hn2] at ho;cases ho
    obtain ⟨o',h3⟩:=hcc f i o ho e;exact ⟨f,i,o',h3,by rw [I0 e2];exact hbk⟩
 have hO:F.O (Da ρ f2 i2 v2) hp'=F.O ρ s.hp:=funext fun b=>propext ⟨fun h=>h.imp id (hown b).1,fun h=>h.imp id (hown b).2⟩;have href:∀(f i:Nat),¬(f=f2∧i=i2) ->Da ρ f2 i2 v2 f i=ρ f i:=fun f i e=>I0 e;refine ⟨hs.size,hO▸hs.defs,fun t a hta=>?_,?_⟩
 ·obtain ⟨h3,h4⟩:=hE t a hta;show AP w (F.O (Da ρ f2 i2 v2) hp') _ _ _;rw [hO];exact h3.mono (Nat.le_refl _) (fun _ _ _=>rfl) (fun _ _ h=>h) fun f i hr=>href f i fun e=>h4 (by rw [←e.1,←e.2];exact hr)
 ·refine ⟨fun f i o' ho=>?_,fun f i f' i' o o' b ho ho' hbk hbk'=>?_,fun b hbk=>hs.heap.mine b ((hown b).1 hbk),hs.heap.os,hs.heap.tape,hs.heap.output,hs.heap.size0,hs.heap.keep,fun f i b hpin=>?_,hs.heap.drawn⟩
  ·show Ab w (F.O (Da ρ f2 i2 v2) hp') _ _ _;rw [hO];rcases ha f i o' ho with ⟨rfl,rfl,rfl⟩ | ⟨e2,_,o,h3,h4,h5⟩
   ·rw [Jp];exact hsim
   ·rw [I0 e2];exact (h4 _ _ _ _ (hs.heap.sim f i o h3)).mono (Nat.le_refl _) (fun _ _ _=>rfl) (fun _ _ h=>h) (fun _ _=>rfl) fun f' i' hr=>href f' i' fun e=>h5 (by rw [←e.1,←e.2];exact hr)
  ·rcases ha f i o ho with ⟨rfl,rfl,_⟩ | ⟨e2,e3,q,h3,_⟩<;>rcases ha f' i' o' ho' with ⟨rfl,rfl,_⟩ | ⟨e2',e3',q',h3',_⟩
   ·exact ⟨rfl,rfl⟩
   ·rw [Jp,hv] at hbk;rw [I0 e2'] at hbk';exact absurd (hs.heap.inj f' i' f1 i1 q' o1 b h3' h1 hbk' hbk) e3'
   ·rw [Jp,hv] at hbk';rw [I0 e2] at hbk;exact absurd (hs.heap.inj f i f1 i1 q o1 b h3 h1 hbk hbk') e3
   ·rw [I0 e2] at hbk;rw [I0 e2'] at hbk';exact hs.heap.inj f i f' i' q q' b h3 h3' hbk hbk'
  ·obtain ⟨a1,t,cs,a2⟩:=hs.heap.pins f i b hpin;have e1:¬(f=f1∧i=i1):=fun e=>by rw [e.1,e.2,hp1] at hpin;cases hpin
   have e2:¬(f=f2∧i=i2):=fun e=>by rw [e.1,e.2,hn2] at a2;cases a2
   obtain ⟨cs',h3⟩:=hc f i t cs a2 e1;exact ⟨by rw [I0 e2];exact a1,t,cs',h3⟩
theorem JR {F:Fr} {pn:List Nat} {g i:Nat} (hF:F.pn=pn) (h:memB g pn=false):F.pin g i=none:=by
 cases hh:F.pin g i with
 | none=>rfl
 | some b=>
  have:=FX.2 (hF▸F.hpn g i b hh);rw [h] at this;cases this
theorem SR.absorb {F:Fr} {s:AS} {ρ:Nat ->Nat ->Value} {act:Act} {w:World} (hs:SR F s ρ act w) (t g f:Nat) {M:MF} {T:TypeId} {cs:List AV} {ds:List D} {pn:List Nat} {env1 env':List (Nat×AV)} {hp1 hp2 hp3:Hp} {hp':Nat ->Hp} (hF:F.pn=pn) (hpn:memB g pn=false) (hne:Nat.beq g f=false)
  (ht:get s.env t=some (.ptr g 0 0)) (hone:hfam s.hp g=some [.blk T cs]) (hcs:cs=ds.map .d) (hM:hfam s.hp f=some [.multi M]) (hE:AO g s.env=some env1) (hE2:AO f env1=some env') (hH:AN g s.hp=some hp1) (hH2:AN f hp1=some hp2) (hh:B8 g hp2=some hp3) (hm:∀b,BC hp3 f (BU M b (.cells T ds))=some (hp' b)):
  ∃b,M b=none∧SR F ⟨s.n,(t,.d (pD b 0))::env',hp' b⟩ (Da ρ f b (pV b 0)) act w:=by
 subst hcs;have hgf:g≠f:=Nat.ne_of_beq_eq_false hne;have ho:hget s.hp g 0=some (.blk T (ds.map .d)):=by unfold hget;rw [hone];rfl
 obtain ⟨b,us,hρ,k1,k2,k3,k4⟩:=hs.heap.sim g 0 _ ho
 have hMb:M b=none:=by
  cases hmb:M b with
  | none=>rfl
  | some m=>
   have h2:hget s.hp f b=some (m.at_ b):=by rw [ES hM,hmb];rfl
   have hv:BK (ρ f b)=some b:=by
    have:=hs.heap.sim f b _ h2
    cases m with
    | cells _ _=>rw [this.1];rfl
    | row _ _ _ _=>rw [this.1];rfl
    | map _ _=>rw [this.1];rfl
   exact absurd (hs.heap.inj g 0 f b _ _ b ho h2 (by rw [hρ];rfl) hv).1 hgf
 refine ⟨b,hMb,?_⟩;obtain ⟨a1,a2⟩:=A9 hH;obtain ⟨c1,c2⟩:=A9 hH2;have hd:=Ew hh;have hg':=By (hm b);have hfam3:∀i,hget hp3 f i=hget hp2 f i:=fun i=>by rw [hd,if_neg (fun e=>hgf e.symm)]
 refine hs.move g 0 f b ho (by simp only [ES hM,hMb,Option.map_none]) (by rw [hρ]) (JR hF hpn) (fun f' i o' hq=>?_) (by rw [hg',if_pos rfl,D9];rfl) (fun f' i t' cs' hq hne'=>?_) (fun f' i o hq hne'=>?_) (fun t' a ha=>?_) ?_
 ·rw [hg'] at hq
  by_cases e:f'=f
  ·subst e;rw [if_pos rfl] at hq
   by_cases e2:i=b
   ·subst e2;rw [D9] at hq;injection hq with hq
    exact .inl ⟨rfl,rfl,hq.symm⟩
   ·rw [ER e2] at hq;refine .inr ⟨fun h=>e2 h.2,fun h=>hgf h.1.symm,o',by rw [ES hM];exact hq,fun _ _ _ _ h=>h,?_⟩
    cases hmi:M i with
    | none=>rw [hmi] at hq;cases hq
    | some m=>rw [hmi] at hq;injection hq with hq;subst hq;exact A7.norefs
  ·rw [if_neg e,hd] at hq
   split at hq
   ·cases hq
   ·rename_i e3
    obtain ⟨o2,q1,q2⟩:=c1 _ _ _ hq;obtain ⟨o3,q3,q4⟩:=a1 _ _ _ q1;exact .inr ⟨fun h=>e h.1,fun h=>e3 h.1,o3,q3,fun w O ρ v h=>q2.1 _ _ _ _ (q4.1 _ _ _ _ h),fun hr=>Lt (q2.2.1 _ _ hr) rfl⟩
 ·have e1:f'≠f:=fun e=>by
   subst e;rw [ES hM] at hq
   cases hmi:M i with
   | none=>rw [hmi] at hq;cases hq
   | some m=>rw [hmi] at hq;injection hq with hq;exact A7.notBlk hq
  obtain ⟨o2,q1,q2⟩:=a2 _ _ _ hq;obtain ⟨cs2,rfl⟩:=q2.2.2.1 _ _ rfl;obtain ⟨o3,q3,q4⟩:=c2 _ _ _ q1;obtain ⟨cs3,rfl⟩:=q4.2.2.1 _ _ rfl;refine ⟨cs3,?_⟩;rw [hg',if_neg e1,hd,if_neg]
  ·exact q3
  ·rintro rfl
   have:i=0:=by
    unfold hget at hq;rw [hone] at hq
    match i,hq with
    | 0,_=>rfl
    | i+1,hq=>cases hq
   exact hne' ⟨rfl,this⟩
 ·by_cases e:f'=f
  ·subst e
   by_cases e2:i=b
   ·subst e2;rw [ES hM,hMb] at hq;cases hq
   ·exact ⟨o,by rw [hg',if_pos rfl,ER e2,←ES hM];exact hq⟩
  ·obtain ⟨o2,q1,q2⟩:=a2 _ _ _ hq;obtain ⟨o3,q3,q4⟩:=c2 _ _ _ q1;refine ⟨o3,?_⟩;rw [hg',if_neg e,hd,if_neg]
   ·exact q3
   ·rintro rfl
    have:i=0:=by
     unfold hget at hq;rw [hone] at hq
     match i,hq with
     | 0,_=>rfl
     | i+1,hq=>cases hq
    exact hne' ⟨rfl,this⟩
 ·rcases Is ha with ⟨rfl,rfl⟩ | ⟨_,ha⟩
  ·have hr:=hs.env t _ ht
   generalize act.tmps.getD t undef=x at hr
   cases hr with
   | @ptr _ _ _ b' hb'=>
    rw [hρ] at hb';injection hb' with hb';injection hb' with hb';injection hb' with hb';subst hb'
    exact ⟨.d (.raw rfl),fun h=>by cases h⟩
  ·rcases Ax hE2 ha with rfl | ⟨h3,h4⟩
   ·exact ⟨.top,fun h=>by cases h⟩
   ·rcases Ax hE h3 with rfl | ⟨h5,_⟩
    ·exact ⟨.top,fun h=>by cases h⟩
    ·exact ⟨hs.env t' _ h5,h4 b⟩
 ·refine ⟨rfl,us,k1,by rw [k2,List.length_map],fun j c u hc hu=>?_,k4⟩;have:=k3 j (.d c) u (by rw [List.getElem?_map,hc];rfl) hu
  cases this with | d h=>exact h
theorem A7.val {F:Fr} {s:AS} {ρ:Nat ->Nat ->Value} {act:Act} {w:World} (hs:SR F s ρ act w) {f b:Nat} {M:MF} {m:A7} (hM:hfam s.hp f=some [.multi M]) (hb:M b=some m):BK (ρ f b)=some b:=by
 have h2:hget s.hp f b=some (m.at_ b):=by rw [ES hM,hb];rfl
 have:=hs.heap.sim f b _ h2
 cases m with
 | cells _ _=>rw [this.1];rfl
 | row _ _ _ _=>rw [this.1];rfl
 | map _ _=>rw [this.1];rfl
def A7.v (i:Nat):A7 ->Value
 | .map _ _=> .map (some i)
 | _=>pV i 0
theorem A7.v_blk {i:Nat} {m:A7}:BK (m.v i)=some i:=by cases m<;>rfl
theorem A7.valE {F:Fr} {s:AS} {ρ:Nat ->Nat ->Value} {act:Act} {w:World} (hs:SR F s ρ act w) {f b:Nat} {M:MF} {m:A7} (hM:hfam s.hp f=some [.multi M]) (hb:M b=some m):ρ f b=m.v b:=by
 have h2:hget s.hp f b=some (m.at_ b):=by rw [ES hM,hb];rfl
 have:=hs.heap.sim f b _ h2
 cases m with
 | cells _ _=>exact this.1
 | row _ _ _ _=>exact this.1
 | map _ _=>exact this.1
theorem idx0 {hp:Hp} {g i:Nat} {o q:AJ} (hone:hfam hp g=some [o]) (hm:Ny o=true) (h:hget hp g i=some q):i=0:=by
 unfold hget at h;rw [hone] at h;have h2:[o][i]? =some q:=by rw [←Ho hm];exact h
 match i,h2 with
 | 0,_=>rfl
 | i+1,h2=>cases h2
theorem moved {hp hp1 hp2 hp3 hp':Hp} {g f b:Nat} {M:MF} {m:A7} {o:AJ} (hgf:g≠f) (hone:hfam hp g=some [o]) (hnm:Ny o=true) (hM:hfam hp f=some [.multi M]) (hMb:M b=none) (hH:AN g hp=some hp1) (hH2:AN f hp1=some hp2) (hh:B8 g hp2=some hp3) (hm:BC hp3 f (BU M b m)=some hp'):
  (∀f' i o',hget hp' f' i=some o' ->(f'=f∧i=b∧o'=m.at_ b)∨(¬(f'=f∧i=b)∧¬(f'=g∧i=0)∧∃o,hget hp f' i=some o∧(∀w O ρ v,Ab w O ρ o v ->Ab w O ρ o' v)∧¬o'.Refs f b))∧hget hp' f b=some (m.at_ b)∧
  (∀f' i t cs,hget hp f' i=some (.blk t cs) ->¬(f'=g∧i=0) ->∃cs',hget hp' f' i=some (.blk t cs'))∧(∀f' i o,hget hp f' i=some o ->¬(f'=g∧i=0) ->∃o',hget hp' f' i=some o'):=by
 obtain ⟨a1,a2⟩:=A9 hH;obtain ⟨c1,c2⟩:=A9 hH2;have hd:=Ew hh;have hg':=By hm;refine ⟨fun f' i o' hq=>?_,by rw [hg',if_pos rfl,D9];rfl,fun f' i t' cs' hq hne'=>?_,fun f' i o hq hne'=>?_⟩
 ·rw [hg'] at hq
  by_cases e:f'=f
  ·subst e;rw [if_pos rfl] at hq
   by_cases e2:i=b
   ·subst e2;rw [D9] at hq;injection hq with hq
    exact .inl ⟨rfl,rfl,hq.symm⟩
   ·rw [ER e2] at hq;refine .inr ⟨fun h=>e2 h.2,fun h=>hgf h.1.symm,o',by rw [ES hM];exact hq,fun _ _ _ _ h=>h,?_⟩
    cases hmi:M i with
    | none=>rw [hmi] at hq;cases hq
    | some m=>rw [hmi] at hq;injection hq with hq;subst hq;exact A7.norefs
  ·rw [if_neg e,hd] at hq
   split at hq
   ·cases hq
   ·rename_i e3
    obtain ⟨o2,q1,q2⟩:=c1 _ _ _ hq;obtain ⟨o3,q3,q4⟩:=a1 _ _ _ q1;exact .inr ⟨fun h=>e h.1,fun h=>e3 h.1,o3,q3,fun w O ρ v h=>q2.1 _ _ _ _ (q4.1 _ _ _ _ h),fun hr=>Lt (q2.2.1 _ _ hr) rfl⟩
 ·have e1:f'≠f:=fun e=>by
   subst e;rw [ES hM] at hq
   cases hmi:M i with
   | none=>rw [hmi] at hq;cases hq
   | some m=>rw [hmi] at hq;injection hq with hq;exact A7.notBlk hq
  obtain ⟨o2,q1,q2⟩:=a2 _ _ _ hq;obtain ⟨cs2,rfl⟩:=q2.2.2.1 _ _ rfl;obtain ⟨o3,q3,q4⟩:=c2 _ _ _ q1;obtain ⟨cs3,rfl⟩:=q4.2.2.1 _ _ rfl;refine ⟨cs3,?_⟩;rw [hg',if_neg e1,hd,if_neg]
  ·exact q3
  ·rintro rfl;exact hne' ⟨rfl,idx0 hone hnm hq⟩
 ·by_cases e:f'=f
  ·subst e
   by_cases e2:i=b
   ·subst e2;rw [ES hM,hMb] at hq;cases hq
   ·exact ⟨o,by rw [hg',if_pos rfl,ER e2,←ES hM];exact hq⟩
  ·obtain ⟨o2,q1,q2⟩:=a2 _ _ _ hq;obtain ⟨o3,q3,q4⟩:=c2 _ _ _ q1;refine ⟨o3,?_⟩;rw [hg',if_neg e,hd,if_neg]
   ·exact q3
   ·rintro rfl;exact hne' ⟨rfl,idx0 hone hnm hq⟩
theorem IN {F:Fr} {s:AS} {ρ:Nat ->Nat ->Value} {act:Act} {w:World} (hs:SR F s ρ act w) {g f b t:Nat} {v:Value} {env1 env':List (Nat×AV)} (hE:AO g s.env=some env1) (hE2:AO f env1=some env') (hv:act.tmps.getD t undef=v) (h1:v.oneCell'=true):
  ∀t' a,get ((t,.d (.raw v))::env') t'=some a ->AP w (F.O ρ s.hp) ρ a (act.tmps.getD t' undef)∧¬a.Refs f b:=fun t' a ha=>by
 rcases Is ha with ⟨rfl,rfl⟩ | ⟨_,ha⟩
 ·rw [hv];exact ⟨.d (.raw h1),fun h=>by cases h⟩
 ·rcases Ax hE2 ha with rfl | ⟨h3,h4⟩
  ·exact ⟨.top,fun h=>by cases h⟩
  ·rcases Ax hE h3 with rfl | ⟨h5,_⟩
   ·exact ⟨.top,fun h=>by cases h⟩
   ·exact ⟨hs.env t' _ h5,h4 b⟩
theorem SR.absorbR {F:Fr} {s:AS} {ρ:Nat ->Nat ->Value} {act:Act} {w:World} (hs:SR F s ρ act w) (t g f:Nat) {M:MF} {T:TypeId} {kk n:Nat} {xs:List D} {pn:List Nat} {env1 env':List (Nat×AV)} {hp1 hp2 hp3:Hp} {hp':Nat ->Nat ->Hp} (hF:F.pn=pn) (hpn:memB g pn=false) (hne:Nat.beq g f=false)
  (ht:get s.env t=some (.own g 0 n)) (hn:n=xs.length) (hxs:xs≠ []) (hone:hfam s.hp g=some [.rowD T kk xs]) (hM:hfam s.hp f=some [.multi M]) (hE:AO g s.env=some env1) (hE2:AO f env1=some env') (hH:AN g s.hp=some hp1) (hH2:AN f hp1=some hp2) (hh:B8 g hp2=some hp3) (hm:∀b cap,BC hp3 f (BU M b (.row T kk cap xs))=some (hp' b cap)):
  ∃b cap,M b=none∧xs.length≤cap∧SR F ⟨s.n,(t,.d (.raw (sV b n cap)))::env',hp' b cap⟩ (Da ρ f b (pV b 0)) act w:=by
 subst hn;have hgf:g≠f:=Nat.ne_of_beq_eq_false hne;have ho:hget s.hp g 0=some (.rowD T kk xs):=by unfold hget;rw [hone];rfl
 obtain ⟨us,a,cap,hρ,k1,k2,k3,k4,k5⟩:=hs.rowD ho
 have hpos:0<xs.length:=by
  cases xs with
  | nil=>exact absurd rfl hxs
  | cons _ _=>simp
 obtain ⟨b,rfl,_⟩:=k5 hpos
 have hMb:M b=none:=by
  cases hmb:M b with
  | none=>rfl
  | some m=>
   have h2:hget s.hp f b=some (m.at_ b):=by rw [ES hM,hmb];rfl
   exact absurd (hs.heap.inj g 0 f b _ _ b ho h2 (by rw [hρ];rfl) (A7.val hs hM hmb)).1 hgf
 obtain ⟨m1,m2,m3,m4⟩:=moved hgf hone rfl hM hMb hH hH2 hh (hm b cap);refine ⟨b,cap,hMb,k4.1,hs.move g 0 f b ho (by simp only [ES hM,hMb,Option.map_none]) (by rw [hρ];rfl) (JR hF hpn) m1 m2 m3 m4 (IN hs hE hE2 ?_ rfl) ⟨rfl,us,k1,k2,k3⟩⟩;have hr:=hs.env t _ ht
 generalize act.tmps.getD t undef=x at hr⊢
 cases hr with
 | own h1 h2=>
  rw [hρ] at h1;injection h1 with h1 h3 h4;subst h1 h4;rfl
theorem SR.splitR {F:Fr} {s:AS} {ρ:Nat ->Nat ->Value} {act:Act} {w:World} (hs:SR F s ρ act w) (t g f:Nat) {M:MF} {T:TypeId} {kk n cap b:Nat} {xs:List D} {env':List (Nat×AV)} {hp1 hp':Hp} (hne:Nat.beq g f=false)
  (ht:get s.env t=some (.d (.raw (sV b n cap)))) (hn:n=xs.length) (hM:hfam s.hp f=some [.multi M]) (hb:M b=some (.row T kk cap xs)) (hE:AO g s.env=some env') (hH:AN g s.hp=some hp1) (hz:hfam hp1 g=none) (hm:BC hp1 f (IQ M b)=some hp'):
  SR F ⟨s.n,(t,.own g 0 n)::env',(g,[.rowD T kk xs])::hp'⟩ (Da ρ g 0 (sV b n cap)) act w:=by
 subst hn;have hgf:g≠f:=Nat.ne_of_beq_eq_false hne;obtain ⟨hρ,us,k1,k2,k3⟩:=hs.rowN hM hb;obtain ⟨a1,a2⟩:=A9 hH;have hg':=By hm
 have hz':∀i,hget s.hp g i=none:=fun i=>by
  cases hq:hget s.hp g i with
  | none=>rfl
  | some o=>
   obtain ⟨o2,q1,_⟩:=a2 _ _ _ hq;unfold hget at q1;rw [hz] at q1;cases q1
 have hcons:∀f' i,hget ((g,[.rowD T kk xs])::hp') f' i=if f'=g then [AJ.rowD T kk xs][i]? else hget hp' f' i:=fun f' i=>by
  by_cases e:f'=g
  ·subst e;rw [if_pos rfl];simp only [hget,hfam,Nat.beq_refl,Option.bind_some,Ho (o:= .rowD T kk xs) rfl]
  ·rw [if_neg e];simp only [hget,hfam,D8 (fun h=>e h.symm)]
 have hmv:=hs.move f b g 0 (o1:= .nr b T kk cap xs) (o2:= .rowD T kk xs) (v2:=sV b xs.length cap) (env':=env') (hp':=(g,[.rowD T kk xs])::hp') (by rw [ES hM,hb];rfl) (hz' 0) (by rw [hρ];rfl) (by
  cases hpin:F.pin f b with
  | none=>rfl
  | some b'=>
   obtain ⟨_,t',cs',h⟩:=hs.heap.pins f b b' hpin
   rw [ES hM,hb] at h;injection h with h;cases h)
  (fun f' i o' hq=>by
   rw [hcons] at hq
   split at hq
   ·rename_i e
    subst e
    match i,hq with
    | 0,hq=>injection hq with hq;exact .inl ⟨rfl,rfl,hq.symm⟩
    | i+1,hq=>cases hq
   ·rename_i e
    rw [hg'] at hq
    split at hq
    ·rename_i e2
     subst e2
     by_cases e3:i=b
     ·subst e3;rw [Ki] at hq;cases hq
     ·rw [HO e3] at hq;refine .inr ⟨fun h=>e h.1,fun h=>e3 h.2,o',by rw [ES hM];exact hq,fun _ _ _ _ h=>h,?_⟩
      cases hmi:M i with
      | none=>rw [hmi] at hq;cases hq
      | some m=>rw [hmi] at hq;injection hq with hq;subst hq;exact A7.norefs
    ·rename_i e2
     obtain ⟨o3,q3,q4⟩:=a1 _ _ _ hq
     exact .inr ⟨fun h=>e h.1,fun h=>e2 h.1,o3,q3,fun w O ρ v h=>q4.1 _ _ _ _ h,fun hr=>Lt (q4.2.1 _ _ hr) rfl⟩)
  (by rw [hcons,if_pos rfl];rfl)
  (fun f' i t' cs' hq hne'=>by
   have e1:f'≠f:=fun e=>by
    subst e;rw [ES hM] at hq
    cases hmi:M i with
    | none=>rw [hmi] at hq;cases hq
    | some m=>rw [hmi] at hq;injection hq with hq;exact A7.notBlk hq
   have e2:f'≠g:=fun e=>by subst e;rw [hz'] at hq;cases hq
   obtain ⟨o2,q1,q2⟩:=a2 _ _ _ hq;obtain ⟨cs2,rfl⟩:=q2.2.2.1 _ _ rfl
   exact ⟨cs2,by rw [hcons,if_neg e2,hg',if_neg e1];exact q1⟩)
  (fun f' i o hq hne'=>by
   have e2:f'≠g:=fun e=>by subst e;rw [hz'] at hq;cases hq
   by_cases e1:f'=f
   ·subst e1;have e3:i≠b:=fun e=>hne' ⟨rfl,e⟩;exact ⟨o,by rw [hcons,if_neg e2,hg',if_pos rfl,HO e3,←ES hM];exact hq⟩
   ·obtain ⟨o2,q1,q2⟩:=a2 _ _ _ hq
    exact ⟨o2,by rw [hcons,if_neg e2,hg',if_neg e1];exact q1⟩)
  (fun t' a ha=>by
   rcases Ax hE ha with rfl | ⟨h3,h4⟩
   ·exact ⟨.top,fun h=>by cases h⟩
   ·exact ⟨hs.env t' _ h3,h4 0⟩)
  ⟨us,k1,k2,k3⟩
 refine ⟨hmv.size,hmv.defs,fun t' a ha=>?_,hmv.heap⟩;rcases Is ha with ⟨rfl,rfl⟩ | ⟨_,ha⟩
 ·have hr:=hs.env t _ ht
  generalize act.tmps.getD t undef=x at hr⊢
  cases hr with
  | d h=>cases h with | raw _=>exact .own Jp (Nat.le_refl _)
 ·exact hmv.env t' a ha
section
variable {P:Program} {F:Fr} {Q:Exit ->AS ->Prop} {c:Code} {ops:Array Oper} {l:List Oper} {n:Nat} {env env1 env':List (Nat×AV)} {hp hp1 hp2 hp3:Hp}
theorem RN (t g f:Nat) {M:MF} {T:TypeId} {cs:List AV} {ds:List D} {pn:List Nat} {hp':Nat ->Hp} (hF:F.pn=pn) (hpn:memB g pn=false) (hne:Nat.beq g f=false) (ht:get env t=some (.ptr g 0 0)) (hone:hfam hp g=some [.blk T cs]) (hcs:cs=ds.map .d) (hM:hfam hp f=some [.multi M]) (hE:AO g env=some env1) (hE2:AO f env1=some env') (hH:AN g hp=some hp1) (hH2:AN f hp1=some hp2) (hh:B8 g hp2=some hp3) (hm:∀b,BC hp3 f (BU M b (.cells T ds))=some (hp' b))
  (h:∀b,M b=none ->As P F ops l Q ⟨n,(t,.d (pD b 0))::env',hp' b⟩):As P F ops l Q ⟨n,env,hp⟩:=fun ρ act w hs=>by
 obtain ⟨b,hb,hs'⟩:=hs.absorb t g f hF hpn hne ht hone hcs hM hE hE2 hH hH2 hh hm;exact h b hb _ act w hs'
theorem Ea (t g f:Nat) {M:MF} {T:TypeId} {kk m:Nat} {xs:List D} {pn:List Nat} {hp':Nat ->Nat ->Hp} (hF:F.pn=pn) (hpn:memB g pn=false) (hne:Nat.beq g f=false) (ht:get env t=some (.own g 0 m)) (hn:m=xs.length) (hxs:xs≠ []) (hone:hfam hp g=some [.rowD T kk xs]) (hM:hfam hp f=some [.multi M]) (hE:AO g env=some env1) (hE2:AO f env1=some env') (hH:AN g hp=some hp1) (hH2:AN f hp1=some hp2) (hh:B8 g hp2=some hp3) (hm:∀b cap,BC hp3 f (BU M b (.row T kk cap xs))=some (hp' b cap))
  (h:∀b cap,M b=none ->xs.length≤cap ->As P F ops l Q ⟨n,(t,.d (.raw (sV b m cap)))::env',hp' b cap⟩):As P F ops l Q ⟨n,env,hp⟩:=fun ρ act w hs=>by
 obtain ⟨b,cap,hb,hc,hs'⟩:=hs.absorbR t g f hF hpn hne ht hn hxs hone hM hE hE2 hH hH2 hh hm;exact h b cap hb hc _ act w hs'
theorem EB (f:Nat) (hE:AO f env=some env') (hH:AN f hp=some hp1) (hz:hfam hp1 f=none) (h:B9 P F c Q ⟨n,env',(f,[.multi fun _=>none])::hp1⟩):B9 P F c Q ⟨n,env,hp⟩:=fun ρ act w hs=>by
 refine h ρ act w ?_;obtain ⟨a1,a2⟩:=A9 hH
 have hcons:∀f' i,hget ((f,[.multi fun _=>none])::hp1) f' i=if f'=f then none else hget hp1 f' i:=fun f' i=>by
  by_cases e:f'=f
  ·subst e;rw [if_pos rfl];simp only [hget,hfam,Nat.beq_refl,Option.bind_some,gl,isM,Option.map_none]
  ·rw [if_neg e];simp only [hget,hfam,D8 (fun h=>e h.symm)]
 have hh:Ao F ((f,[.multi fun _=>none])::hp1) ρ w:=hs.heap.less (fun g i o' ho=>by
  rw [hcons] at ho
  split at ho
  ·cases ho
  ·obtain ⟨o,h1,h2⟩:=a1 _ _ _ ho
   exact ⟨o,h1,fun w O v h=>h2.1 _ _ _ _ h⟩) fun g i o ho=>by
  obtain ⟨o',h1,h2⟩:=a2 _ _ _ ho
  have e:g≠f:=fun e=>by
   subst e;unfold hget at h1;rw [hz] at h1;cases h1
  exact ⟨o',by rw [hcons,if_neg e];exact h1,fun t cs e=>by subst e;exact h2.2.2.1 _ _ rfl⟩
 have hO:F.O ρ ((f,[.multi fun _=>none])::hp1)=F.O ρ hp:=funext fun b=>propext ⟨fun h=>h.imp id fun ⟨g,i,o,h1,h2⟩=>by
  rw [hcons] at h1
  split at h1
  ·cases h1
  ·obtain ⟨o',h3,_⟩:=a1 _ _ _ h1
   exact ⟨g,i,o',h3,h2⟩,fun h=>h.imp id fun ⟨g,i,o,h1,h2⟩=>by
  obtain ⟨o',h3,_⟩:=a2 _ _ _ h1
  have e:g≠f:=fun e=>by
   subst e;unfold hget at h3;rw [hz] at h3;cases h3
  exact ⟨g,i,o',by rw [hcons,if_neg e];exact h3,h2⟩⟩
 refine ⟨hs.size,hO▸hs.defs,fun t a ha=>?_,hh⟩;show AP w (F.O ρ ((f,[.multi fun _=>none])::hp1)) ρ a _;rw [hO];rcases Ax hE ha with rfl | ⟨h3,_⟩
 ·exact .top
 ·exact hs.env t a h3
end
theorem SR.split {F:Fr} {s:AS} {ρ:Nat ->Nat ->Value} {act:Act} {w:World} (hs:SR F s ρ act w) (t g f:Nat) {M:MF} {T:TypeId} {b:Nat} {cs:List D} {env':List (Nat×AV)} {hp1 hp':Hp} (hne:Nat.beq g f=false)
  (ht:get s.env t=some (.d (pD b 0))) (hM:hfam s.hp f=some [.multi M]) (hb:M b=some (.cells T cs)) (hE:AO g s.env=some env') (hH:AN g s.hp=some hp1) (hz:hfam hp1 g=none) (hm:BC hp1 f (IQ M b)=some hp'):
  SR F ⟨s.n,(t,.ptr g 0 0)::env',(g,[.blk T (cs.map .d)])::hp'⟩ (Da ρ g 0 (pV b 0)) act w:=by
 have hgf:g≠f:=Nat.ne_of_beq_eq_false hne;obtain ⟨hρ,us,k1,k2,k3,k4⟩:=hs.cellsN hM hb;obtain ⟨a1,a2⟩:=A9 hH;have hg':=By hm
 have hz':∀i,hget s.hp g i=none:=fun i=>by
  cases hq:hget s.hp g i with
  | none=>rfl
  | some o=>
   obtain ⟨o2,q1,_⟩:=a2 _ _ _ hq;unfold hget at q1;rw [hz] at q1;cases q1
 have hcons:∀f' i,hget ((g,[.blk T (cs.map .d)])::hp') f' i=if f'=g then [AJ.blk T (cs.map .d)][i]? else hget hp' f' i:=fun f' i=>by
  by_cases e:f'=g
  ·subst e;rw [if_pos rfl];simp only [hget,hfam,Nat.beq_refl,Option.bind_some,Ho (o:= .blk T (cs.map .d)) rfl]
  ·rw [if_neg e];simp only [hget,hfam,D8 (fun h=>e h.symm)]
 have hmv:=hs.move f b g 0 (o1:= .nb b T cs) (o2:= .blk T (cs.map .d)) (v2:=pV b 0) (env':=env') (hp':=(g,[.blk T (cs.map .d)])::hp') (by rw [ES hM,hb];rfl) (hz' 0) (by rw [hρ]) (by
  cases hpin:F.pin f b with
  | none=>rfl
  | some b'=>
   obtain ⟨_,t',cs',h⟩:=hs.heap.pins f b b' hpin
   rw [ES hM,hb] at h;injection h with h;cases h)
  (fun f' i o' hq=>by
   rw [hcons] at hq
   split at hq
   ·rename_i e
    subst e
    match i,hq with
    | 0,hq=>injection hq with hq;exact .inl ⟨rfl,rfl,hq.symm⟩
    | i+1,hq=>cases hq
   ·rename_i e
    rw [hg'] at hq
    split at hq
    ·rename_i e2
     subst e2
     by_cases e3:i=b
     ·subst e3;rw [Ki] at hq;cases hq
     ·rw [HO e3] at hq;refine .inr ⟨fun h=>e h.1,fun h=>e3 h.2,o',by rw [ES hM];exact hq,fun _ _ _ _ h=>h,?_⟩
      cases hmi:M i with
      | none=>rw [hmi] at hq;cases hq
      | some m=>rw [hmi] at hq;injection hq with hq;subst hq;exact A7.norefs
    ·rename_i e2
     obtain ⟨o3,q3,q4⟩:=a1 _ _ _ hq
     exact .inr ⟨fun h=>e h.1,fun h=>e2 h.1,o3,q3,fun w O ρ v h=>q4.1 _ _ _ _ h,fun hr=>Lt (q4.2.1 _ _ hr) rfl⟩)
  (by rw [hcons,if_pos rfl];rfl)
  (fun f' i t' cs' hq hne'=>by
   have e1:f'≠f:=fun e=>by
    subst e;rw [ES hM] at hq
    cases hmi:M i with
    | none=>rw [hmi] at hq;cases hq
    | some m=>rw [hmi] at hq;injection hq with hq;exact A7.notBlk hq
   have e2:f'≠g:=fun e=>by subst e;rw [hz'] at hq;cases hq
   obtain ⟨o2,q1,q2⟩:=a2 _ _ _ hq;obtain ⟨cs2,rfl⟩:=q2.2.2.1 _ _ rfl
   exact ⟨cs2,by rw [hcons,if_neg e2,hg',if_neg e1];exact q1⟩)
  (fun f' i o hq hne'=>by
   have e2:f'≠g:=fun e=>by subst e;rw [hz'] at hq;cases hq
   by_cases e1:f'=f
   ·subst e1;have e3:i≠b:=fun e=>hne' ⟨rfl,e⟩;exact ⟨o,by rw [hcons,if_neg e2,hg',if_pos rfl,HO e3,←ES hM];exact hq⟩
   ·obtain ⟨o2,q1,q2⟩:=a2 _ _ _ hq
    exact ⟨o2,by rw [hcons,if_neg e2,hg',if_neg e1];exact q1⟩)
  (fun t' a ha=>by
   rcases Ax hE ha with rfl | ⟨h3,h4⟩
   ·exact ⟨.top,fun h=>by cases h⟩
   ·exact ⟨hs.env t' _ h3,h4 0⟩)
  ⟨b,us,rfl,k1,by rw [List.length_map];exact k2,fun j c u hc hu=>by
   rw [List.getElem?_map] at hc
   cases hj:cs[j]? with
   | none=>rw [hj] at hc;cases hc
   | some d=>
    rw [hj] at hc;injection hc with hc;subst hc
    exact .d (k3 j d u hj hu),k4⟩
 refine ⟨hmv.size,hmv.defs,fun t' a ha=>?_,hmv.heap⟩;rcases Is ha with ⟨rfl,rfl⟩ | ⟨_,ha⟩
 ·have hr:=hs.env t _ ht
  generalize act.tmps.getD t undef=x at hr⊢
  cases hr with
  | d h=>cases h with | raw _=>exact .ptr Jp
 ·exact hmv.env t' a ha
section
variable {P:Program} {F:Fr} {Q:Exit ->AS ->Prop} {c:Code} {n:Nat} {env env1 env':List (Nat×AV)} {hp hp1:Hp}
end
end Go.Proofs.YtlmedakidpaeeaaGreat
/- A binary heap in a list: sifting up and down. Plain laws. -/
namespace Go.Proofs.YtlmedakidpaeeaaGreat
def CO (l:List Nat) (i:Nat):Nat:=l.getD i 0
theorem Cb {l:List Nat} {i:Nat} (h:i<l.length):CO l i=l[i]:=by simp [CO,h]
theorem Er {l:List Nat} {i:Nat} (h:i<l.length):CO l i∈l:=by rw [Cb h];exact List.getElem_mem h
def Heap2 (K:Nat ->Nat) (l:List Nat):Prop:=∀i,0<i ->i<l.length ->K (CO l ((i - 1) / 2))≤K (CO l i)
theorem Od {l m:List Nat} {i:Nat} (h:i<l.length):CO (l++m) i=CO l i:=by
 unfold CO;rw [List.getD_eq_getElem?_getD,List.getD_eq_getElem?_getD,List.getElem?_append_left h]
inductive Rh (suc:Nat ->List Nat):Nat ->Nat ->Prop
 | refl (a:Nat):Rh suc a a
 | step {a b c:Nat} (h:Rh suc a b) (e:c∈suc b):Rh suc a c
theorem Rh.trans {suc:Nat ->List Nat} {a b c:Nat} (h:Rh suc a b) (h':Rh suc b c):Rh suc a c:=by
 induction h' with
 | refl=>exact h
 | step _ e ih=>exact .step ih e
theorem Rh.one {suc:Nat ->List Nat} {a b:Nat} (e:b∈suc a):Rh suc a b:= .step (.refl a) e
def Ap {α:Type} (f:Nat ->α) (i:Nat) (x:α):Nat ->α:=fun j=>if j=i then x else f j
theorem Di {α:Type} (f:Nat ->α) (i:Nat) (x:α):Ap f i x i=x:=if_pos rfl
theorem EV {α:Type} {f:Nat ->α} {i j:Nat} {x:α} (h:j≠i):Ap f i x j=f j:=if_neg h
structure TS where
 idx:Nat ->Nat
 low:Nat ->Nat
 of:Nat ->Int
 st:List Nat
 cs:List (Nat×Nat)
 cnt:Nat
 clk:Nat
structure TI (n:Nat) (suc:Nat ->List Nat) (S:TS) (p:Option Nat):Prop where
 lt:∀v,S.idx v≠0 ->v<n
 ck:∀v,S.idx v≤S.clk
 inj:∀v w,S.idx v≠0 ->S.idx v=S.idx w ->v=w
 st:∀v,v∈S.st↔S.idx v≠0∧S.of v<0
 srt:S.st.Pairwise fun a b=>S.idx a<S.idx b
 ofi:∀v,0≤S.of v ->S.idx v≠0∧S.of v<S.cnt
 csm:∀f∈S.cs,f.1∈S.st
 css:S.cs.Pairwise fun a b=>S.idx a.1<S.idx b.1
 r5:∀f∈S.cs,∀w∈S.st,S.idx f.1≤S.idx w ->Rh suc f.1 w
 r4:∀w∈S.st,∃f∈S.cs,S.idx f.1≤S.idx w∧Rh suc w f.1
 clo:∀v,0≤S.of v ->∀y∈suc v,0≤S.of y
 blk:∀w∈S.st,(∀f∈S.cs,f.1≠w) ->∀y∈suc w,S.idx y≠0
 gry:∀f∈S.cs,f.2≤(suc f.1).length∧∀(i:Nat) y,i<f.2 ->(suc f.1)[i]? =some y ->S.idx y≠0∨p=some y
 lw:∀v∈S.st,S.low v≤S.idx v∧∃y∈S.st,S.low v=S.idx y∧Rh suc v y
 l8:∀f∈S.cs,∀x∈S.st,x≠f.1 ->S.idx f.1≤S.idx x ->(∀f'∈S.cs,S.idx f.1<S.idx f'.1 ->S.idx x<S.idx f'.1) ->∀y∈suc x,y∈S.st ->S.low f.1≤S.idx y
 l8g:∀f∈S.cs,∀(i:Nat) y,i<f.2 ->(suc f.1)[i]? =some y ->y∈S.st ->S.low f.1≤S.idx y
 scc:∀i j,0≤S.of i ->0≤S.of j ->(S.of i=S.of j↔Rh suc i j∧Rh suc j i)
 use:∀c,c<S.cnt ->∃v,S.of v=((c:Nat):Int)
 pnd:∀v,p=some v ->v<n∧S.idx v=0∧∀f∈S.cs,Rh suc f.1 v
 num:S.cnt+S.st.length≤S.clk
 cap:∃vs:List Nat,vs.Nodup∧vs.length=S.clk∧∀v,v∈vs↔S.idx v≠0
theorem Rh.leave {suc:Nat ->List Nat} {p:Nat ->Prop} {a b:Nat} (h:Rh suc a b) (ha:p a) (hb:¬p b):∃x y,p x∧y∈suc x∧¬p y∧Rh suc y b:=by
 induction h with
 | refl=>exact absurd ha hb
 | @step b c h' e ih=>
  by_cases hp:p b
  ·exact ⟨b,c,hp,e,hb,.refl c⟩
  ·obtain ⟨x,y,h1,h2,h3,h4⟩:=ih hp;exact ⟨x,y,h1,h2,h3,h4.step e⟩
theorem RT {α:Type} [BEq α] [LawfulBEq α] {l m:List α} (h:l.Nodup) (hs:∀x∈l,x∈m):l.length≤m.length:=by
 induction l generalizing m with
 | nil=>exact Nat.zero_le _
 | cons a l ih=>
  obtain ⟨h1,h2⟩:=List.nodup_cons.1 h;have ha:=hs a (List.mem_cons_self ..);have h3:=ih (m:=m.erase a) h2 fun x hx=>(List.mem_erase_of_ne (fun e=>by rw [e] at hx;exact h1 hx:x≠a)).2 (hs x (List.mem_cons_of_mem _ hx));have h4:=List.length_erase_of_mem ha;have h5:0<m.length:=List.length_pos_of_mem ha;rw [List.length_cons];omega
structure SccOf (n:Nat) (suc:Nat ->List Nat) (of:Nat ->Nat) (cnt:Nat):Prop where
 lt:∀v,v<n ->of v<cnt
 scc:∀i j,i<n ->j<n ->(of i=of j↔Rh suc i j∧Rh suc j i)
 use:∀c,c<cnt ->∃v,v<n∧of v=c
 le:cnt≤n
def CF (g:List (List Nat)) (i:Nat):List Nat:=g.getD i []
def degS (g:List (List Nat)) (done:List Nat) (j:Nat):Nat:=((List.range g.length).map fun i=>if i∈done then 0 else (CF g i).count j).sum
def avail (g:List (List Nat)) (done:List Nat) (i:Nat):Prop:=i<g.length∧i∉done∧∀k,k<g.length ->k∉done ->i∉CF g k
def Grd (g:List (List Nat)) (K:Nat ->Nat) (l:List Nat):Prop:=∀i,i<l.length ->avail g (l.take i) (CO l i)∧∀y,avail g (l.take i) y ->K (CO l i)≤K y
structure OI (g:List (List Nat)) (K:Nat ->Nat) (w q out ls:List Nat):Prop where
 len:w.length=g.length
 deg:∀j,j<g.length ->CO w j=degS g out j+ls.count j
 nd:(out++q).Nodup
 lt:∀x∈out++q,x<g.length
 zer:∀x,x<g.length ->(x∈out++q↔CO w x=0)
 hp:Heap2 K q
 grd:Grd g K out
end Go.Proofs.YtlmedakidpaeeaaGreat
/- Headers of rows of a region; their rows grow. No program in sight. -/
namespace Go.Proofs.YtlmedakidpaeeaaGreat
open Go.RowKit
abbrev Hd:=Option (Nat×Nat)
def hdrV:Hd ->Nat ->Value
 | none,_=> .slice none 0 0
 | some (b,c),n=>sV b n c
abbrev hdr (h:Hd) (n:Nat):D:= .raw (hdrV h n)
def K4 (M:MF) (h:Hd) (t:TypeId) (k:Nat) (xs:List D):Prop:=match h with
 | none=>xs=[]
 | some (b,c)=>xs.length≤c∧M b=some (.row t k c xs)
def DC (M:MF):Hd ->MF
 | none=>M
 | some (b,_)=>IQ M b
theorem Et {M:MF} {h:Hd} {b:Nat} {m:A7} (hm:M b=some m) (hne:∀c,h≠some (b,c)):DC M h b=some m:=by
 match h,hne with
 | none,_=>exact hm
 | some (b',c),hne=>
  show IQ M b' b=_;rw [HO (fun e=>hne c (by rw [e]))];exact hm
theorem Rf {M:MF} {h:Hd} {b b':Nat} {m v:A7} (hb:DC M h b=none) (hm:M b'=some m) (hne:∀c,h≠some (b',c)):BU (DC M h) b v b'=some m:=by
 have h1:=Et hm hne;rw [ER]
 ·exact h1
 ·rintro rfl;rw [hb] at h1;cases h1
theorem SR.splitH {F:Fr} {s:AS} {ρ:Nat ->Nat ->Value} {act:Act} {w:World} (hs:SR F s ρ act w) (t g f:Nat) {M:MF} {T:TypeId} {kk m:Nat} {h:Hd} {xs:List D} {env':List (Nat×AV)} {hp1 hp':Hp} (hne:Nat.beq g f=false)
  (ht:get s.env t=some (.d (hdr h m))) (hn:m=xs.length) (hM:hfam s.hp f=some [.multi M]) (hr:K4 M h T kk xs) (hE:AO g s.env=some env') (hH:AN g s.hp=some hp1) (hz:hfam hp1 g=none) (hm:BC hp1 f (DC M h)=some hp'):
  ∃v,SR F ⟨s.n,(t,.own g 0 m)::env',(g,[.rowD T kk xs])::hp'⟩ (Da ρ g 0 v) act w:=by
 match h,ht,hr,hm with
 | some (b,cap),ht,hr,hm=>exact ⟨_,hs.splitR t g f (cap:=cap) (b:=b) hne ht hn hM hr.2 hE hH hz hm⟩
 | none,ht,hr,hm=>
  have hxs:xs=[]:=hr;subst hxs hn;have hgf:g≠f:=Nat.ne_of_beq_eq_false hne;refine ⟨.slice none 0 0,?_⟩
  have hhp:hp'=hp1:=by
   have key:∀(H H':Hp),hfam H f=some [.multi M] ->BC H f M=some H' ->H'=H:=by
    intro H
    induction H with
    | nil=>intro H' h;cases h
    | cons p r ih=>
     obtain ⟨k,l⟩:=p;intro H' h1 h2;simp only [hfam] at h1;simp only [BC] at h2
     cases hk:Nat.beq k f with
     | true=>
      rw [hk] at h1 h2;injection h1 with h1
      subst h1;simp only [isM] at h2;injection h2 with h2;exact h2.symm
     | false=>
      rw [hk] at h1 h2;dsimp only at h1 h2
      cases hr:BC r f M with
      | none=>rw [hr] at h2;cases h2
      | some r'=>
       rw [hr] at h2;injection h2 with h2
       rw [←h2,ih r' h1 hr]
   obtain ⟨a1,a2⟩:=A9 hH
   have hM1:hfam hp1 f=some [.multi M]:=by
    have key2:∀(H H':Hp),B6 (BG g) H=some H' ->hfam H f=some [.multi M] ->hfam H' f=some [.multi M]:=by
     intro H
     induction H with
     | nil=>intro H' _ h;cases h
     | cons p r ih=>
      obtain ⟨k,l⟩:=p;intro H' h1 h2;simp only [B6] at h1
      cases hr:B6 (BG g) r with
      | none=>rw [hr] at h1;cases h1
      | some r'=>
       rw [hr] at h1
       cases hl:Cd (BG g) l with
       | none=>rw [hl] at h1;cases h1
       | some l'=>
        rw [hl] at h1;injection h1 with h1;subst h1
        simp only [hfam] at h2⊢
        cases hk:Nat.beq k f with
        | true=>
         rw [hk] at h2;injection h2 with h2;subst h2
         simp only [Cd,Bh] at hl;injection hl with hl;rw [←hl]
        | false=>rw [hk] at h2;exact ih r' hr h2
    exact key2 _ _ hH hM
   exact key hp1 hp' hM1 hm
  rw [hhp]
  have h1:SR F ⟨s.n,(t,.d (.sl (some true) []))::s.env,s.hp⟩ ρ act w:=⟨hs.size,hs.defs,fun t' a ha=>by
   rcases Is ha with ⟨rfl,rfl⟩ | ⟨_,ha⟩
   ·have hr:=hs.env t _ ht
    generalize act.tmps.getD t undef=x at hr⊢
    cases hr with
    | d h=>cases h with
     | raw _=>exact .d (.sl 0 (fun b hb=>by cases hb;rfl) (fun _=>rfl) rfl (Nat.le_refl _) (Nat.zero_le _) (fun x hx=>by cases hx) (fun h=>absurd rfl h) (fun b o hb=>by cases hb))
   ·exact hs.env t' a ha,hs.heap⟩
  obtain ⟨k1,k2⟩:=A9 hH
  have hz':∀i,hget s.hp g i=none:=fun i=>by
   cases hq:hget s.hp g i with
   | none=>rfl
   | some o=>
    obtain ⟨o2,q1,_⟩:=k2 _ _ _ hq;unfold hget at q1;rw [hz] at q1;cases q1
  have h2:=hs.set g 0 (.rowD T kk []) (.slice none 0 0) (hp':=(g,[.rowD T kk []])::hp1) hE hH (fun f' i=>by
   by_cases e:g=f'
   ·subst e;simp only [hget,hfam,Nat.beq_refl,Option.bind_some,true_and,Ho (o:= .rowD T kk []) rfl,hz,Option.bind_none]
    cases i<;>simp
   ·simp only [hget,hfam,D8 e]
    rw [if_neg (fun hh=>e hh.1.symm)]) (fun t cs e=>by rw [hz'] at e;cases e) (fun b hb=>by cases hb) rfl rfl rfl (Nat.le_refl _) (fun _ _ _=>rfl) (fun _=>⟨[],World.ownsRow_nil w 0 T kk,⟨by simp,by simp,fun i x hx=>by simp at hx⟩,by simp⟩)
  refine ⟨h2.size,h2.defs,fun t' a ha=>?_,h2.heap⟩;rcases Is ha with ⟨rfl,rfl⟩ | ⟨_,ha⟩
  ·have hr:=hs.env t _ ht
   generalize act.tmps.getD t undef=x at hr⊢
   cases hr with
   | d h=>cases h with | raw _=>exact .own Jp (Nat.le_refl _)
  ·exact h2.env t' a ha
section
variable {P:Program} {F:Fr} {Q:Exit ->AS ->Prop} {c:Code} {ops:Array Oper} {l:List Oper} {n:Nat} {env env1 env':List (Nat×AV)} {hp hp1 hp2 hp3:Hp}
theorem Gr {o:Oper} (t g f:Nat) {M:MF} {T:TypeId} {kk m:Nat} {h:Hd} {xs:List D} {hp':Hp} {s2:AS} (hr:K4 M h T kk xs) (hne:Nat.beq g f=false) (ht:get env t=some (.d (hdr h m))) (hn:m=xs.length) (hM:hfam hp f=some [.multi M]) (hE:AO g env=some env') (hH:AN g hp=some hp1) (hz:hfam hp1 g=none) (hm:BC hp1 f (DC M h)=some hp')
  (h2:AK P F o ⟨n,(t,.own g 0 m)::env',(g,[.rowD T kk xs])::hp'⟩ s2 (BG g)):AK P F o ⟨n,env,hp⟩ s2 (BG g):=fun ρ act w hs=>by
 obtain ⟨v,h1⟩:=hs.splitH t g f hne ht hn hM hr hE hH hz hm;exact Zcr (fun a w' ⟨ρ',h3,h4⟩=>⟨ρ',h3,fun f i hfi=>(h4 f i hfi).trans (I0 fun e=>Lt hfi e.1)⟩) (h2 _ act w h1)
end
def nrm1:D ->D
 | .sl (some true) []=> .raw (.slice none 0 0)
 | x=>x
theorem AM.nrm1 {w:World} {O:Nat ->Prop} {x:D} {v:Value} (h:AM w O x v):AM w O (nrm1 x) v:=by
 unfold Go.Proofs.YtlmedakidpaeeaaGreat.nrm1
 split
 ·cases h with
  | sl k hn hz hln hc hm hk ha hp=>
   rename_i a n cap
   have h1:=hn true rfl
   have h2:a=none:=by cases a with
    | none=>rfl
    | some _=>cases h1
   subst h2;have h3:=hz rfl;have h4:n=0:=hln.symm;subst h3 h4;exact .raw rfl
 ·exact h
def N5 (M:MF) (x y:D):Prop:=x=y∨∃h T zs,x=hdr h zs.length∧K4 M h T 1 zs∧(∀z∈zs,z.one=true)∧y= .sl none zs
theorem AM.melt {F:Fr} {s:AS} {ρ:Nat ->Nat ->Value} {act:Act} {w:World} (hs:SR F s ρ act w) {f:Nat} {M:MF} {hp':Hp} (hM:hfam s.hp f=some [.multi M]) (hO1:∀b,F.O ρ hp' b ->F.O ρ s.hp b)
  (hO2:∀i o b,hget s.hp f i=some o ->BK (ρ f i)=some b ->¬F.O ρ hp' b) {x y:D} {v:Value} (hm:N5 M x y) (hr:AM w (F.O ρ hp') x v):AM w (F.O ρ hp') y v:=by
 rcases hm with rfl | ⟨h,T,zs,rfl,hra,hz1,rfl⟩
 ·exact hr
 ·match h,hra with
  | none,hra=>
   have hra:zs=[]:=hra;subst hra
   cases hr with
   | raw _=>exact .sl 0 (fun b hb=>by cases hb) (fun _=>rfl) rfl (Nat.le_refl _) (Nat.zero_le _) (fun x hx=>by cases hx) (fun h=>absurd rfl h) (fun b o hb=>by cases hb)
  | some (b,c),hra=>
   obtain ⟨hle,hb⟩:=hra
   cases hr with
   | raw _=>
    obtain ⟨hρ,us,g1,g2,g3⟩:=hs.rowN hM hb;obtain ⟨a,cap,e,q1,q2,q3,q4⟩:=En g1;injection e with e1 e2 e3
    subst e1 e3
    have hc1:∀z∈zs,z.cells=[z]:=fun z hz=>by
     have h1:=hz1 z hz;have h2:=g2.2.1 z hz
     cases z with
     | agg cs=>simp [D.one] at h1
     | _=>rfl
    refine .sl 1 (fun b hb=>by cases hb) (fun h=>by cases h) rfl q1 q2 (fun z hz=>by rw [hc1 z hz];rfl) (fun _=>⟨b,0,rfl⟩) (fun b' o hb' i z hi=>?_);injection hb' with hb'
    injection hb' with hb1 hb2
    subst hb1 hb2;have hil:i<zs.length:=(List.getElem?_eq_some_iff.1 hi).1;obtain ⟨b2,cur,r1,r2,r3,r4⟩:=q4 (by omega);injection r1 with r1
    injection r1 with r1
    subst r1;have hlt:b<w.heap.size:=(Array.getElem?_eq_some_iff.1 r2).1
    have hex:∀(q:Nat) c,z.cells[q]? =some c ->∃u,w.cell? ⟨b,0+i*1+q,none⟩=some u∧AM w (F.O ρ hp') c u:=fun q c' hc=>by
     obtain ⟨u,d1,d2,d3⟩:=g2.2.2 i z hi q c' hc;exact ⟨u,by rw [Nat.zero_add];exact Cx r2 r4 d1,d3.mono (Nat.le_refl _) (fun _ _ _=>rfl) fun b _=>hO1 b⟩
    refine .ptr (fun q=>(w.cell? ⟨b,0+i*1+q,none⟩).getD undef) hlt (hO2 b _ b (by rw [ES hM,hb];rfl) (by rw [hρ];rfl)) (g3 z (List.mem_of_getElem? hi)) (fun q c' hc=>?_) (fun q c' hc=>?_)
    ·obtain ⟨u,d1,_⟩:=hex q c' hc;rw [d1];rfl
    ·obtain ⟨u,d1,d2⟩:=hex q c' hc;rw [d1];exact d2
theorem SR.melt {F:Fr} {s:AS} {ρ:Nat ->Nat ->Value} {act:Act} {w:World} (hs:SR F s ρ act w) (g i f:Nat) {M:MF} {T:TypeId} {xs ys:List D} {env':List (Nat×AV)} {hp1 hp2 hp':Hp} (hM:hfam s.hp f=some [.multi M])
  (hE:AO f s.env=some env') (hH:AN f s.hp=some hp1) (hh:B8 f hp1=some hp2) (ho:hget hp2 g i=some (.rowD T 1 xs)) (hlen:ys.length=xs.length)
  (hxy:∀(j:Nat) x y,xs[j]? =some x ->ys[j]? =some y ->N5 M x y) (h1:(∀x∈xs,x.one=true)∧∀y∈ys,y.one=true) (hset:Ay hp2 g i (.rowD T 1 ys)=some hp'):SR F ⟨s.n,env',hp'⟩ ρ act w:=by
 obtain ⟨h2,hO1,hO2⟩:=hs.forget f hE hH hh (fun j t cs e=>by
  rw [ES hM] at e
  cases hm:M j with
  | none=>rw [hm] at e;cases e
  | some m=>rw [hm] at e;injection e with e;exact A7.notBlk e)
 have hone:∀z:D,z.one=true ->z.cells=[z]:=fun z hz=>by
  cases z with
  | agg cs=>simp [D.one] at hz
  | _=>rfl
 refine h2.write g i (.rowD T 1 xs) (.rowD T 1 ys) ho (Ah hset) Z Z Z Z (fun _ _=>rfl) (fun _ _ e=>by cases e) fun hrep=>?_;obtain ⟨us,k1,k2,k3⟩:=h2.heap.sim g i _ ho;refine ⟨us,by rw [hlen];exact k1,⟨by rw [hlen];exact k2.1,fun y hy=>by rw [hone y (h1.2 y hy)];rfl,fun j y hj q c hc=>?_⟩,fun y hy c hc=>by rw [hone y (h1.2 y hy),List.mem_singleton] at hc;rw [hc];exact h1.2 y hy⟩;have hjl:j<xs.length:=by rw [←hlen];exact (List.getElem?_eq_some_iff.1 hj).1
 have hx:xs[j]? =some xs[j]:=List.getElem?_eq_getElem hjl;rw [hone y (h1.2 y (List.mem_of_getElem? hj))] at hc
 cases q with
 | succ q=>cases hc
 | zero=>
  injection hc with hc
  subst hc;obtain ⟨u,d1,d2,d3⟩:=k2.2.2 j _ hx 0 _ (by rw [hone _ (h1.1 _ (List.getElem_mem hjl))];rfl);refine ⟨u,d1,d2,?_⟩;have h3:=AM.melt hs hM hO1 hO2 (hxy j _ _ hx hj) d3;have h4:=hrep (.d y) u (.d h3)
  cases h4 with | d h4=>exact h4
section
variable {P:Program} {F:Fr} {Q:Exit ->AS ->Prop} {c:Code} {n:Nat} {env env':List (Nat×AV)} {hp hp1 hp2 hp':Hp}
theorem OV (g i f:Nat) {M:MF} {T:TypeId} {xs:List D} (ys:List D) (hM:hfam hp f=some [.multi M])
  (hE:AO f env=some env') (hH:AN f hp=some hp1) (hh:B8 f hp1=some hp2) (ho:hget hp2 g i=some (.rowD T 1 xs)) (hlen:ys.length=xs.length)
  (hxy:∀(j:Nat) x y,xs[j]? =some x ->ys[j]? =some y ->N5 M x y) (h1:(∀x∈xs,x.one=true)∧∀y∈ys,y.one=true) (hset:Ay hp2 g i (.rowD T 1 ys)=some hp') (h:B9 P F c Q ⟨n,env',hp'⟩):B9 P F c Q ⟨n,env,hp⟩:=
 fun ρ act w hs=>h ρ act w (hs.melt g i f hM hE hH hh ho hlen hxy h1 hset)
end
theorem SR.weakRow {F:Fr} {s:AS} {ρ:Nat ->Nat ->Value} {act:Act} {w:World} (hs:SR F s ρ act w) (g i:Nat) {T:TypeId} {xs ys:List D} {hp':Hp} (ho:hget s.hp g i=some (.rowD T 1 xs)) (hlen:ys.length=xs.length)
  (hxy:∀(j:Nat) x y,xs[j]? =some x ->ys[j]? =some y ->∀w O v,AM w O x v ->AM w O y v) (h1:(∀x∈xs,x.one=true)∧∀y∈ys,y.one=true) (hset:Ay s.hp g i (.rowD T 1 ys)=some hp'):SR F ⟨s.n,s.env,hp'⟩ ρ act w:=by
 have hone:∀z:D,z.one=true ->z.cells=[z]:=fun z hz=>by
  cases z with
  | agg cs=>simp [D.one] at hz
  | _=>rfl
 refine hs.write g i (.rowD T 1 xs) (.rowD T 1 ys) ho (Ah hset) Z Z Z Z (fun _ _=>rfl) (fun _ _ e=>by cases e) fun hrep=>?_;obtain ⟨us,k1,k2,k3⟩:=hs.heap.sim g i _ ho;refine ⟨us,by rw [hlen];exact k1,⟨by rw [hlen];exact k2.1,fun y hy=>by rw [hone y (h1.2 y hy)];rfl,fun j y hj q c hc=>?_⟩,fun y hy c hc=>by rw [hone y (h1.2 y hy),List.mem_singleton] at hc;rw [hc];exact h1.2 y hy⟩;have hjl:j<xs.length:=by rw [←hlen];exact (List.getElem?_eq_some_iff.1 hj).1
 have hx:xs[j]? =some xs[j]:=List.getElem?_eq_getElem hjl;rw [hone y (h1.2 y (List.mem_of_getElem? hj))] at hc
 cases q with
 | succ q=>cases hc
 | zero=>
  injection hc with hc
  subst hc;obtain ⟨u,d1,d2,d3⟩:=k2.2.2 j _ hx 0 _ (by rw [hone _ (h1.1 _ (List.getElem_mem hjl))];rfl);refine ⟨u,d1,d2,?_⟩;have h4:=hrep (.d y) u (.d (hxy j _ _ hx hj _ _ _ d3))
  cases h4 with | d h4=>exact h4
section
variable {P:Program} {F:Fr} {Q:Exit ->AS ->Prop} {c:Code} {n:Nat} {env:List (Nat×AV)} {hp hp':Hp}
theorem Hz (g i:Nat) {T:TypeId} {xs:List D} (ys:List D) (ho:hget hp g i=some (.rowD T 1 xs)) (hlen:ys.length=xs.length)
  (hxy:∀(j:Nat) x y,xs[j]? =some x ->ys[j]? =some y ->∀w O v,AM w O x v ->AM w O y v) (h1:(∀x∈xs,x.one=true)∧∀y∈ys,y.one=true) (hset:Ay hp g i (.rowD T 1 ys)=some hp') (h:B9 P F c Q ⟨n,env,hp'⟩):B9 P F c Q ⟨n,env,hp⟩:=
 fun ρ act w hs=>h ρ act w (hs.weakRow g i ho hlen hxy h1 hset)
end
end Go.Proofs.YtlmedakidpaeeaaGreat
