/- Maps: keys read off without memory, finding a key, the typed lists behind a map. No program in sight. -/
import Derived.Test.YtlmedakidpaeeaaMg9
import Derived.Maps.RangeRun
import Derived.Laws.StructEq
import Derived.WideLaws
namespace Go.Proofs.Ytlmedakidpaeeaa
open Go.RowKit
def JZ:List D ->Option (List Value)
 | [] =>some []
 | d::r=>match JZ r with
  | none=>none
  | some l=>match d with
   | .raw v=>some (v::l)
   | _=>none
def D.val?:D ->Option Value
 | .raw v=>some v
 | .agg cs=>match JZ cs with
  | none=>none
  | some l=>some (.agg l.toArray)
 | _=>none
theorem Gt {w:World} {O:Nat ->Prop}:∀{cs:List D} {l vs:List Value},JZ cs=some l ->vs.length=cs.length ->(∀(i:Nat) c v,cs[i]?=some c ->vs[i]?=some v ->AK w O c v) ->vs=l
 | [],l,vs,h,hl,_=>by
  simp only [JZ,Option.some.injEq] at h;subst h;exact List.eq_nil_of_length_eq_zero hl
 | d::r,l,vs,h,hl,hr=>by
  simp only [JZ] at h
  split at h
  ·cases h
  ·rename_i l' hl'
   split at h
   ·rename_i v
    injection h with h;subst h
    match vs,hl with
    | u::us,hl=>
     have h0:=hr 0 _ u Z Z
     cases h0 with
     | raw _=>rw [Gt (w:=w) (O:=O) (vs:=us) hl' (by simpa using hl) fun i c v hc hv=>hr (i+1) c v (by simpa using hc) (by simpa using hv)]
   ·cases h
theorem AK.val {w:World} {O:Nat ->Prop} {d:D} {v v':Value} (h:AK w O d v) (hv:d.val?=some v'):v=v':=by
 cases d with
 | raw u=>simp only [D.val?,Option.some.injEq] at hv;subst hv;cases h;rfl
 | agg cs=>
  simp only [D.val?] at hv
  split at hv
  ·cases hv
  ·rename_i l hl
   injection hv with hv;subst hv
   cases h with
   | agg h1 _ h3=>rw [Gt hl h1 h3]
 | _=>cases hv
section
variable {α:Type} [DecidableEq α]
def Ed (a:α):List α ->List MapEntry ->Nat ->Option (Nat×Value)
 | b::r,e::es,i=>if a=b then some (i,e.val) else Ed a r es (i+1)
 | _,_,_=>none
theorem IM {a:α}:∀{l:List α} {es:List MapEntry} {i:Nat},es.length=l.length ->Ed a l es i=none ->a∉l
 | [],_,_,_,_=>by simp
 | b::r,[],_,h,_=>by simp at h
 | b::r,e::es,i,h,hh=>by
  simp only [Ed] at hh
  split at hh
  ·cases hh
  ·rename_i hne
   simp only [List.mem_cons,not_or];exact ⟨hne,IM (by simpa using h) hh⟩
theorem IL {a:α}:∀{l:List α} {es:List MapEntry} {i j:Nat} {v:Value},Ed a l es i=some (j,v) ->i≤j∧l[j - i]?=some a∧(∃e,es[j - i]?=some e∧e.val=v)∧∀k,k<j - i ->l[k]?≠some a
 | [],[],_,_,_,h=>by simp [Ed] at h
 | [],_::_,_,_,_,h=>by simp [Ed] at h
 | b::r,[],i,_,_,h=>by simp [Ed] at h
 | b::r,e::es,i,j,v,h=>by
  simp only [Ed] at h
  split at h
  ·rename_i heq
   injection h with h;injection h with h1 h2;subst h1 h2 heq
   refine ⟨Nat.le_refl _,by simp,⟨e,by simp,rfl⟩,fun k hk=>by omega⟩
  ·rename_i hne
   obtain ⟨h1,h2,⟨e',h3,h4⟩,h5⟩:=IL h;have he:j - i=(j - (i+1))+1:=by omega
   refine ⟨by omega,by rw [he];simpa using h2,⟨e',by rw [he];simpa using h3,h4⟩,fun k hk=>?_⟩
   cases k with
   | zero=>simp;exact fun e=>hne e.symm
   | succ k=>simpa using h5 k (by omega)
structure Al (P:Program) (K:TypeId) (eK:α ->D) (kv:α ->Value):Prop where
 val:∀a,(eK a).val?=some (kv a)
 check:∀w em a,(Instr.checkKey em 10000 K (kv a)).run P w= .ok () w
 find:∀w a (es:List MapEntry) (l:List α),es.map (·.key)=l.map kv ->(Instr.findKey K (kv a) es).run P w= .ok (Ed a l es 0) w
 stays:∀w a,(Instr.keyThatStays (kv a) (kv a)).run P w= .ok (kv a) w
theorem GM {d:TypeDesc} {kv:α ->Value} (hs:∀a b,Instr.sameNow d (kv a) (kv b)=some (decide (a=b))) (a:α):∀(l:List α) (es:List MapEntry) (i:Nat),es.map (·.key)=l.map kv ->Instr.findNow d (kv a) es i=some (Ed a l es i)
 | [],[],i,_=>rfl
 | [],_::_,_,h=>by simp at h
 | _::_,[],_,h=>by simp at h
 | b::r,e::es,i,h=>by
  simp only [List.map_cons,List.cons.injEq] at h;simp only [Instr.findNow,h.1,hs,Ed]
  by_cases hab:a=b
  ·simp [hab]
  ·simp only [hab,decide_false,if_false];exact GM hs a r es (i+1) h.2
theorem EO {P:Program} {K:TypeId} {kv:α ->Value} (hs:∀w a b,(Op.equal K (kv a) (kv b)).run P w= .ok (decide (a=b)) w) (w:World) (a:α):∀(l:List α) (es:List MapEntry) (i:Nat),es.map (·.key)=l.map kv ->(Instr.findAsking K (kv a) es i).run P w= .ok (Ed a l es i) w
 | [],[],i,_=>rfl
 | [],_::_,_,h=>by simp at h
 | _::_,[],_,h=>by simp at h
 | b::r,e::es,i,h=>by
  simp only [List.map_cons,List.cons.injEq] at h;simp only [Instr.findAsking,Sem.run_bind,h.1,hs,Result.andThen_ok,Ed]
  by_cases hab:a=b
  ·simp [hab]
  ·simp only [hab,decide_false,Bool.false_eq_true,if_false];exact EO hs w a r es (i+1) h.2
theorem Al.plain {P:Program} {K:TypeId} {eK:α ->D} {kv:α ->Value} {d:TypeDesc} (hd:P.underlying K=some d) (hv:∀a,(eK a).val?=some (kv a)) (hk:∀a,MapKept.IsKey d (kv a)) (hs:∀a b,Instr.sameNow d (kv a) (kv b)=some (decide (a=b))):Al P K eK kv where
 val:=hv
 check _ em a:=MapKept.run_checkKey hd (hk a) em 9999
 find _ a es l h:=MapKept.run_findKey hd (GM hs a l es 0 h)
 stays _ a:=MapKept.run_keyThatStays (hk a)
theorem Al.asking {P:Program} {K:TypeId} {eK:α ->D} {kv:α ->Value} {d:TypeDesc} (hd:P.underlying K=some d) (hv:∀a,(eK a).val?=some (kv a)) (hc:∀w em a,(Instr.checkKey em 10000 K (kv a)).run P w= .ok () w) (hs:∀w a b,(Op.equal K (kv a) (kv b)).run P w= .ok (decide (a=b)) w) (hn:∀a b,Instr.sameNow d (kv a) (kv b)=none) (ht:∀w a,(Instr.keyThatStays (kv a) (kv a)).run P w= .ok (kv a) w):Al P K eK kv where
 val:=hv
 check:=hc
 find w a es l h:=by
  simp only [Instr.findKey,Sem.run_bind,run_underlying hd,Result.andThen_ok]
  cases es with
  | nil=>
   cases l with
   | nil=>rfl
   | cons _ _=>simp at h
  | cons e es=>
   cases l with
   | nil=>simp at h
   | cons b r=>
    have h':=h;simp only [List.map_cons,List.cons.injEq] at h;simp only [Instr.findNow,h.1,hn];exact EO hs w a _ _ 0 h'
 stays:=ht
variable {β:Type}
def B8:List (α×β) ->α ->β ->β
 | [],_,z=>z
 | (k,b)::r,a,z=>if a=k then b else B8 r a z
def GX:List (α×β) ->α ->Bool
 | [],_=>false
 | (k,_)::r,a=>decide (a=k) || GX r a
def BC:List (α×β) ->α ->β ->List (α×β)
 | [],a,b=> [(a,b)]
 | (k,b')::r,a,b=>if a=k then (k,b)::r else (k,b')::BC r a b
def Ck:List (α×β) ->α ->Nat
 | [],_=>0
 | (k,_)::r,a=>if a=k then 0 else Ck r a+1
theorem mput_ix {m:List (α×β)} {a:α} {b:β}:(BC m a b)[Ck m a]?=some (a,b)∧∀j,j≠Ck m a ->(BC m a b)[j]?=m[j]?:=by
 induction m with
 | nil=>
  refine ⟨by simp [BC,Ck],fun j hj=>?_⟩
  cases j with
  | zero=>simp [Ck] at hj
  | succ j=>simp [BC]
 | cons p r ih=>
  obtain ⟨k,b'⟩:=p
  by_cases h:a=k
  ·subst h;refine ⟨by simp [BC,Ck],fun j hj=>?_⟩
   cases j with
   | zero=>simp [Ck] at hj
   | succ j=>simp [BC]
  ·refine ⟨by simp [BC,Ck,h,ih.1],fun j hj=>?_⟩
   cases j with
   | zero=>simp [BC,h]
   | succ j=>simpa [BC,h] using ih.2 j (by simpa [Ck,h] using hj)
theorem Jd {m:List (α×β)} {a:α} {b:β}:(BC m a b).length=max m.length (Ck m a+1)∧Ck m a≤m.length:=by
 induction m with
 | nil=>simp [BC,Ck]
 | cons p r ih=>
  obtain ⟨k,b'⟩:=p
  by_cases h:a=k
  ·subst h;simp [BC,Ck]
  ·simp only [BC,Ck,h,if_false,List.length_cons];omega
theorem Bw {m:List (α×β)} {a:α}:GX m a=true↔a∈m.map Prod.fst:=by
 induction m with
 | nil=>simp [GX]
 | cons p r ih=>obtain ⟨k,b⟩:=p;simp [GX,ih]
theorem GI {m:List (α×β)} {a:α} {b z:β} (hn:(m.map Prod.fst).Nodup) (h:(a,b)∈m):B8 m a z=b:=by
 induction m with
 | nil=>cases h
 | cons p r ih=>
  obtain ⟨k,b'⟩:=p;simp only [List.map_cons,List.nodup_cons] at hn;simp only [B8];rcases List.mem_cons.1 h with h' | h'
  ·injection h' with h1 h2;subst h1 h2;simp
  ·have hne:a≠k:=fun e=>by subst e;exact hn.1 (List.mem_map_of_mem (f:=Prod.fst) h')
   rw [if_neg hne];exact ih hn.2 h'
theorem MJ {m:List (α×β)} {a:α} {z:β} (h:a∉m.map Prod.fst):B8 m a z=z:=by
 induction m with
 | nil=>rfl
 | cons p r ih=>
  obtain ⟨k,b'⟩:=p;simp only [List.map_cons,List.mem_cons,not_or] at h;simp only [B8,h.1,if_false];exact ih h.2
def BP (m:List (α×β)) (B seen:List Nat):List (α×β):=((m.zip B).filter fun p=>!(seen.contains p.2)).map Prod.fst
omit [DecidableEq α] in
theorem DJ {m:List (α×β)} {B:List Nat} (h:B.length=m.length):BP m B [] =m:=by
 unfold BP;rw [List.filter_eq_self.2 (by simp)];exact List.map_fst_zip (by omega)
omit [DecidableEq α] in
theorem Jh:∀{m:List (α×β)} {B seen:List Nat} {j b:Nat} {x:α×β},B.Nodup ->m[j]?=some x ->B[j]?=some b ->b∉seen ->(BP m B seen).Perm (x::BP m B (seen++ [b]))
 | [],_,_,_,_,_,_,h,_,_=>by simp at h
 | y::m,[],_,_,_,_,_,_,h,_=>by simp at h
 | y::m,c::B,seen,j,b,x,hn,hx,hb,hs=>by
  simp only [List.nodup_cons] at hn
  cases j with
  | zero=>
   simp at hx hb;subst hx hb
   have e:∀(m:List (α×β)) (B:List Nat),c∉B ->BP m B (seen++ [c])=BP m B seen:=fun m B h=>by
    unfold BP
    congr 1
    refine List.filter_congr fun p hp=>?_;have:p.2≠c:=fun e=>h (by rw [←e];exact (List.of_mem_zip hp).2)
    simp [this]
   have h1:BP (y::m) (c::B) seen=y::BP m B seen:=by simp [BP,hs]
   have h2:BP (y::m) (c::B) (seen++ [c])=BP m B (seen++ [c]):=by simp [BP]
   rw [h1,h2,e m B hn.1]
  | succ j=>
   have ih:=Jh (seen:=seen) hn.2 (by simpa using hx) (by simpa using hb) hs;have hbB:b∈B:=List.mem_of_getElem? (by simpa using hb);have hcb:c≠b:=fun e=>hn.1 (by rw [e];exact hbB)
   by_cases hcs:c∈seen
   ·have h1:BP (y::m) (c::B) seen=BP m B seen:=by simp [BP,hcs]
    have h2:BP (y::m) (c::B) (seen++ [b])=BP m B (seen++ [b]):=by simp [BP,hcs]
    rw [h1,h2];exact ih
   ·have h1:BP (y::m) (c::B) seen=y::BP m B seen:=by simp [BP,hcs]
    have h2:BP (y::m) (c::B) (seen++ [b])=y::BP m B (seen++ [b]):=by simp [BP,hcs,hcb]
    rw [h1,h2];exact (List.Perm.cons _ ih).trans (List.Perm.swap _ _ _)
end
def Mk:Value ->Option AV
 | .agg cs=>match D8 cs.toList with
  | none=>none
  | some l=>Ey l
 | v=>EP v
def CK (P:Program) (T:TypeId):Option AV:=match P.info? T with
 | none=>none
 | some i=>match i.zero with
  | none=>none
  | some z=>Mk z
theorem KU {v:Value} {a:AV} (h:Mk v=some a) (w:World) (O:Nat ->Prop) (ρ:Nat ->Nat ->Value):AJ w O ρ a v:=by
 unfold Mk at h
 split at h
 ·rename_i cs
  split at h
  ·cases h
  ·rename_i l hl
   obtain ⟨h1,h2⟩:=BJ hl w O ρ;have:=Cj (w:=w) (O:=O) (ρ:=ρ) h h1 h2
   simpa using this
 ·exact (Fq h).1
theorem EB {P:Program} {T:TypeId} {a:AV} (h:CK P T=some a) (w:World):∃z,(zeroValue T).run P w= .ok z w∧∀(w':World) O ρ,AJ w' O ρ a z:=by
 unfold CK at h
 split at h
 ·cases h
 ·rename_i i hi
  split at h
  ·cases h
  ·rename_i z hz
   exact ⟨z,by simp [zeroValue,typeInfo,hi,hz],fun w' O ρ=>KU h w' O ρ⟩
def Ar (P:Program) (T K E:TypeId):Bool:=match P.underlying T with
 | some (.map k e)=>Nat.beq k K && Nat.beq e E
 | _=>false
theorem LZ {P:Program} {T K E:TypeId} (h:Ar P T K E=true):P.underlying T=some (.map K E):=by
 unfold Ar at h
 split at h
 ·rename_i k e hk
  simp only [Bool.and_eq_true] at h;rw [hk,Nat.eq_of_beq_eq_true h.1,Nat.eq_of_beq_eq_true h.2]
 ·cases h
section
variable {α β:Type} [DecidableEq α]
def AU (eK:α ->D) (eV:β ->D) (m:List (α×β)):List (D×D):=m.map fun x=>(eK x.1,eV x.2)
def MK (eK:α ->D) (eV:β ->D) (m:List (α×β)):AC:= .map (some (List.range m.length,m.length)) (AU eK eV m)
def mapH (eK:α ->D) (eV:β ->D) (m:List (α×β)):AC:= .map none (AU eK eV m)
variable {P:Program} {F:Fr} {s:AS} {K:TypeId} {eK:α ->D} {kv:α ->Value} {eV:β ->D}
theorem Mf (KT:Al P K eK kv) {w:World} {O:Nat ->Prop} {m:List (α×β)} {arr:Array MapEntry} (hz:arr.size=(AU eK eV m).length)
  (h:∀(i:Nat) e x,arr[i]?=some e ->(AU eK eV m)[i]?=some x ->AK w O x.1 e.key∧AK w O x.2 e.val):arr.toList.map (·.key)=(m.map Prod.fst).map kv:=by
 simp only [AU,List.length_map] at hz;refine List.ext_getElem? fun i=>?_;simp only [List.getElem?_map,Array.getElem?_toList]
 cases ha:arr[i]? with
 | none=>
  have:arr.size≤i:=Array.getElem?_eq_none_iff.1 ha;rw [List.getElem?_eq_none (by omega)];rfl
 | some e=>
  have hlt:i<m.length:=by have:=(Array.getElem?_eq_some_iff.1 ha).1;omega
  rw [List.getElem?_eq_getElem hlt];have h1:=(h i e (eK m[i].1,eV m[i].2) ha (by simp [AU,hlt])).1;simp only [Option.map_some,Option.some.injEq];exact h1.val (KT.val _)
theorem hit_get (KT:Al P K eK kv) {w:World} {O:Nat ->Prop} {m:List (α×β)} {arr:Array MapEntry} (hz:arr.size=(AU eK eV m).length)
  (h:∀(i:Nat) e x,arr[i]?=some e ->(AU eK eV m)[i]?=some x ->AK w O x.1 e.key∧AK w O x.2 e.val) (a:α) (z:β):
  (Ed a (m.map Prod.fst) arr.toList 0=none∧GX m a=false∧B8 m a z=z∧Ck m a=m.length)∨∃i e,Ed a (m.map Prod.fst) arr.toList 0=some (i,e.val)∧arr[i]?=some e∧e.key=kv a∧GX m a=true∧Ck m a=i∧i<m.length∧AK w O (eV (B8 m a z)) e.val:=by
 have hlen:arr.toList.length=(m.map Prod.fst).length:=by simpa [AU] using hz
 cases hh:Ed a (m.map Prod.fst) arr.toList 0 with
 | none=>
  have hn:=IM hlen hh;refine .inl ⟨rfl,?_,MJ hn,?_⟩
  ·cases hm:GX m a with
   | false=>rfl
   | true=>exact absurd (Bw.1 hm) hn
  ·clear hh hlen hz h
   induction m with
   | nil=>rfl
   | cons p r ih=>
    obtain ⟨k,b⟩:=p;simp only [List.map_cons,List.mem_cons,not_or] at hn
    simp [Ck,hn.1,ih hn.2]
 | some q=>
  obtain ⟨i,v⟩:=q;obtain ⟨_,h2,⟨e,h3,h4⟩,h5⟩:=IL hh;simp only [Nat.sub_zero,Array.getElem?_toList] at h2 h3 h5;rw [List.getElem?_map] at h2
  have hi:i<m.length:=by
   cases hm:m[i]? with
   | none=>rw [hm] at h2;cases h2
   | some x=>exact (List.getElem?_eq_some_iff.1 hm).1
  have hx:(m[i]).1=a:=by rw [List.getElem?_eq_getElem hi] at h2;simpa using h2
  have hkey:Ck m a=i∧B8 m a z=(m[i]).2:=by
   clear hh hlen hz h h3 h4
   induction m generalizing i with
   | nil=>simp at hi
   | cons p r ih=>
    obtain ⟨k,b⟩:=p
    cases i with
    | zero=>simp at hx;subst hx;simp [Ck,B8]
    | succ i=>
     have hne:a≠k:=fun e=>h5 0 (by omega) (by simp [e]);have h5':∀k',k'<i ->(r.map Prod.fst)[k']?≠some a:=fun k' hk'=>by simpa using h5 (k'+1) (by omega)
     have:=ih i (Nat.zero_le _) (by rw [List.getElem?_cons_succ] at h2;exact h2) h5' (by simpa using hi) (by simpa using hx)
     simp [Ck,B8,hne,this]
  obtain ⟨g1,g2⟩:=h i e (eK m[i].1,eV m[i].2) h3 (by simp [AU,hi]);refine .inr ⟨i,e,by rw [←h4],h3,?_,Bw.2 (by rw [←hx];exact List.mem_map_of_mem (List.getElem_mem hi)),hkey.1,hi,by rw [hkey.2];exact g2⟩;have:=g1.val (KT.val _);rw [this,hx]
variable {d:Nat} {ty T E:TypeId} {pos:String} {aft:Array Edge} {g:Option (Nat×Bool)} {x y z:Operand} {bs:Option (List Nat×Nat)}
def Ej:AC ->Option (Option (List Nat×Nat)×List (D×D))
 | .map bs es=>some (bs,es)
 | .nm _ bs es=>some (bs,es)
 | _=>none
theorem AX.mapO {w:World} {O:Nat ->Prop} {ρ:Nat ->Nat ->Value} {o:AC} {v:Value} {es:List (D×D)} (h:AX w O ρ o v) (ho:Ej o=some (bs,es)):
  ∃(mb:Nat) (arr:Array MapEntry) (c:Nat),v= .map (some mb)∧w.heap[mb]?=some (.map arr c)∧arr.size=es.length∧(∀(i:Nat) e x,arr[i]?=some e ->es[i]?=some x ->AK w O x.1 e.key∧AK w O x.2 e.val)∧
   (arr.toList.map (·.born)).Nodup∧(∀e∈arr.toList,e.born<c)∧∀B c',bs=some (B,c') ->B=arr.toList.map (·.born)∧c'=c:=by
 cases o with
 | map _ _=>simp only [Ej,Option.some.injEq,Prod.mk.injEq] at ho;obtain ⟨rfl,rfl⟩:=ho;exact h
 | nm b _ _=>simp only [Ej,Option.some.injEq,Prod.mk.injEq] at ho;obtain ⟨rfl,rfl⟩:=ho;exact ⟨b,h.2.choose,h.2.choose_spec.choose,h.1,h.2.choose_spec.choose_spec⟩
 | _=>cases ho
theorem SR.mapV {ρ:Nat ->Nat ->Value} {act:Act} {w:World} (hs:SR F s ρ act w) {f i:Nat} (hx:s.ev x=some (.map f i)):act.eval x=ρ f i:=by
 have hrx:=hs.ev hx
 generalize act.eval x=vx at hrx
 cases hrx with
 | map h=>exact h.symm
theorem SR.mapAt0 {ρ:Nat ->Nat ->Value} {act:Act} {w:World} (hs:SR F s ρ act w) {f i:Nat} {o:AC} {es:List (D×D)} (hx:act.eval x=ρ f i) (ho:hget s.hp f i=some o) (hmo:Ej o=some (bs,es)):
  ∃(mb:Nat) (arr:Array MapEntry) (c:Nat),act.eval x= .map (some mb)∧ρ f i= .map (some mb)∧w.heap[mb]?=some (.map arr c)∧arr.size=es.length∧(∀(i:Nat) e x,arr[i]?=some e ->es[i]?=some x ->AK w (F.O ρ s.hp) x.1 e.key∧AK w (F.O ρ s.hp) x.2 e.val)∧
   (arr.toList.map (·.born)).Nodup∧(∀e∈arr.toList,e.born<c)∧∀B c',bs=some (B,c') ->B=arr.toList.map (·.born)∧c'=c:=by
 obtain ⟨mb,arr,c,h1,h2⟩:=(hs.heap.sim f i _ ho).mapO hmo;exact ⟨mb,arr,c,hx.trans h1,h1,h2⟩
theorem SR.mapAt {ρ:Nat ->Nat ->Value} {act:Act} {w:World} (hs:SR F s ρ act w) {f i:Nat} {es:List (D×D)} (hx:s.ev x=some (.map f i)) (ho:hget s.hp f i=some (.map bs es)):
  ∃(mb:Nat) (arr:Array MapEntry) (c:Nat),act.eval x= .map (some mb)∧ρ f i= .map (some mb)∧w.heap[mb]?=some (.map arr c)∧arr.size=es.length∧(∀(i:Nat) e x,arr[i]?=some e ->es[i]?=some x ->AK w (F.O ρ s.hp) x.1 e.key∧AK w (F.O ρ s.hp) x.2 e.val)∧
   (arr.toList.map (·.born)).Nodup∧(∀e∈arr.toList,e.born<c)∧∀B c',bs=some (B,c') ->B=arr.toList.map (·.born)∧c'=c:=
 hs.mapAt0 (hs.mapV hx) ho rfl
theorem Mp (m:List (α×β)) (a:α) (b0 v:β) {f i:Nat} {o:AC} (hx:∀ρ act w,SR F s ρ act w ->act.eval x=ρ f i) (ho:hget s.hp f i=some o) (hmo:Ej o=some (bs,AU eK eV m)) (hy:s.ev y=some (.d (eK a))) (hT:Ar P T K E=true) (KT:Al P K eK kv) (hz:CK P E=some (.d (eV b0))) (hv:B8 m a b0=v) (hd:Nat.blt d s.n=true):
  AA P F ⟨some d,.lookup T x y false,ty,pos,aft,g⟩ s d (.d (eV v)):=
 BQ _ hd fun ρ act w hs=>by
  obtain ⟨mb,arr,c,e1,_,h1,h2,h3,_⟩:=hs.mapAt0 (hx _ _ _ hs) ho hmo;have hk:act.eval y=kv a:=(hs.repD hy).val (KT.val a);obtain ⟨zv,hz1,hz2⟩:=EB hz w;subst hv;rcases hit_get KT h2 h3 a b0 with ⟨g1,_,g3,_⟩ | ⟨j,e,g1,g2,_,_,_,_,g7⟩
  ·refine ⟨zv,?_,by rw [g3];exact hz2 _ _ _⟩
   simp [execOp,Instr.lookup,run_underlying (LZ hT),e1,hk,MapKept.run_getObj_map h1,KT.check,KT.find w a _ _ (Mf KT h2 h3),g1,hz1,Result.andThen]
  ·refine ⟨e.val,?_,.d g7⟩
   simp [execOp,Instr.lookup,run_underlying (LZ hT),e1,hk,MapKept.run_getObj_map h1,KT.check,KT.find w a _ _ (Mf KT h2 h3),g1,Result.andThen]
theorem Gi (m:List (α×β)) (a:α) (b0:β) {f i:Nat} {o:AC} (hx:∀ρ act w,SR F s ρ act w ->act.eval x=ρ f i) (ho:hget s.hp f i=some o) (hmo:Ej o=some (bs,AU eK eV m)) (hy:s.ev y=some (.d (eK a))) (hT:Ar P T K E=true) (KT:Al P K eK kv) (hz:CK P E=some (.d (eV b0))) (hd:Nat.blt d s.n=true):
  AA P F ⟨some d,.lookup T x y true,ty,pos,aft,g⟩ s d (.tup [.d (eV (B8 m a b0)),.d (.raw (.bool (GX m a)))]):=
 BQ _ hd fun ρ act w hs=>by
  obtain ⟨mb,arr,c,e1,_,h1,h2,h3,_⟩:=hs.mapAt0 (hx _ _ _ hs) ho hmo;have hk:act.eval y=kv a:=(hs.repD hy).val (KT.val a);obtain ⟨zv,hz1,hz2⟩:=EB hz w
  have tup2:∀{v1 v2:Value} {a1 a2:AV},AJ w (F.O ρ s.hp) ρ a1 v1 ->AJ w (F.O ρ s.hp) ρ a2 v2 ->AJ w (F.O ρ s.hp) ρ (.tup [a1,a2]) (.tuple #[v1,v2]):=fun {v1 v2 a1 a2} h1 h2=>by
   refine .tup (vs:=[v1,v2]) rfl fun i a v ha hv=>?_;rcases i with _ | _ | i
   ·simp at ha hv;subst ha hv;exact h1
   ·simp at ha hv;subst ha hv;exact h2
   ·simp at ha
  rcases hit_get KT h2 h3 a b0 with ⟨g1,g2,g3,_⟩ | ⟨j,e,g1,g2,_,g4,_,_,g7⟩
  ·refine ⟨.tuple #[zv,.bool false],?_,tup2 (by rw [g3];exact hz2 _ _ _) (by rw [g2];exact .d (.raw rfl))⟩
   simp [execOp,Instr.lookup,run_underlying (LZ hT),e1,hk,MapKept.run_getObj_map h1,KT.check,KT.find w a _ _ (Mf KT h2 h3),g1,hz1,Result.andThen]
  ·refine ⟨.tuple #[e.val,.bool true],?_,tup2 (.d g7) (by rw [g4];exact .d (.raw rfl))⟩
   simp [execOp,Instr.lookup,run_underlying (LZ hT),e1,hk,MapKept.run_getObj_map h1,KT.check,KT.find w a _ _ (Mf KT h2 h3),g1,Result.andThen]
theorem EX (m:List (α×β)) (a:α) (b0:β) {f i:Nat} (hx:s.ev x=some (.map f i)) (ho:hget s.hp f i=some (.map bs (AU eK eV m))) (hy:s.ev y=some (.d (eK a))) (hT:Ar P T K E=true) (KT:Al P K eK kv) (hz:CK P E=some (.d (eV b0))) (hd:Nat.blt d s.n=true):
  AA P F ⟨some d,.lookup T x y true,ty,pos,aft,g⟩ s d (.tup [.d (eV (B8 m a b0)),.d (.raw (.bool (GX m a)))]):=
 Gi m a b0 (fun _ _ _ hs=>hs.mapV hx) ho rfl hy hT KT hz hd
theorem Ll {es:List (D×D)} {f i n:Nat} {o:AC} (hx:∀ρ act w,SR F s ρ act w ->act.eval x=ρ f i) (ho:hget s.hp f i=some o) (hmo:Ej o=some (bs,es)) (hn:es.length=n) (hT:Ar P T K E=true) (hd:Nat.blt d s.n=true):
  AA P F ⟨some d,.call {callee:= .builtin .len,args:= #[x],argTypes:= #[T]},ty,pos,aft,g⟩ s d (.d (.raw (.int .i64 (n:Int)))):=by
 subst hn
 exact BQ _ hd fun ρ act w hs=>by
  obtain ⟨mb,arr,c,e1,_,h1,h2,_⟩:=hs.mapAt0 (hx _ _ _ hs) ho hmo;refine ⟨.int .i64 (arr.size:Int),?_,by rw [h2];exact .d (.raw rfl)⟩;have hT':=LZ hT;have hT2:P.underlying T=some (.map (P.mapKeyOf T) (P.mapElemOf T)):=by simp [Program.mapKeyOf,Program.mapElemOf,hT']
  simp [execOp,resolve,invoke,builtin,e1,run_len_map (P:=P) w T ty mb arr c hT2 h1,Result.andThen,goInt]
theorem DU (f:Nat) {env':List (Nat×AV)} {hp1 hp':List (Nat×List AC)} (hE:AM f s.env=some env') (hH:AL f s.hp=some hp1) (hn:Bd hp1 f (.map (some ([],0)) [])=some hp') (hd:Nat.blt d s.n=true):
  AR P F ⟨some d,.makeMap T none,ty,pos,aft,g⟩ s ⟨s.n,(d,.map f 0)::env',hp'⟩ (Ae f):=fun ρ act w hs=>by
 have hrun:(execOp act.eval ⟨some d,.makeMap T none,ty,pos,aft,g⟩).run P w= .ok (.value (.map (some w.heap.size))) (w.alloc (.map #[] 0)):=by
  simp [execOp,run_makeMap,Result.andThen]
 unfold Oper.wp;rw [hrun];have hsr:=hs.new f (.map (some ([],0)) []) (.map (some w.heap.size)) (.map #[] 0) hE hH hn rfl (fun hrep=>⟨w.heap.size, #[],0,rfl,heap_alloc_new w _,rfl,by simp,by simp,by simp,fun B c' e=>by injection e with e;injection e with e1 e2;subst e1 e2;simp⟩);exact ⟨_,hsr.put (Fg hd) (.map I1),fun f i h=>H6 fun e=>KP h e.1⟩
end
end Go.Proofs.Ytlmedakidpaeeaa
/- The rules of maps' operations that write, and of ranges over maps. No program in sight. -/
namespace Go.Proofs.Ytlmedakidpaeeaa
open Go.RowKit Go.ChangeMaps
section
variable {α β:Type} [DecidableEq α]
variable {P:Program} {F:Fr} {s:AS} {K:TypeId} {eK:α ->D} {kv:α ->Value} {eV:β ->D}
variable {d:Nat} {ty T E:TypeId} {pos:String} {aft:Array Edge} {g:Option (Nat×Bool)} {x y z:Operand} {bs:Option (List Nat×Nat)}
def HT (m:List (α×β)) (a:α):Option (List Nat×Nat) ->Option (List Nat×Nat)
 | none=>none
 | some (B,c)=>if Ck m a<m.length then some (B,c) else some (B++ [c],c+1)
theorem KB (m:List (α×β)) (a:α) (b:β):HT m a (some (List.range m.length,m.length))=some (List.range (BC m a b).length,(BC m a b).length):=by
 obtain ⟨h1,h2⟩:=Jd (m:=m) (a:=a) (b:=b);unfold HT
 by_cases h:Ck m a<m.length
 ·simp only [h,if_true,show (BC m a b).length=m.length by omega]
 ·simp only [h,if_false,show (BC m a b).length=m.length+1 by omega,List.range_succ]
theorem Gn (_:Al P K eK kv) {w w':World} {O O':Nat ->Prop} {ρ:Nat ->Nat ->Value} {m:List (α×β)} {a:α} {b:β} {arr arr':Array MapEntry} {c c' mb:Nat} {v:Value}
  (hz:arr.size=(AU eK eV m).length) (h:∀(i:Nat) e x,arr[i]?=some e ->(AU eK eV m)[i]?=some x ->AK w O x.1 e.key∧AK w O x.2 e.val)
  (hn:(arr.toList.map (·.born)).Nodup) (hb:∀e∈arr.toList,e.born<c) (hbs:∀B c',bs=some (B,c') ->B=arr.toList.map (·.born)∧c'=c)
  (hrep:∀A v,AJ w O ρ A v ->AJ w' O' ρ A v) (hv:AK w' O' (eV b) v) (hkr:AK w' O' (eK a) (kv a))
  (hcase:(Ck m a=m.length∧arr'=arr.push {key:=kv a,val:=v,born:=c}∧c'=c+1)∨∃e,arr[Ck m a]?=some e∧Ck m a<m.length∧arr'=(arr.modify (Ck m a) fun e=>{e with key:=kv a,val:=v})∧c'=c)
  (hblk:w'.heap[mb]?=some (.map arr' c')):AX w' O' ρ (.map (HT m a bs) (AU eK eV (BC m a b))) (.map (some mb)):=by
 have hzm:arr.size=m.length:=by simpa [AU] using hz
 obtain ⟨l1,l2⟩:=Jd (m:=m) (a:=a) (b:=b);obtain ⟨p1,p2⟩:=mput_ix (m:=m) (a:=a) (b:=b)
 have hrepD:∀x v,AK w O x v ->AK w' O' x v:=fun x v hx=>by
  have:=hrep (.d x) v (.d hx)
  cases this with | d h=>exact h
 rcases hcase with ⟨hm,rfl,rfl⟩ | ⟨e0,he0,hlt,rfl,rfl⟩
 ·refine ⟨mb,_,_,rfl,hblk,?_,fun i e x he hx=>?_,?_,fun e he=>?_,fun B c' hB=>?_⟩
  ·simp [AU];omega
  ·have hi:i<(BC m a b).length:=by have:=(List.getElem?_eq_some_iff.1 hx).1;simpa [AU] using this
   by_cases hie:i=m.length
   ·subst hie;rw [Array.getElem?_push,if_pos hzm.symm] at he;injection he with he;subst he
    have:(AU eK eV (BC m a b))[m.length]?=some (eK a,eV b):=by
     have:=p1;rw [hm] at this;simp [AU,this]
    rw [this] at hx;injection hx with hx;subst hx
    exact ⟨hkr,hv⟩
   ·rw [Array.getElem?_push,if_neg (by omega)] at he
    have hx':(AU eK eV m)[i]?=some x:=by
     have:=p2 i (by omega);simp only [AU,List.getElem?_map,this] at hx⊢;exact hx
    obtain ⟨g1,g2⟩:=h i e x he hx';exact ⟨hrepD _ _ g1,hrepD _ _ g2⟩
  ·simp only [Array.toList_push,List.map_append,List.map_cons,List.map_nil];rw [List.nodup_append];refine ⟨hn,by simp,fun u hu v' hv'=>?_⟩
   simp at hv';subst hv'
   obtain ⟨e,he,rfl⟩:=List.mem_map.1 hu;have:=hb e he;omega
  ·simp only [Array.toList_push,List.mem_append,List.mem_cons,List.not_mem_nil,or_false] at he;rcases he with he | rfl
   ·have:=hb e he;omega
   ·show c<c+1;omega
  ·cases bs with
   | none=>cases hB
   | some q=>
    obtain ⟨B0,c0⟩:=q;obtain ⟨rfl,rfl⟩:=hbs B0 c0 rfl;simp only [HT,hm,Nat.lt_irrefl,if_false,Option.some.injEq,Prod.mk.injEq] at hB;obtain ⟨rfl,rfl⟩:=hB
    simp
 ·have hie:∀(i:Nat) e,(arr.modify (Ck m a) fun e=>{e with key:=kv a,val:=v})[i]?=some e ->∃e1,arr[i]?=some e1∧e=if i=Ck m a then {e1 with key:=kv a,val:=v} else e1:=fun i e he=>by
   rw [Array.getElem?_modify] at he
   split at he
   ·rename_i hh;subst hh
    rw [he0] at he;simp at he;subst he;exact ⟨e0,he0,by simp⟩
   ·rename_i hh;exact ⟨e,he,by rw [if_neg (fun hh'=>hh hh'.symm)]⟩
  have hborn:(arr.modify (Ck m a) fun e=>{e with key:=kv a,val:=v}).toList.map (·.born)=arr.toList.map (·.born):=by
   refine List.ext_getElem? fun i=>?_;simp only [List.getElem?_map,Array.getElem?_toList,Array.getElem?_modify]
   split
   ·rename_i hh;subst hh;rw [he0];rfl
   ·rfl
  refine ⟨mb,_,_,rfl,hblk,?_,fun i e x he hx=>?_,by rw [hborn];exact hn,fun e he=>?_,fun B c' hB=>?_⟩
  ·simp [AU];omega
  ·obtain ⟨e1,h1,rfl⟩:=hie i e he
   by_cases hii:i=Ck m a
   ·subst hii;rw [if_pos rfl];have:(AU eK eV (BC m a b))[Ck m a]?=some (eK a,eV b):=by simp [AU,p1]
    rw [this] at hx;injection hx with hx;subst hx
    exact ⟨hkr,hv⟩
   ·rw [if_neg hii]
    have hx':(AU eK eV m)[i]?=some x:=by
     have:=p2 i hii;simp only [AU,List.getElem?_map,this] at hx⊢;exact hx
    obtain ⟨g1,g2⟩:=h i e1 x h1 hx';exact ⟨hrepD _ _ g1,hrepD _ _ g2⟩
  ·have:e.born∈(arr.modify (Ck m a) fun e=>{e with key:=kv a,val:=v}).toList.map (·.born):=List.mem_map_of_mem (f:=(·.born)) he;rw [hborn] at this;obtain ⟨e1,h1,h2⟩:=List.mem_map.1 this;rw [←h2];exact hb e1 h1
  ·cases bs with
   | none=>cases hB
   | some q=>
    obtain ⟨B0,c0⟩:=q;simp only [HT,hlt,if_true,Option.some.injEq,Prod.mk.injEq] at hB;obtain ⟨rfl,rfl⟩:=hB;rw [hborn];exact hbs _ _ rfl
theorem ZbR {w:World} {b:Nat} {o:Obj} {i:Nat} (h:i≠b):(setBlock w b o).heap[i]?=w.heap[i]?:=by
 simp [setBlock,Ne.symm h]
theorem Bk {w:World} {b:Nat} {o o':Obj} (h:w.heap[b]?=some o'):(setBlock w b o).heap[b]?=some o:=by
 have:=(Array.getElem?_eq_some_iff.1 h).1
 simp [setBlock,this]
theorem ZbP {w:World} {b:Nat} {o:Obj}:(setBlock w b o).heap.size=w.heap.size:=by simp [setBlock]
theorem JP (m:List (α×β)) (a:α) (b:β) {f i:Nat} {hp':List (Nat×List AC)} (hx:s.ev x=some (.map f i)) (ho:hget s.hp f i=some (.map bs (AU eK eV m))) (hy:s.ev y=some (.d (eK a))) (hT:Ar P T K E=true) (KT:Al P K eK kv) (hz:s.ev z=some (.d (eV b)))
  (hh:Ab s.hp f i (.map (HT m a bs) (AU eK eV (BC m a b)))=some hp'):AR P F ⟨none,.mapUpdate T x y z,ty,pos,aft,g⟩ s ⟨s.n,s.env,hp'⟩ (fun _ _=>true):=fun ρ act w hs=>by
 obtain ⟨mb,arr,c,e1,e2,h1,h2,h3,h4,h5,h6⟩:=hs.mapAt hx ho;have hk:act.eval y=kv a:=(hs.repD hy).val (KT.val a);have hkr:AK w (F.O ρ s.hp) (eK a) (kv a):=hk▸hs.repD hy;have hvr:=hs.ev hz
 have fin:∀arr' c',(execOp act.eval ⟨none,.mapUpdate T x y z,ty,pos,aft,g⟩).run P w= .ok .skip (setBlock w mb (.map arr' c')) ->((Ck m a=m.length∧arr'=arr.push {key:=kv a,val:=act.eval z,born:=c}∧c'=c+1)∨∃e,arr[Ck m a]?=some e∧Ck m a<m.length∧arr'=(arr.modify (Ck m a) fun e=>{e with key:=kv a,val:=act.eval z})∧c'=c)→
   (⟨none,.mapUpdate T x y z,ty,pos,aft,g⟩:Oper).wp P act w (fun act' w'=>∃ρ',SR F ⟨s.n,s.env,hp'⟩ ρ' act' w'∧∀f i,(fun _ _=>true) f i=true ->ρ' f i=ρ f i) (fun _ _ _=>False):=fun arr' c' hrun hcase=>by
  unfold Oper.wp;rw [hrun];refine ⟨ρ,hs.write f i _ (.map (HT m a bs) (AU eK eV (BC m a b))) ho (A3 hh) Z Z Z ZbP (fun b' hb'=>ZbR fun e=>hb' (by rw [e2,e];rfl)) (fun _ _ e=>by cases e) fun hrep=>?_,fun _ _ _=>rfl⟩;rw [e2];refine Gn KT h2 h3 h4 h5 h6 hrep (by have:=hrep _ _ hvr;cases this with | d h=>exact h) ?_ hcase (Bk h1);have:=hrep (.d (eK a)) _ (.d hkr)
  cases this with | d h=>exact h
 rcases hit_get KT h2 h3 a b with ⟨g1,_,_,g4⟩ | ⟨j,e,g1,g2,g3,_,g5,g6,_⟩
 ·refine fin _ _ ?_ (.inl ⟨g4,rfl,rfl⟩)
  simp [execOp,Instr.mapUpdate,run_underlying (LZ hT),e1,hk,MapKept.run_getObj_map h1,KT.check,KT.find w a _ _ (Mf KT h2 h3),g1,Result.andThen,MapKept.run_setObj_map _ h1,setBlock]
 ·refine fin _ _ ?_ (.inr ⟨e,by rw [g5];exact g2,by rw [g5];exact g6,rfl,rfl⟩)
  simp [execOp,Instr.mapUpdate,run_underlying (LZ hT),e1,hk,MapKept.run_getObj_map h1,KT.check,KT.find w a _ _ (Mf KT h2 h3),g1,g2,g3,g5,Result.andThen,MapKept.run_setObj_map _ h1,setBlock,KT.stays]
theorem I7 {n:Nat} {env:List (Nat×AV)} {hp hp':List (Nat×List AC)} (m:List (α×β)) (a:α) (b:β) {f i:Nat} (hx:AS.ev ⟨n,env,hp⟩ x=some (.map f i)) (ho:hget hp f i=some (MK eK eV m)) (hy:AS.ev ⟨n,env,hp⟩ y=some (.d (eK a))) (hT:Ar P T K E=true) (KT:Al P K eK kv) (hz:AS.ev ⟨n,env,hp⟩ z=some (.d (eV b)))
  (hh:Ab hp f i (MK eK eV (BC m a b))=some hp'):AR P F ⟨none,.mapUpdate T x y z,ty,pos,aft,g⟩ ⟨n,env,hp⟩ ⟨n,env,hp'⟩ (fun _ _=>true):=
 JP (s:=⟨n,env,hp⟩) m a b hx ho hy hT KT hz (by rw [KB (b:=b)];exact hh)
theorem Mo {n:Nat} {env:List (Nat×AV)} {hp hp':List (Nat×List AC)} (m:List (α×β)) (a:α) (b:β) {f i:Nat} (hx:AS.ev ⟨n,env,hp⟩ x=some (.map f i)) (ho:hget hp f i=some (mapH eK eV m)) (hy:AS.ev ⟨n,env,hp⟩ y=some (.d (eK a))) (hT:Ar P T K E=true) (KT:Al P K eK kv) (hz:AS.ev ⟨n,env,hp⟩ z=some (.d (eV b)))
  (hh:Ab hp f i (mapH eK eV (BC m a b))=some hp'):AR P F ⟨none,.mapUpdate T x y z,ty,pos,aft,g⟩ ⟨n,env,hp⟩ ⟨n,env,hp'⟩ (fun _ _=>true):=
 JP (s:=⟨n,env,hp⟩) m a b hx ho hy hT KT hz hh
theorem Lj (gf:Nat) {f i c:Nat} {B:List Nat} {es:List (D×D)} {env':List (Nat×AV)} {hp1 hp':List (Nat×List AC)} {o:AC} (hx:∀ρ act w,SR F s ρ act w ->act.eval x=ρ f i) (ho:hget s.hp f i=some o) (hmo:Ej o=some (some (B,c),es)) (hne:Nat.beq f gf=false) (hT:Ar P T K E=true)
  (hE:AM gf s.env=some env') (hH:AL gf s.hp=some hp1) (hn:Bd hp1 gf (.iter f i c [])=some hp') (hd:Nat.blt d s.n=true):
  AR P F ⟨some d,.range T x,ty,pos,aft,g⟩ s ⟨s.n,(d,.ptr gf 0 0)::env',hp'⟩ (Ae gf):=fun ρ act w hs=>by
 obtain ⟨mb,arr,c',e1,e2,h1,h2,h3,h4,h5,h6⟩:=hs.mapAt0 (hx _ _ _ hs) ho hmo;obtain ⟨_,rfl⟩:=h6 _ _ rfl
 have hrun:(execOp act.eval ⟨some d,.range T x,ty,pos,aft,g⟩).run P w= .ok (.value (.pointer (some ⟨w.heap.size,0,none⟩))) (w.alloc (.mapIter (some mb) c #[] c)):=by
  simp [execOp,Instr.range,run_underlying (LZ hT),e1,MapKept.run_getObj_map h1,Result.andThen]
 unfold Oper.wp;rw [hrun];have hsr:=hs.new gf (.iter f i c []) (.pointer (some ⟨w.heap.size,0,none⟩)) (.mapIter (some mb) c #[] c) hE hH hn rfl (fun hrep=>⟨w.heap.size,mb, #[],rfl,by rw [H6 (fun e=>(Nat.ne_of_beq_eq_false hne) e.1)];exact e2,heap_alloc_new w _,rfl⟩);exact ⟨_,hsr.put (Fg hd) (.ptr I1),fun f i h=>H6 fun e=>KP h e.1⟩
omit [DecidableEq α] in
theorem o_next0 {Q:Exit ->AS ->Prop} {ops:Array Oper} {rest:List Oper} {n:Nat} {env:List (Nat×AV)} {hp:List (Nat×List AC)} (m:List (α×β)) {gf f i c:Nat} {o:AC} {B seen:List Nat} (hx:AS.ev ⟨n,env,hp⟩ x=some (.ptr gf 0 0)) (hi:hget hp gf 0=some (.iter f i c seen)) (ho:hget hp f i=some o) (hmo:Ej o=some (some (B,c),AU eK eV m)) (hd:Nat.blt d n=true)
  (h0:BP m B seen=[] ->A1 P F ops rest Q ⟨n,(d,.tup [.d (.raw (.bool false))])::env,hp⟩)
  (h1:∀(j b:Nat) (k:α) (v:β),m[j]?=some (k,v) ->B[j]?=some b ->B.Nodup ->(BP m B seen).Perm ((k,v)::BP m B (seen++ [b])) ->∃hp',Ab hp gf 0 (.iter f i c (seen++ [b]))=some hp'∧A1 P F ops rest Q ⟨n,(d,.tup [.d (.raw (.bool true)),.d (eK k),.d (eV v)])::env,hp'⟩):
  A1 P F ops (⟨some d,.next x false,ty,pos,aft,none⟩::rest) Q ⟨n,env,hp⟩:=fun ρ act w hs=>by
 obtain ⟨r,mb,sn,q1,q2,q3,q4⟩:=hs.heap.sim gf 0 _ hi;obtain ⟨mb',arr,c',p1,p2,p3,p4,p5,p6,p7⟩:=(hs.heap.sim f i _ ho).mapO hmo;obtain ⟨hB,hc⟩:=p7 _ _ rfl;subst hc;have:mb'=mb:=by rw [p1] at q2;injection q2 with q2;injection q2 with q2
 subst this
 have hxv:act.eval x= .pointer (some ⟨r,0,none⟩):=by
  have hr:=hs.ev hx
  generalize act.eval x=vx at hr
  cases hr with
  | ptr h=>rw [q1] at h;injection h with h;injection h with h;injection h with h;subst h;rfl
 have hzm:arr.size=m.length:=by simpa [AU] using p3
 have hBn:B.Nodup:=hB▸p5;have hBl:B.length=m.length:=by rw [hB];simp [hzm]
 refine wpListIn_plain rfl fun Kk hk=>DT rfl ?_;rcases run_next_at (P:=P) w ty r mb' c c sn arr c q3 p2 (fun e he=>p6 e he) (Nat.le_refl _) with ⟨hz,hrun⟩ | ⟨e,he,w1,hw1,hrun⟩
 ·have hl0:BP m B seen=[]:=by
   have hz':arr.filter (fun e=>!sn.contains e.born)= #[]:=Array.eq_empty_of_size_eq_zero hz;rw [Array.filter_eq_empty_iff] at hz';unfold BP;rw [List.map_eq_nil_iff,List.filter_eq_nil_iff];intro q hq hs';obtain ⟨j,hj,rfl⟩:=List.getElem_of_mem hq;rw [List.length_zip] at hj;have hja:j<arr.size:=by omega
   have h2:=hz' arr[j] (by simp);rw [List.getElem_zip] at hs'
   have h3:B[j]'(by omega)=arr[j].born:=by
    have:=congrArg (·[j]?) hB;simp only [List.getElem?_map,Array.getElem?_toList,Array.getElem?_eq_getElem hja,Option.map_some] at this;rw [List.getElem?_eq_getElem (by omega)] at this;injection this
   simp only [h3,←q4] at hs';simp only [Array.contains_toList] at hs';exact absurd hs' (by simpa using h2)
  have hex:(execOp act.eval ⟨some d,.next x false,ty,pos,aft,none⟩).run P w= .ok (.value (.tuple #[.bool false])) w:=by
   simp [execOp,hxv,hrun,Result.andThen]
  unfold Oper.wp;rw [hex]
  exact hk _ _ (h0 hl0 ρ _ w (hs.put (Fg hd) (.tup (vs:=[.bool false]) rfl fun i a v ha hv=>by
   rcases i with _ | i
   ·simp at ha hv;subst ha hv;exact .d (.raw rfl)
   ·simp at ha)))
 ·have he':e∈arr∧(!sn.contains e.born)=true:=by
   have:e∈arr.filter (fun e=>!sn.contains e.born):=by simpa [leftOf] using he
   rwa [Array.mem_filter] at this
  obtain ⟨j,hj,rfl⟩:=Array.getElem_of_mem he'.1;have hjm:j<m.length:=by omega
  have hBj:B[j]?=some arr[j].born:=by rw [hB];simp [hj]
  obtain ⟨g1,g2⟩:=p4 j arr[j] (eK m[j].1,eV m[j].2) (Array.getElem?_eq_getElem hj) (by simp [AU,hjm])
  have hns:arr[j].born∉seen:=by
   rw [←q4];have:=he'.2
   simpa using this
  have hperm:=Jh hBn (List.getElem?_eq_getElem hjm) hBj hns;obtain ⟨hp',hh,hA⟩:=h1 j _ m[j].1 m[j].2 (List.getElem?_eq_getElem hjm) hBj hBn hperm
  have hex:(execOp act.eval ⟨some d,.next x false,ty,pos,aft,none⟩).run P w= .ok (.value (.tuple #[.bool true,arr[j].key,arr[j].val])) (setBlock w1 r (.mapIter (some mb') c (sn.push arr[j].born) c)):=by
   simp [execOp,hxv,hrun,Result.andThen]
  unfold Oper.wp;rw [hex]
  have hs1:SR F ⟨n,env,hp⟩ ρ act w1:=by
   rcases hw1 with rfl | rfl
   ·exact hs
   ·exact hs.drew Z Z Z Z
  have q3':w1.heap[r]?=some (.mapIter (some mb') c sn c):=by rcases hw1 with rfl | rfl<;>exact q3
  have hr1:AK w1 (F.O ρ hp) (eK m[j].1) arr[j].key∧AK w1 (F.O ρ hp) (eV m[j].2) arr[j].val:=by
   rcases hw1 with rfl | rfl
   ·exact ⟨g1,g2⟩
   ·exact ⟨g1.mono (w:=w) (w':=w.drew) (Nat.le_refl _) (fun _ _ _=>rfl) (fun _ _ h=>h),g2.mono (w:=w) (w':=w.drew) (Nat.le_refl _) (fun _ _ _=>rfl) (fun _ _ h=>h)⟩
  have hw:=hs1.write gf 0 _ (.iter f i c (seen++ [arr[j].born])) (w':=setBlock w1 r (.mapIter (some mb') c (sn.push arr[j].born) c)) hi (A3 hh) Z Z Z ZbP (fun b' hb'=>ZbR fun e=>hb' (by rw [q1,e];rfl)) (fun _ _ e=>by cases e) fun hrep=>by
   exact ⟨r,mb',sn.push arr[j].born,q1,q2,Bk q3',by simp [q4]⟩
  have hO:∀b,F.O ρ hp' b ->F.O ρ hp b:=fun b hh'=>by
   rcases hh' with hh' | ⟨f',i',o1,k1,k2⟩
   ·exact .inl hh'
   ·refine .inr ?_
    by_cases e:f'=gf∧i'=0
    ·obtain ⟨rfl,rfl⟩:=e;exact ⟨f',0,_,hi,k2⟩
    ·rw [A3 hh,if_neg e] at k1;exact ⟨f',i',o1,k1,k2⟩
  have hbb:∀b,b<w1.heap.size ->¬F.O ρ hp b ->(setBlock w1 r (.mapIter (some mb') c (sn.push arr[j].born) c)).heap[b]?=w1.heap[b]?:=fun b _ hn=>ZbR fun e=>hn (.inr ⟨gf,0,_,hi,by rw [q1,e];rfl⟩);refine hk _ _ (hA ρ _ _ (hw.put (Fg hd) (.tup (vs:=[.bool true,arr[j].key,arr[j].val]) rfl fun i a v ha hv=>?_)));rcases i with _ | _ | _ | i
  ·simp at ha hv;subst ha hv;exact .d (.raw rfl)
  ·simp at ha hv;subst ha hv;exact .d (hr1.1.mono (Nat.le_of_eq ZbP.symm) hbb (fun b _=>hO b))
  ·simp at ha hv;subst ha hv;exact .d (hr1.2.mono (Nat.le_of_eq ZbP.symm) hbb (fun b _=>hO b))
  ·simp at ha
omit [DecidableEq α] in
omit [DecidableEq α] in
theorem Lm (m:List (α×β)) (j b:Nat) {k:α} {v:β} {gf f i c:Nat} {o:AC} {B seen:List Nat} (hx:s.ev x=some (.ptr gf 0 0)) (hi:hget s.hp gf 0=some (.iter f i c (seen++ [b]))) (ho:hget s.hp f i=some o) (hmo:Ej o=some (some (B,c),AU eK eV m)) (hm:m[j]?=some (k,v)) (hb:B[j]?=some b) (hd:Nat.blt d s.n=true):
  AA P F ⟨some d,.entry x,ty,pos,aft,g⟩ s d (.tup [.d (eK k),.d (eV v)]):=
 BQ _ hd fun ρ act w hs=>by
  obtain ⟨r,mb,sn,q1,q2,q3,q4⟩:=hs.heap.sim gf 0 _ hi;obtain ⟨mb',arr,c',p1,p2,p3,p4,p5,p6,p7⟩:=(hs.heap.sim f i _ ho).mapO hmo;obtain ⟨hB,hc⟩:=p7 _ _ rfl;subst hc;have:mb'=mb:=by rw [p1] at q2;injection q2 with q2;injection q2 with q2
  subst this
  have hxv:act.eval x= .pointer (some ⟨r,0,none⟩):=by
   have hr:=hs.ev hx
   generalize act.eval x=vx at hr
   cases hr with
   | ptr h=>rw [q1] at h;injection h with h;injection h with h;injection h with h;subst h;rfl
  have hjm:j<m.length:=(List.getElem?_eq_some_iff.1 hm).1;have hzm:arr.size=m.length:=by simpa [AU] using p3
  have hbe:arr[j].born=b:=by
   rw [hB] at hb;simpa [show j<arr.size by omega] using hb
  have hsn:sn=(⟨seen⟩:Array Nat).push arr[j].born:=by
   apply Array.ext'
   rw [q4,Array.toList_push,hbe]
  rw [hsn] at q3;have hrun:=run_entry_at (P:=P) w r mb' c ⟨seen⟩ arr c arr[j] q3 p2 (by simp) p5;obtain ⟨g1,g2⟩:=p4 j arr[j] (eK k,eV v) (Array.getElem?_eq_getElem (by omega)) (by simp [AU,hm]);refine ⟨.tuple #[arr[j].key,arr[j].val],by simp [execOp,hxv,hrun,Result.andThen],.tup (vs:=[arr[j].key,arr[j].val]) rfl fun i a v ha hv=>?_⟩;rcases i with _ | _ | i
  ·simp at ha hv;subst ha hv;exact .d g1
  ·simp at ha hv;subst ha hv;exact .d g2
  ·simp at ha
omit [DecidableEq α] in
end
end Go.Proofs.Ytlmedakidpaeeaa
/- Keys of plain types. No program in sight. -/
namespace Go.Proofs.Ytlmedakidpaeeaa
open Go.RowKit
theorem Al.int {P:Program} {K:TypeId} (hK:P.underlying K=some (.int .i64)):Al P K (fun z:Int=> .raw (.int .i64 z)) (fun z=> .int .i64 z):=
 Al.plain hK (fun _=>rfl) (fun _=>rfl) fun a b=>by simp [Instr.sameNow];rfl
def KV (l:List UInt8):Value:= .string ⟨l.toArray⟩
theorem IV (a b:List UInt8):((⟨a.toArray⟩:ByteArray)==⟨b.toArray⟩)=decide (a=b):=by
 rw [beq_toListBytes,ByteArray.toList_eq,ByteArray.toList_eq]
 by_cases h:a=b
 ·subst h;simp
 ·simp [h]
theorem Al.str {P:Program} {K:TypeId} (hK:P.underlying K=some .string):Al P K AP KV:=
 Al.plain hK (fun _=>rfl) (fun _=>trivial) fun a b=>by simp only [Instr.sameNow,KV,IV]
def FF (rec:TypeId ->Option (List TypeDesc)):Nat ->List Field ->Option (List TypeDesc)
 | _,[] =>some []
 | off,f::fs=>match rec f.type with
  | none=>none
  | some ds=>match FF rec (off+ds.length) fs with
   | none=>none
   | some r=>match Nat.beq f.offset off && f.name != "_" with
    | true=>some (ds++r)
    | false=>none
def CO (P:Program):Nat ->TypeId ->Option (List TypeDesc)
 | 0,_=>none
 | m+1,T=>match P.underlying T with
  | some (.int k)=>some [.int k]
  | some .string=>some [.string]
  | some .bool=>some [.bool]
  | some (.struct fs)=>match FF (CO P m) 0 fs.toList with
   | none=>none
   | some ds=>match A2 P T ds.length && !P.stoodInHeld T with
    | true=>some ds
    | false=>none
  | _=>none
def Ai (ds:List TypeDesc) (us:List Value):Prop:=us.length=ds.length∧∀(i:Nat) d u,ds[i]?=some d ->us[i]?=some u ->MapKept.IsKey d u
def El (P:Program) (T:TypeId):Bool:=match P.underlying T with
 | some (.struct _)=>true
 | _=>false
def Ih (P:Program) (T:TypeId) (us:List Value):Value:=match El P T with
 | true=> .agg us.toArray
 | false=>us.headD undef
def HQ:Value ->Value ->Bool
 | .int _ a,.int _ b=>a==b
 | .string a,.string b=>a.toList==b.toList
 | .bool a,.bool b=>a==b
 | _,_=>false
def Av:List Value ->List Value ->Bool
 | [],[] =>true
 | a::r,b::s=>HQ a b && Av r s
 | _,_=>false
theorem HP {a a' b b':List Value} (h:a.length=b.length):Av (a++a') (b++b')=(Av a b && Av a' b'):=by
 induction a generalizing b with
 | nil=>
  cases b with
  | nil=>simp [Av]
  | cons _ _=>simp at h
 | cons x r ih=>
  cases b with
  | nil=>simp at h
  | cons y s=>simp only [List.cons_append,Av,ih (show r.length=s.length by simpa using h),Bool.and_assoc]
theorem Ai.split {ds ds':List TypeDesc} {us:List Value} (h:Ai (ds++ds') us):Ai ds (us.take ds.length)∧Ai ds' (us.drop ds.length):=by
 obtain ⟨h1,h2⟩:=h;rw [List.length_append] at h1;refine ⟨⟨by simp;omega,fun i d u hd hu=>?_⟩,⟨by simp;omega,fun i d u hd hu=>?_⟩⟩
 ·have hi:i<ds.length:=(List.getElem?_eq_some_iff.1 hd).1;rw [List.getElem?_take_of_lt hi] at hu;exact h2 i d u (by rw [List.getElem?_append_left hi];exact hd) hu
 ·rw [List.getElem?_drop] at hu;refine h2 (ds.length+i) d u ?_ hu;rw [List.getElem?_append_right (by omega),show ds.length+i - ds.length=i by omega];exact hd
section
variable {P:Program}
theorem D6 {m:Nat} {T:TypeId} {ds:List TypeDesc} (h:CO P m T=some ds) (hs:El P T=false):∃d,ds=[d]∧P.underlying T=some d∧((∃k,d= .int k)∨d= .string∨d= .bool):=by
 cases m with
 | zero=>cases h
 | succ m=>
  unfold CO at h;unfold El at hs
  split at h
  ·rename_i k hk;injection h with h;subst h;exact ⟨_,rfl,hk,.inl ⟨k,rfl⟩⟩
  ·rename_i hk;injection h with h;subst h;exact ⟨_,rfl,hk,.inr (.inl rfl)⟩
  ·rename_i hk;injection h with h;subst h;exact ⟨_,rfl,hk,.inr (.inr rfl)⟩
  ·rename_i fs hk;rw [hk] at hs;cases hs
  ·cases h
theorem D5 {m:Nat} {T:TypeId} {ds:List TypeDesc} (h:CO P m T=some ds) (hs:El P T=true):∃m' fs,m=m'+1∧P.underlying T=some (.struct fs)∧FF (CO P m') 0 fs.toList=some ds∧A2 P T ds.length=true∧P.stoodInHeld T=false:=by
 cases m with
 | zero=>cases h
 | succ m=>
  unfold CO at h;unfold El at hs
  split at h
  ·rename_i k hk;rw [hk] at hs;cases hs
  ·rename_i hk;rw [hk] at hs;cases hs
  ·rename_i hk;rw [hk] at hs;cases hs
  ·rename_i fs hk
   split at h
   ·cases h
   ·rename_i ds' hds
    split at h
    ·rename_i hb
     injection h with h;subst h
     simp only [Bool.and_eq_true,Bool.not_eq_true'] at hb;exact ⟨m,fs,rfl,hk,hds,hb.1,hb.2⟩
    ·cases h
  ·cases h
theorem Cn {m:Nat} {T:TypeId} {ds:List TypeDesc} (h:CO P m T=some ds) (w:World) (us:List Value) (off:Nat) (hl:off+ds.length≤us.length):(part T us.toArray off).run P w= .ok (Ih P T ((us.drop off).take ds.length)) w:=by
 cases hs:El P T with
 | false=>
  obtain ⟨d,rfl,hd,hk⟩:=D6 h hs
  have ha:(isAgg T).run P w= .ok false w:=by
   rcases hk with ⟨k,rfl⟩ | rfl | rfl<;>simp [isAgg,run_underlying hd,Result.andThen]
  have hlt:off<us.length:=by simp at hl;omega
  simp only [part,Sem.run_bind,ha,Result.andThen_ok,Bool.false_eq_true,if_false,Ih,hs];rw [List.getElem?_toArray,List.getElem?_eq_getElem hlt];simp only [Sem.run_pure,List.length_cons,List.length_nil];rw [List.drop_eq_getElem_cons hlt];rfl
 | true=>
  obtain ⟨m',fs,rfl,hd,_,hz,_⟩:=D5 h hs;have ha:(isAgg T).run P w= .ok true w:=by simp [isAgg,run_underlying hd,Result.andThen]
  have hz':=ZbM (P:=P) (Mb hz) w;simp only [part,Sem.run_bind,ha,Result.andThen_ok,if_true,hz',Sem.run_pure,Ih,hs]
  congr 2
  apply Array.ext'
  simp
theorem Fb:∀(m:Nat) (T:TypeId) (ds:List TypeDesc),CO P m T=some ds ->∀(d:Nat) (us vs:List Value),Ai ds us ->Ai ds vs ->∀w,(Op.equalIn (d+m) T (Ih P T us) (Ih P T vs)).run P w= .ok (Av us vs) w
 | 0,_,_,h=>by cases h
 | m+1,T,ds,h=>fun d us vs hu hv w=>by
  cases hs:El P T with
  | false=>
   obtain ⟨d',rfl,hd,hk⟩:=D6 h hs;obtain ⟨u,rfl⟩:=List.length_eq_one_iff.1 hu.1;obtain ⟨v,rfl⟩:=List.length_eq_one_iff.1 hv.1;have k1:=hu.2 0 d' u Z Z;have k2:=hv.2 0 d' v Z Z;simp only [Ih,hs,List.headD_cons,Av,Bool.and_true];rcases hk with ⟨k,rfl⟩ | rfl | rfl
   ·cases u<;>cases v<;>simp only [MapKept.IsKey] at k1 k2
    subst k1 k2;exact run_equalIn_int w (d+m) T _ _ _ _ hd
   ·cases u<;>cases v<;>simp only [MapKept.IsKey] at k1 k2
    exact run_equalIn_string w (d+m) T _ _ hd
   ·cases u<;>cases v<;>simp only [MapKept.IsKey] at k1 k2
    exact run_equalIn_bool' w (d+m) T _ _ hd
  | true=>
   obtain ⟨m',fs,hm,hd,hfl,hz,hst⟩:=D5 h hs;injection hm with hm;subst hm
   have hf:P.fieldsOf T=fs:=by simp [Program.fieldsOf,hd]
   simp only [Ih,hs];rw [←Nat.add_assoc,run_equalIn_struct w (d+m) T _ _ (by rw [hf];exact hd) hst,hf]
   -- along the fields
   have key:∀(fs:List Field) (off:Nat) (ds:List TypeDesc) (us vs:List Value),FF (CO P m) off fs=some ds ->Ai ds (us.drop off) ->Ai ds (vs.drop off) ->off≤us.length ->off≤vs.length ->(Op.eqFields (d+m) us.toArray vs.toArray fs).run P w= .ok (Av (us.drop off) (vs.drop off)) w:=by
    intro fs
    induction fs with
    | nil=>
     intro off ds us vs h hu hv _ _;simp only [FF,Option.some.injEq] at h;subst h;rw [List.eq_nil_of_length_eq_zero hu.1,List.eq_nil_of_length_eq_zero hv.1];rfl
    | cons f fs ih=>
     intro off ds us vs h hu hv hou hov;simp only [FF] at h
     split at h
     ·cases h
     ·rename_i d1 h1
      split at h
      ·cases h
      ·rename_i r hr
       split at h
       ·rename_i hb
        injection h with h;subst h
        simp only [Bool.and_eq_true] at hb;have hoff:=Nat.eq_of_beq_eq_true hb.1;have hname:f.name≠ "_" :=by simpa using hb.2
        have lu:=hu.1;have lv:=hv.1;rw [List.length_append,List.length_drop] at lu lv;have hl1:off+d1.length≤us.length:=by omega
        have hl2:off+d1.length≤vs.length:=by omega
        obtain ⟨u1,u2⟩:=hu.split;obtain ⟨v1,v2⟩:=hv.split;rw [List.drop_drop] at u2 v2;have e1:=Cn h1 w us off hl1;have e2:=Cn h1 w vs off hl2;have e3:=Fb m f.type d1 h1 d _ _ u1 v1 w;have e4:=ih (off+d1.length) r us vs hr u2 v2 hl1 hl2;simp only [Op.eqFields,hname,ne_eq,not_false_eq_true,if_true,hoff,Sem.run_bind,e1,e2,e3,Result.andThen_ok]
        have hsplit:Av (us.drop off) (vs.drop off)=(Av ((us.drop off).take d1.length) ((vs.drop off).take d1.length) && Av (us.drop (off+d1.length)) (vs.drop (off+d1.length))):=by
         rw [←List.drop_drop,←List.drop_drop,←HP (by simp;omega),List.take_append_drop,List.take_append_drop]
        rw [hsplit]
        cases hc:Av ((us.drop off).take d1.length) ((vs.drop off).take d1.length) with
        | false=>simp
        | true=>simp only [Bool.not_true,Bool.false_eq_true,if_false,Bool.true_and];exact e4
       ·cases h
   have:=key fs.toList 0 ds us vs hfl (by simpa using hu) (by simpa using hv) (Nat.zero_le _) (Nat.zero_le _)
   simpa using this
theorem En (em:Bool):∀(m:Nat) (T:TypeId) (ds:List TypeDesc),CO P m T=some ds ->∀(d:Nat) (us:List Value),Ai ds us ->∀w,(Instr.checkKey em (d+m) T (Ih P T us)).run P w= .ok () w
 | 0,_,_,h=>by cases h
 | m+1,T,ds,h=>fun d us hu w=>by
  cases hs:El P T with
  | false=>
   obtain ⟨d',rfl,hd,hk⟩:=D6 h hs;obtain ⟨u,rfl⟩:=List.length_eq_one_iff.1 hu.1;have k1:=hu.2 0 d' u Z Z;simp only [Ih,hs,List.headD_cons];exact MapKept.run_checkKey hd k1 em (d+m)
  | true=>
   obtain ⟨m',fs,hm,hd,hfl,hz,hst⟩:=D5 h hs;injection hm with hm;subst hm
   simp only [Ih,hs];rw [←Nat.add_assoc];simp only [Instr.checkKey,Sem.run_bind,run_underlying hd,Result.andThen_ok];rw [←Array.forIn_toList];have h0:Ai ds (us.drop 0):=by simpa using hu
   have hou:0≤us.length:=Nat.zero_le _
   clear h hs hz hu hd hst
   generalize fs.toList=fl at hfl⊢
   generalize (0:Nat)=off at hfl h0 hou
   induction fl generalizing off ds with
   | nil=>rfl
   | cons f fl ih=>
    simp only [FF] at hfl
    split at hfl
    ·cases hfl
    ·rename_i d1 h1
     split at hfl
     ·cases hfl
     ·rename_i r hr
      split at hfl
      ·rename_i hb
       injection hfl with hfl;subst hfl
       simp only [Bool.and_eq_true] at hb;have hoff:=Nat.eq_of_beq_eq_true hb.1;have hname:f.name≠ "_" :=by simpa using hb.2
       have lu:=h0.1;rw [List.length_append,List.length_drop] at lu;have hl1:off+d1.length≤us.length:=by omega
       obtain ⟨u1,u2⟩:=h0.split;rw [List.drop_drop] at u2;have e1:=Cn h1 w us off hl1;have e3:=En em m f.type d1 h1 d _ u1 w;have e4:=ih r (off+d1.length) hr u2 hl1;rw [List.forIn_cons];simp only [hname,ne_eq,not_false_eq_true,if_true,hoff,Sem.run_bind,e1,e3,Result.andThen_ok,Sem.run_pure] at e4⊢;exact e4
      ·cases hfl
theorem EH {d:TypeDesc} {u:Value} (h:MapKept.IsKey d u) (n:Nat):Instr.sameBits n u u=true:=by
 cases d<;>cases u<;>simp only [MapKept.IsKey] at h<;>cases n<;>simp [Instr.sameBits]<;>exact (beq_toListBytes _ _).trans (by simp)
theorem KW {m:Nat} {T:TypeId} {ds:List TypeDesc} (h:CO P m T=some ds) {us:List Value} (hu:Ai ds us) (w:World):(Instr.keyThatStays (Ih P T us) (Ih P T us)).run P w= .ok (Ih P T us) w:=by
 have:Instr.sameBits 10000 (Ih P T us) (Ih P T us)=true:=by
  cases hs:El P T with
  | false=>
   obtain ⟨d',rfl,hd,hk⟩:=D6 h hs;obtain ⟨u,rfl⟩:=List.length_eq_one_iff.1 hu.1;simp only [Ih,hs,List.headD_cons];exact EH (hu.2 0 d' u Z Z) _
  | true=>
   simp only [Ih,hs];show Instr.sameBits (9999+1) _ _=true;simp only [Instr.sameBits,beq_self_eq_true,Bool.true_and,List.all_eq_true];intro p hp;obtain ⟨i,hi,e⟩:=List.getElem_of_mem hp;rw [List.getElem_zip] at e;rw [←e]
   simp only
   have hi':i<us.length:=by simpa using hi
   have hd:i<ds.length:=by rw [←hu.1];exact hi'
   exact EH (hu.2 i ds[i] us[i] (List.getElem?_eq_getElem hd) (List.getElem?_eq_getElem hi')) _
 simp [Instr.keyThatStays,this]
theorem Al.flat {α:Type} [DecidableEq α] {K:TypeId} {eK:α ->D} {cl:α ->List Value} {ds:List TypeDesc} (hf:CO P 8 K=some ds) (hs:El P K=true) (hv:∀a,(eK a).val?=some (.agg (cl a).toArray)) (hp:∀a,Ai ds (cl a)) (he:∀a b,Av (cl a) (cl b)=decide (a=b)):Al P K eK fun a=> .agg (cl a).toArray:=by
 have hm:∀a,Ih P K (cl a)= .agg (cl a).toArray:=fun a=>by simp only [Ih,hs]
 obtain ⟨m',fs,_,hd,_⟩:=D5 hf hs;refine Al.asking hd hv (fun w em a=>?_) (fun w a b=>?_) (fun a b=>by simp [Instr.sameNow]) (fun w a=>?_)
 ·have:=En em 8 K ds hf 9992 (cl a) (hp a) w
  rwa [hm] at this
 ·have:=Fb 8 K ds hf 9992 (cl a) (cl b) (hp a) (hp b) w;rw [hm,hm,he] at this;exact this
 ·have:=KW hf (hp a) w
  rwa [hm] at this
end
theorem IJ:∀a b:List UInt8,Op.bytesLess b a=(!Op.bytesLess a b && !a==b)
 | [],[] =>rfl
 | [],_::_=>rfl
 | _::_,[] =>rfl
 | x::a,y::b=>by
  have ih:=IJ a b;rcases Nat.lt_trichotomy x.toNat y.toNat with h | h | h
  ·have h1:x<y:=UInt8.lt_iff_toNat_lt.2 h;have h2:¬y<x:=fun h'=>by have:=UInt8.lt_iff_toNat_lt.1 h';omega
   have h3:y≠x:=fun e=>by subst e;omega
   simp [Op.bytesLess,h1,h2,h3]
  ·have h1:x=y:=UInt8.toNat_inj.1 h;subst h1;have h2:¬x<x:=fun h'=>by have:=UInt8.lt_iff_toNat_lt.1 h';omega
   simp [Op.bytesLess,h2,ih]
  ·have h1:y<x:=UInt8.lt_iff_toNat_lt.2 h;have h2:¬x<y:=fun h'=>by have:=UInt8.lt_iff_toNat_lt.1 h';omega
   have h3:x≠y:=fun e=>by subst e;omega
   simp [Op.bytesLess,h1,h2,h3]
section
variable {P:Program} {F:Fr} {s:AS} {d:Nat} {ty T T':TypeId} {pos:String} {aft:Array Edge} {g:Option (Nat×Bool)} {x y:Operand}
theorem LA {a b:ByteArray} (hx:s.ev x=some (.d (.raw (.string a)))) (hy:s.ev y=some (.d (.raw (.string b)))) (hd:Nat.blt d s.n=true):AA P F ⟨some d,.binOp .gtr T x y T',ty,pos,aft,g⟩ s d (.d (.raw (.bool (Op.bytesLess b.toList a.toList)))):=
 BQ _ hd fun _ act _ hs=>⟨.bool (Op.bytesLess b.toList a.toList),by simp [execOp,eqGuard,binOp,Op.stringOp,hs.raw hx,hs.raw hy,IJ a.toList b.toList],.d (.raw rfl)⟩
end
section
variable {P:Program} {F:Fr} {s:AS} {d:Nat} {ty T T' E:TypeId} {pos:String} {aft:Array Edge} {g:Option (Nat×Bool)} {at_:Array TypeId} {x:Operand}
end
theorem SR.ghost {F:Fr} {s:AS} {ρ:Nat ->Nat ->Value} {act:Act} {w:World} (h:SR F s ρ act w) (g f i:Nat) (hne:Nat.beq f g=false) {env':List (Nat×AV)} {hp1 hp':Hp} (hE:AM g s.env=some env') (hH:AL g s.hp=some hp1) (hn:Bd hp1 g (.addr f i (ρ f i))=some hp'):
  SR F ⟨s.n,env',hp'⟩ (Cw ρ g 0 .nilFunc) act w:=by
 obtain ⟨h1,h2⟩:=D3 hn
 refine h.set g 0 (.addr f i (ρ f i)) .nilFunc hE hH h1 (fun t cs hh=>?_) (fun b hb=>by cases hb) Z Z Z (Nat.le_refl _) (fun _ _ _=>rfl) fun _=>⟨rfl,H6 fun e=>(Nat.ne_of_beq_eq_false hne) e.1⟩
 obtain ⟨_,k2⟩:=AW hH;obtain ⟨o,ho,_⟩:=k2 _ _ _ hh;rw [h2] at ho;cases ho
section
variable {P:Program} {F:Fr} {Q:Exit ->AS ->Prop} {c:Code} {ops:Array Oper} {l:List Oper} {n:Nat} {env env':List (Nat×AV)} {hp hp1:Hp}
theorem Bz (g f i:Nat) {t:TypeId} {cs:List AV} (ho:hget hp f i=some (.blk t cs)) (hne:Nat.beq f g=false) (hE:AM g env=some env') (hH:AL g hp=some hp1) (hz:hfam hp1 g=none)
  (h:∀b:Nat,Az P F c Q ⟨n,env',(g,[.addr f i (.pointer (some ⟨b,0,none⟩))])::hp1⟩):Az P F c Q ⟨n,env,hp⟩:=fun ρ act w hs=>by
 obtain ⟨b,_,e,_⟩:=hs.heap.sim f i _ ho;exact h b _ act w (hs.ghost g f i hne hE hH (by rw [e];unfold Bd;rw [hz];rfl))
end
section
variable {P:Program} {F:Fr} {Q:Exit ->AS ->Prop} {c:Code} {ops:Array Oper} {l:List Oper} {n:Nat} {env env':List (Nat×AV)} {hp hp1:Hp}
end
section
variable {P:Program} {F:Fr} {s:AS} {d:Nat} {ty T:TypeId} {pos:String} {aft:Array Edge} {g:Option (Nat×Bool)} {x:Operand}
end
abbrev pV (b off:Nat):Value:= .pointer (some ⟨b,off,none⟩)
abbrev pD (b off:Nat):D:= .raw (pV b off)
abbrev sV (b n cap:Nat):Value:= .slice (some ⟨b,0,none⟩) n cap
abbrev MF:=Nat ->Option A0
def Ax (M:MF) (b:Nat) (m:A0):MF:=fun i=>if i=b then some m else M i
def GJ (M:MF) (b:Nat):MF:=fun i=>if i=b then none else M i
theorem Dx (M:MF) (b:Nat) (m:A0):Ax M b m b=some m:=by unfold Ax;rw [if_pos rfl]
theorem GT {M:MF} {b i:Nat} {m:A0} (h:i≠b):Ax M b m i=M i:=by unfold Ax;rw [if_neg h]
theorem II (M:MF) (b:Nat):GJ M b b=none:=by unfold GJ;rw [if_pos rfl]
theorem F5 {M:MF} {b i:Nat} (h:i≠b):GJ M b i=M i:=by unfold GJ;rw [if_neg h]
def Ac:Hp ->Nat ->MF ->Option Hp
 | [],_,_=>none
 | (k,l)::r,f,M=>match Nat.beq k f with
  | true=>match isM l with
   | some _=>some ((k,[.multi M])::r)
   | none=>none
  | false=>match Ac r f M with
   | none=>none
   | some r'=>some ((k,l)::r')
theorem De {hp:Hp} {f:Nat} {M:MF} (h:hfam hp f=some [.multi M]) (b:Nat):hget hp f b=(M b).map (A0.at_ b):=by unfold hget;rw [h];rfl
theorem B1 {hp hp':Hp} {f:Nat} {M':MF} (h:Ac hp f M'=some hp'):∀g i,hget hp' g i=if g=f then (M' i).map (A0.at_ i) else hget hp g i:=by
 induction hp generalizing hp' with
 | nil=>simp [Ac] at h
 | cons p r ih=>
  obtain ⟨k,l⟩:=p;simp only [Ac] at h
  split at h
  ·rename_i hk
   have hk':=Nat.eq_of_beq_eq_true hk;subst hk'
   split at h
   ·injection h with h;subst h
    intro g i
    by_cases e:k=g
    ·subst e;rw [if_pos rfl];simp only [hget,hfam,Nat.beq_refl,Option.bind_some,gl,isM]
    ·rw [if_neg (fun h=>e h.symm)];simp only [hget,hfam,C8 e]
   ·cases h
  ·rename_i hk
   have hk':=Nat.ne_of_beq_eq_false hk
   split at h
   ·cases h
   ·rename_i r' hr
    injection h with h;subst h
    intro g i
    by_cases e:k=g
    ·subst e;rw [if_neg hk'];simp only [hget,hfam,Nat.beq_refl]
    ·have:=ih hr g i;simp only [hget,hfam,C8 e] at this⊢;exact this
theorem SR.writeM {F:Fr} {s:AS} {ρ:Nat ->Nat ->Value} {act:Act} {w w':World} (h:SR F s ρ act w) (f b:Nat) {M:MF} {m m':A0} {hp':Hp} (hM:hfam s.hp f=some [.multi M]) (hb:M b=some m) (hh:Ac s.hp f (Ax M b m')=some hp') (hos:w'.os=w.os) (htape:w'.tape=w.tape) (hout:w'.output=w.output) (hs:w'.heap.size=w.heap.size)
  (hk:∀b',b'≠b ->w'.heap[b']?=w.heap[b']?) (hv:An (ρ f b)=some b) (hsim:(∀A v,AJ w (F.O ρ s.hp) ρ A v ->AJ w' (F.O ρ hp') ρ A v) ->AX w' (F.O ρ hp') ρ (m'.at_ b) (ρ f b)) (hdr:w.drawn≤w'.drawn:=by exact Nat.le_refl _):SR F ⟨s.n,s.env,hp'⟩ ρ act w':=by
 refine h.write f b (m.at_ b) (m'.at_ b) (by rw [De hM,hb];rfl) (fun g i=>?_) hos htape hout hs (fun b' hb'=>hk b' fun e=>hb' (by rw [hv,e])) (fun t cs e=>absurd e A0.notBlk) hsim hdr;rw [B1 hh]
 by_cases e:g=f
 ·subst e;rw [if_pos rfl,De hM]
  by_cases e2:i=b
  ·subst e2;rw [if_pos ⟨rfl,rfl⟩,Dx];rfl
  ·rw [if_neg (fun h=>e2 h.2),GT e2]
 ·rw [if_neg e,if_neg (fun h=>e h.1)]
theorem SR.writeN {F:Fr} {s:AS} {ρ:Nat ->Nat ->Value} {act:Act} {w w':World} (h:SR F s ρ act w) (f b:Nat) {M:MF} {m m':A0} {hp':Hp} (hM:hfam s.hp f=some [.multi M]) (hb:M b=some m) (hh:Ac s.hp f (Ax M b m')=some hp') (hos:w'.os=w.os) (htape:w'.tape=w.tape) (hout:w'.output=w.output) (hs:w'.heap.size=w.heap.size)
  (hk:∀b',b'≠b ->w'.heap[b']?=w.heap[b']?) (hv:ρ f b=pV b 0) (hsim:(∀A v,AJ w (F.O ρ s.hp) ρ A v ->AJ w' (F.O ρ hp') ρ A v) ->AX w' (F.O ρ hp') ρ (m'.at_ b) (ρ f b)) (hdr:w.drawn≤w'.drawn:=by exact Nat.le_refl _):SR F ⟨s.n,s.env,hp'⟩ ρ act w':=
 h.writeM f b hM hb hh hos htape hout hs hk (by rw [hv];rfl) hsim hdr
theorem SR.cellsN {F:Fr} {s:AS} {ρ:Nat ->Nat ->Value} {act:Act} {w:World} (h:SR F s ρ act w) {f b:Nat} {M:MF} {t:TypeId} {cs:List D} (hM:hfam s.hp f=some [.multi M]) (hb:M b=some (.cells t cs)):ρ f b=pV b 0∧∃us:List Value,w.heap[b]?=some (.cells us.toArray t (0,0))∧us.length=cs.length∧(∀(j:Nat) c u,cs[j]?=some c ->us[j]?=some u ->AK w (F.O ρ s.hp) c u)∧∀u∈us,u.oneCell'=true:=
 h.heap.sim f b (.nb b t cs) (by rw [De hM,hb];rfl)
theorem SR.rowN {F:Fr} {s:AS} {ρ:Nat ->Nat ->Value} {act:Act} {w:World} (h:SR F s ρ act w) {f b:Nat} {M:MF} {t:TypeId} {k cap:Nat} {xs:List D} (hM:hfam s.hp f=some [.multi M]) (hb:M b=some (.row t k cap xs)):ρ f b=pV b 0∧∃us:List Value,w.ownsRow 0 t k (sV b xs.length cap) xs.length us∧EU D.cells k (AK w (F.O ρ s.hp)) xs us∧∀x∈xs,∀c∈x.cells,c.one=true:=
 h.heap.sim f b (.nr b t k cap xs) (by rw [De hM,hb];rfl)
section
variable {P:Program} {F:Fr} {s:AS} {d:Nat} {x y:Operand} {T E:TypeId} {ty:TypeId} {pos:String} {aft:Array Edge} {g:Option (Nat×Bool)} {k:IntKind} {i:Int}
theorem KK {b off:Nat} (hx:s.ev x=some (.d (pD b off))) (hd:Nat.blt d s.n=true):AA P F ⟨some d,.nilCheck x,ty,pos,aft,g⟩ s d (.d (pD b off)):=
 BQ _ hd fun _ act w hs=>⟨pV b off,by simp [execOp,hs.raw hx],.d (.raw rfl)⟩
theorem CD {b off off' o n i:Nat} {r:Bool} (hx:s.ev x=some (.d (pD b off))) (hf:A6 P T i=some (o,n,r)) (hn:Nat.blt 0 n=true) (ho:off+o=off') (hd:Nat.blt d s.n=true):
  AA P F ⟨some d,.fieldAddr T x i,ty,pos,aft,g⟩ s d (.d (pD b off')):=
 BQ _ hd fun ρ act w hs=>by
  have h:=hs.raw hx;subst ho;exact ⟨pV b (off+o),by simp [execOp,h,Bp hf hn],.d (.raw rfl)⟩
theorem KI {f b off:Nat} {M:MF} {t:TypeId} {cs:List D} {c:D} (hx:s.ev x=some (.d (pD b off))) (hM:hfam s.hp f=some [.multi M]) (hb:M b=some (.cells t cs)) (hc:cs[off]?=some c) (hT:BG P T=true) (hd:Nat.blt d s.n=true):
  AA P F ⟨some d,.load T x,ty,pos,aft,g⟩ s d (.d c):=
 BQ _ hd fun ρ act w hs=>by
  have hrx:=hs.raw hx;obtain ⟨_,us,h1,h2,h3,h4⟩:=hs.cellsN hM hb;have hlt:off<us.length:=by rw [h2];exact (List.getElem?_eq_some_iff.1 hc).1
  have hcell:w.cell? ⟨b,off,none⟩=some us[off]:=by
   rw [cell_of_row w b off us.toArray t (0,0) h1];simp [hlt]
  exact ⟨us[off],by simp [execOp,hrx,Instr.loadAt,Instr.sureAddr,loadVar,Bi hT,hcell],.d (h3 off c _ hc (List.getElem?_eq_getElem hlt))⟩
theorem HY {a:Option Addr} {n cap:Nat} (hx:s.ev x=some (.d (.raw (.slice a n cap)))) (hT:P.underlying T=some (.slice E)) (hd:Nat.blt d s.n=true):
  AA P F ⟨some d,.call {callee:= .builtin .len,args:= #[x],argTypes:= #[T]},ty,pos,aft,g⟩ s d (.d (.raw (.int .i64 (n:Int)))):=
 BQ _ hd fun _ act w hs=>⟨_,by simp [execOp,resolve,invoke,builtin,Builtin.len_,run_underlying hT,hs.raw hx,goInt],.d (.raw rfl)⟩
theorem DB {b n cap kk:Nat} (m:Nat) (hx:s.ev x=some (.d (.raw (sV b n cap)))) (hy:s.ev y=some (.d (.raw (.int k i)))) (hi:i=(m:Int)) (hm:m<n) (hT:P.underlying T=some (.slice E)) (hE:A2 P E kk=true) (hd:Nat.blt d s.n=true):
  AA P F ⟨some d,.indexAddr T x y,ty,pos,aft,g⟩ s d (.d (pD b (m*kk))):=
 BQ _ hd fun ρ act w hs=>by
  have hrx:=hs.raw hx;subst hi;exact ⟨pV b (m*kk),by simp [execOp,Instr.indexAt,asIntOf,hs.raw hy,hrx,run_underlying hT,hm,ZbM (Mb hE),Addr.add_mid],.d (.raw rfl)⟩
theorem ZbQ {f b off kk e cap:Nat} {M:MF} {t:TypeId} {xs:List D} {z c:D} {p:Nat} (hx:s.ev x=some (.d (pD b p))) (hp:p=e*kk+off) (hM:hfam s.hp f=some [.multi M]) (hb:M b=some (.row t kk cap xs)) (hz:xs[e]?=some z) (hc:z.cells[off]?=some c) (hT:BG P T=true) (hd:Nat.blt d s.n=true):
  AA P F ⟨some d,.load T x,ty,pos,aft,g⟩ s d (.d c):=
 BQ _ hd fun ρ act w hs=>by
  subst hp;have hrx:=hs.raw hx;obtain ⟨_,us,h1,h2,h3⟩:=hs.rowN hM hb;obtain ⟨g1,g2⟩:=h1;have hlt:e<xs.length:=(List.getElem?_eq_some_iff.1 hz).1;rcases g2 with ⟨e1,_⟩ | ⟨b',cap',cur,e1,_,h6,h7,h8,h9,h10⟩
  ·cases e1
  ·injection e1 with e2 e3 e4;injection e2 with e2;injection e2 with e2;subst e2
   obtain ⟨u,h11,h12,h13⟩:=h2.2.2 e z hz off c hc;have hcell:=Br h6 h10 h11;exact ⟨u,by simp [execOp,hrx,Instr.loadAt,Instr.sureAddr,loadVar,Bi hT,hcell],.d h13⟩
end
theorem SR.move {F:Fr} {s:AS} {ρ:Nat ->Nat ->Value} {act:Act} {w:World} (hs:SR F s ρ act w) (f1 i1 f2 i2:Nat) {o1 o2:AC} {v2:Value} {env':List (Nat×AV)} {hp':Hp}
  (h1:hget s.hp f1 i1=some o1) (hn2:hget s.hp f2 i2=none) (hv:An v2=An (ρ f1 i1)) (hp1:F.pin f1 i1=none)
  (ha:∀f i o',hget hp' f i=some o' ->(f=f2∧i=i2∧o'=o2)∨(¬(f=f2∧i=i2)∧¬(f=f1∧i=i1)∧∃o,hget s.hp f i=some o∧(∀w O ρ v,AX w O ρ o v ->AX w O ρ o' v)∧¬o'.Refs f2 i2))
  (hb:hget hp' f2 i2=some o2) (hc:∀f i t cs,hget s.hp f i=some (.blk t cs) ->¬(f=f1∧i=i1) ->∃cs',hget hp' f i=some (.blk t cs'))
  (hcc:∀f i o,hget s.hp f i=some o ->¬(f=f1∧i=i1) ->∃o',hget hp' f i=some o')
  (hE:∀t a,get env' t=some a ->AJ w (F.O ρ s.hp) ρ a (act.tmps.getD t undef)∧¬a.Refs f2 i2)
  (hsim:AX w (F.O ρ s.hp) (Cw ρ f2 i2 v2) o2 v2):SR F ⟨s.n,env',hp'⟩ (Cw ρ f2 i2 v2) act w:=by
 have hown:∀b,AY (Cw ρ f2 i2 v2) hp' b↔AY ρ s.hp b:=fun b=>by
  constructor
  ·rintro ⟨f,i,o',ho,hbk⟩;rcases ha f i o' ho with ⟨rfl,rfl,rfl⟩ | ⟨e2,_,o,h3,_⟩
   ·rw [I1,hv] at hbk;exact ⟨f1,i1,o1,h1,hbk⟩
   ·rw [H6 e2] at hbk;exact ⟨f,i,o,h3,hbk⟩
  ·rintro ⟨f,i,o,ho,hbk⟩
   by_cases e:f=f1∧i=i1
   ·obtain ⟨rfl,rfl⟩:=e;exact ⟨f2,i2,o2,hb,by rw [I1,hv];exact hbk⟩
   ·have e2:¬(f=f2∧i=i2):=fun e2=>by rw [e2.1,e2.2,hn2] at ho;cases ho
    obtain ⟨o',h3⟩:=hcc f i o ho e;exact ⟨f,i,o',h3,by rw [H6 e2];exact hbk⟩
 have hO:F.O (Cw ρ f2 i2 v2) hp'=F.O ρ s.hp:=funext fun b=>propext ⟨fun h=>h.imp id (hown b).1,fun h=>h.imp id (hown b).2⟩;have href:∀(f i:Nat),¬(f=f2∧i=i2) ->Cw ρ f2 i2 v2 f i=ρ f i:=fun f i e=>H6 e;refine ⟨hs.size,hO▸hs.defs,fun t a hta=>?_,?_⟩
 ·obtain ⟨h3,h4⟩:=hE t a hta;show AJ w (F.O (Cw ρ f2 i2 v2) hp') _ _ _;rw [hO];exact h3.mono (Nat.le_refl _) (fun _ _ _=>rfl) (fun _ _ h=>h) fun f i hr=>href f i fun e=>h4 (by rw [←e.1,←e.2];exact hr)
 ·refine ⟨fun f i o' ho=>?_,fun f i f' i' o o' b ho ho' hbk hbk'=>?_,fun b hbk=>hs.heap.mine b ((hown b).1 hbk),hs.heap.os,hs.heap.tape,hs.heap.output,hs.heap.size0,hs.heap.keep,fun f i b hpin=>?_,hs.heap.drawn⟩
  ·show AX w (F.O (Cw ρ f2 i2 v2) hp') _ _ _;rw [hO];rcases ha f i o' ho with ⟨rfl,rfl,rfl⟩ | ⟨e2,_,o,h3,h4,h5⟩
   ·rw [I1];exact hsim
   ·rw [H6 e2];exact (h4 _ _ _ _ (hs.heap.sim f i o h3)).mono (Nat.le_refl _) (fun _ _ _=>rfl) (fun _ _ h=>h) (fun _ _=>rfl) fun f' i' hr=>href f' i' fun e=>h5 (by rw [←e.1,←e.2];exact hr)
  ·rcases ha f i o ho with ⟨rfl,rfl,_⟩ | ⟨e2,e3,q,h3,_⟩<;>rcases ha f' i' o' ho' with ⟨rfl,rfl,_⟩ | ⟨e2',e3',q',h3',_⟩
   ·exact ⟨rfl,rfl⟩
   ·rw [I1,hv] at hbk;rw [H6 e2'] at hbk';exact absurd (hs.heap.inj f' i' f1 i1 q' o1 b h3' h1 hbk' hbk) e3'
   ·rw [I1,hv] at hbk';rw [H6 e2] at hbk;exact absurd (hs.heap.inj f i f1 i1 q o1 b h3 h1 hbk hbk') e3
   ·rw [H6 e2] at hbk;rw [H6 e2'] at hbk';exact hs.heap.inj f i f' i' q q' b h3 h3' hbk hbk'
  ·obtain ⟨a1,t,cs,a2⟩:=hs.heap.pins f i b hpin;have e1:¬(f=f1∧i=i1):=fun e=>by rw [e.1,e.2,hp1] at hpin;cases hpin
   have e2:¬(f=f2∧i=i2):=fun e=>by rw [e.1,e.2,hn2] at a2;cases a2
   obtain ⟨cs',h3⟩:=hc f i t cs a2 e1;exact ⟨by rw [H6 e2];exact a1,t,cs',h3⟩
theorem Gv {F:Fr} {pn:List Nat} {g i:Nat} (hF:F.pn=pn) (h:memB g pn=false):F.pin g i=none:=by
 cases hh:F.pin g i with
 | none=>rfl
 | some b=>
  have:=Dt.2 (hF▸F.hpn g i b hh);rw [h] at this;cases this
theorem SR.absorb {F:Fr} {s:AS} {ρ:Nat ->Nat ->Value} {act:Act} {w:World} (hs:SR F s ρ act w) (t g f:Nat) {M:MF} {T:TypeId} {cs:List AV} {ds:List D} {pn:List Nat} {env1 env':List (Nat×AV)} {hp1 hp2 hp3:Hp} {hp':Nat ->Hp} (hF:F.pn=pn) (hpn:memB g pn=false) (hne:Nat.beq g f=false)
  (ht:get s.env t=some (.ptr g 0 0)) (hone:hfam s.hp g=some [.blk T cs]) (hcs:cs=ds.map .d) (hM:hfam s.hp f=some [.multi M]) (hE:AM g s.env=some env1) (hE2:AM f env1=some env') (hH:AL g s.hp=some hp1) (hH2:AL f hp1=some hp2) (hh:BA g hp2=some hp3) (hm:∀b,Ac hp3 f (Ax M b (.cells T ds))=some (hp' b)):
  ∃b,M b=none∧SR F ⟨s.n,(t,.d (pD b 0))::env',hp' b⟩ (Cw ρ f b (pV b 0)) act w:=by
 subst hcs;have hgf:g≠f:=Nat.ne_of_beq_eq_false hne;have ho:hget s.hp g 0=some (.blk T (ds.map .d)):=by unfold hget;rw [hone];rfl
 obtain ⟨b,us,hρ,k1,k2,k3,k4⟩:=hs.heap.sim g 0 _ ho
 have hMb:M b=none:=by
  cases hmb:M b with
  | none=>rfl
  | some m=>
   have h2:hget s.hp f b=some (m.at_ b):=by rw [De hM,hmb];rfl
   have hv:An (ρ f b)=some b:=by
    have:=hs.heap.sim f b _ h2
    cases m with
    | cells _ _=>rw [this.1];rfl
    | row _ _ _ _=>rw [this.1];rfl
    | map _ _=>rw [this.1];rfl
   exact absurd (hs.heap.inj g 0 f b _ _ b ho h2 (by rw [hρ];rfl) hv).1 hgf
 refine ⟨b,hMb,?_⟩;obtain ⟨a1,a2⟩:=AW hH;obtain ⟨c1,c2⟩:=AW hH2;have hd:=FD hh;have hg':=B1 (hm b);have hfam3:∀i,hget hp3 f i=hget hp2 f i:=fun i=>by rw [hd,if_neg (fun e=>hgf e.symm)]
 refine hs.move g 0 f b ho (by simp only [De hM,hMb,Option.map_none]) (by rw [hρ]) (Gv hF hpn) (fun f' i o' hq=>?_) (by rw [hg',if_pos rfl,Dx];rfl) (fun f' i t' cs' hq hne'=>?_) (fun f' i o hq hne'=>?_) (fun t' a ha=>?_) ?_
 ·rw [hg'] at hq
  by_cases e:f'=f
  ·subst e;rw [if_pos rfl] at hq
   by_cases e2:i=b
   ·subst e2;rw [Dx] at hq;injection hq with hq
    exact .inl ⟨rfl,rfl,hq.symm⟩
   ·rw [GT e2] at hq;refine .inr ⟨fun h=>e2 h.2,fun h=>hgf h.1.symm,o',by rw [De hM];exact hq,fun _ _ _ _ h=>h,?_⟩
    cases hmi:M i with
    | none=>rw [hmi] at hq;cases hq
    | some m=>rw [hmi] at hq;injection hq with hq;subst hq;exact A0.norefs
  ·rw [if_neg e,hd] at hq
   split at hq
   ·cases hq
   ·rename_i e3
    obtain ⟨o2,q1,q2⟩:=c1 _ _ _ hq;obtain ⟨o3,q3,q4⟩:=a1 _ _ _ q1;exact .inr ⟨fun h=>e h.1,fun h=>e3 h.1,o3,q3,fun w O ρ v h=>q2.1 _ _ _ _ (q4.1 _ _ _ _ h),fun hr=>KP (q2.2.1 _ _ hr) rfl⟩
 ·have e1:f'≠f:=fun e=>by
   subst e;rw [De hM] at hq
   cases hmi:M i with
   | none=>rw [hmi] at hq;cases hq
   | some m=>rw [hmi] at hq;injection hq with hq;exact A0.notBlk hq
  obtain ⟨o2,q1,q2⟩:=a2 _ _ _ hq;obtain ⟨cs2,rfl⟩:=q2.2.2.1 _ _ rfl;obtain ⟨o3,q3,q4⟩:=c2 _ _ _ q1;obtain ⟨cs3,rfl⟩:=q4.2.2.1 _ _ rfl;refine ⟨cs3,?_⟩;rw [hg',if_neg e1,hd,if_neg]
  ·exact q3
  ·rintro rfl
   have:i=0:=by
    unfold hget at hq;rw [hone] at hq
    match i,hq with
    | 0,_=>rfl
    | i+1,hq=>cases hq
   exact hne' ⟨rfl,this⟩
 ·by_cases e:f'=f
  ·subst e
   by_cases e2:i=b
   ·subst e2;rw [De hM,hMb] at hq;cases hq
   ·exact ⟨o,by rw [hg',if_pos rfl,GT e2,←De hM];exact hq⟩
  ·obtain ⟨o2,q1,q2⟩:=a2 _ _ _ hq;obtain ⟨o3,q3,q4⟩:=c2 _ _ _ q1;refine ⟨o3,?_⟩;rw [hg',if_neg e,hd,if_neg]
   ·exact q3
   ·rintro rfl
    have:i=0:=by
     unfold hget at hq;rw [hone] at hq
     match i,hq with
     | 0,_=>rfl
     | i+1,hq=>cases hq
    exact hne' ⟨rfl,this⟩
 ·rcases G9 ha with ⟨rfl,rfl⟩ | ⟨_,ha⟩
  ·have hr:=hs.env t _ ht
   generalize act.tmps.getD t undef=x at hr
   cases hr with
   | @ptr _ _ _ b' hb'=>
    rw [hρ] at hb';injection hb' with hb';injection hb' with hb';injection hb' with hb';subst hb'
    exact ⟨.d (.raw rfl),fun h=>by cases h⟩
  ·rcases Ak hE2 ha with rfl | ⟨h3,h4⟩
   ·exact ⟨.top,fun h=>by cases h⟩
   ·rcases Ak hE h3 with rfl | ⟨h5,_⟩
    ·exact ⟨.top,fun h=>by cases h⟩
    ·exact ⟨hs.env t' _ h5,h4 b⟩
 ·refine ⟨rfl,us,k1,by rw [k2,List.length_map],fun j c u hc hu=>?_,k4⟩;have:=k3 j (.d c) u (by rw [List.getElem?_map,hc];rfl) hu
  cases this with | d h=>exact h
theorem A0.val {F:Fr} {s:AS} {ρ:Nat ->Nat ->Value} {act:Act} {w:World} (hs:SR F s ρ act w) {f b:Nat} {M:MF} {m:A0} (hM:hfam s.hp f=some [.multi M]) (hb:M b=some m):An (ρ f b)=some b:=by
 have h2:hget s.hp f b=some (m.at_ b):=by rw [De hM,hb];rfl
 have:=hs.heap.sim f b _ h2
 cases m with
 | cells _ _=>rw [this.1];rfl
 | row _ _ _ _=>rw [this.1];rfl
 | map _ _=>rw [this.1];rfl
def A0.v (i:Nat):A0 ->Value
 | .map _ _=> .map (some i)
 | _=>pV i 0
theorem A0.valE {F:Fr} {s:AS} {ρ:Nat ->Nat ->Value} {act:Act} {w:World} (hs:SR F s ρ act w) {f b:Nat} {M:MF} {m:A0} (hM:hfam s.hp f=some [.multi M]) (hb:M b=some m):ρ f b=m.v b:=by
 have h2:hget s.hp f b=some (m.at_ b):=by rw [De hM,hb];rfl
 have:=hs.heap.sim f b _ h2
 cases m with
 | cells _ _=>exact this.1
 | row _ _ _ _=>exact this.1
 | map _ _=>exact this.1
theorem idx0 {hp:Hp} {g i:Nat} {o q:AC} (hone:hfam hp g=some [o]) (hm:Ke o=true) (h:hget hp g i=some q):i=0:=by
 unfold hget at h;rw [hone] at h;have h2:[o][i]?=some q:=by rw [←Fy hm];exact h
 match i,h2 with
 | 0,_=>rfl
 | i+1,h2=>cases h2
theorem moved {hp hp1 hp2 hp3 hp':Hp} {g f b:Nat} {M:MF} {m:A0} {o:AC} (hgf:g≠f) (hone:hfam hp g=some [o]) (hnm:Ke o=true) (hM:hfam hp f=some [.multi M]) (hMb:M b=none) (hH:AL g hp=some hp1) (hH2:AL f hp1=some hp2) (hh:BA g hp2=some hp3) (hm:Ac hp3 f (Ax M b m)=some hp'):
  (∀f' i o',hget hp' f' i=some o' ->(f'=f∧i=b∧o'=m.at_ b)∨(¬(f'=f∧i=b)∧¬(f'=g∧i=0)∧∃o,hget hp f' i=some o∧(∀w O ρ v,AX w O ρ o v ->AX w O ρ o' v)∧¬o'.Refs f b))∧hget hp' f b=some (m.at_ b)∧
  (∀f' i t cs,hget hp f' i=some (.blk t cs) ->¬(f'=g∧i=0) ->∃cs',hget hp' f' i=some (.blk t cs'))∧(∀f' i o,hget hp f' i=some o ->¬(f'=g∧i=0) ->∃o',hget hp' f' i=some o'):=by
 obtain ⟨a1,a2⟩:=AW hH;obtain ⟨c1,c2⟩:=AW hH2;have hd:=FD hh;have hg':=B1 hm;refine ⟨fun f' i o' hq=>?_,by rw [hg',if_pos rfl,Dx];rfl,fun f' i t' cs' hq hne'=>?_,fun f' i o hq hne'=>?_⟩
 ·rw [hg'] at hq
  by_cases e:f'=f
  ·subst e;rw [if_pos rfl] at hq
   by_cases e2:i=b
   ·subst e2;rw [Dx] at hq;injection hq with hq
    exact .inl ⟨rfl,rfl,hq.symm⟩
   ·rw [GT e2] at hq;refine .inr ⟨fun h=>e2 h.2,fun h=>hgf h.1.symm,o',by rw [De hM];exact hq,fun _ _ _ _ h=>h,?_⟩
    cases hmi:M i with
    | none=>rw [hmi] at hq;cases hq
    | some m=>rw [hmi] at hq;injection hq with hq;subst hq;exact A0.norefs
  ·rw [if_neg e,hd] at hq
   split at hq
   ·cases hq
   ·rename_i e3
    obtain ⟨o2,q1,q2⟩:=c1 _ _ _ hq;obtain ⟨o3,q3,q4⟩:=a1 _ _ _ q1;exact .inr ⟨fun h=>e h.1,fun h=>e3 h.1,o3,q3,fun w O ρ v h=>q2.1 _ _ _ _ (q4.1 _ _ _ _ h),fun hr=>KP (q2.2.1 _ _ hr) rfl⟩
 ·have e1:f'≠f:=fun e=>by
   subst e;rw [De hM] at hq
   cases hmi:M i with
   | none=>rw [hmi] at hq;cases hq
   | some m=>rw [hmi] at hq;injection hq with hq;exact A0.notBlk hq
  obtain ⟨o2,q1,q2⟩:=a2 _ _ _ hq;obtain ⟨cs2,rfl⟩:=q2.2.2.1 _ _ rfl;obtain ⟨o3,q3,q4⟩:=c2 _ _ _ q1;obtain ⟨cs3,rfl⟩:=q4.2.2.1 _ _ rfl;refine ⟨cs3,?_⟩;rw [hg',if_neg e1,hd,if_neg]
  ·exact q3
  ·rintro rfl;exact hne' ⟨rfl,idx0 hone hnm hq⟩
 ·by_cases e:f'=f
  ·subst e
   by_cases e2:i=b
   ·subst e2;rw [De hM,hMb] at hq;cases hq
   ·exact ⟨o,by rw [hg',if_pos rfl,GT e2,←De hM];exact hq⟩
  ·obtain ⟨o2,q1,q2⟩:=a2 _ _ _ hq;obtain ⟨o3,q3,q4⟩:=c2 _ _ _ q1;refine ⟨o3,?_⟩;rw [hg',if_neg e,hd,if_neg]
   ·exact q3
   ·rintro rfl;exact hne' ⟨rfl,idx0 hone hnm hq⟩
theorem GG {F:Fr} {s:AS} {ρ:Nat ->Nat ->Value} {act:Act} {w:World} (hs:SR F s ρ act w) {g f b t:Nat} {v:Value} {env1 env':List (Nat×AV)} (hE:AM g s.env=some env1) (hE2:AM f env1=some env') (hv:act.tmps.getD t undef=v) (h1:v.oneCell'=true):
  ∀t' a,get ((t,.d (.raw v))::env') t'=some a ->AJ w (F.O ρ s.hp) ρ a (act.tmps.getD t' undef)∧¬a.Refs f b:=fun t' a ha=>by
 rcases G9 ha with ⟨rfl,rfl⟩ | ⟨_,ha⟩
 ·rw [hv];exact ⟨.d (.raw h1),fun h=>by cases h⟩
 ·rcases Ak hE2 ha with rfl | ⟨h3,h4⟩
  ·exact ⟨.top,fun h=>by cases h⟩
  ·rcases Ak hE h3 with rfl | ⟨h5,_⟩
   ·exact ⟨.top,fun h=>by cases h⟩
   ·exact ⟨hs.env t' _ h5,h4 b⟩
theorem SR.absorbR {F:Fr} {s:AS} {ρ:Nat ->Nat ->Value} {act:Act} {w:World} (hs:SR F s ρ act w) (t g f:Nat) {M:MF} {T:TypeId} {kk n:Nat} {xs:List D} {pn:List Nat} {env1 env':List (Nat×AV)} {hp1 hp2 hp3:Hp} {hp':Nat ->Nat ->Hp} (hF:F.pn=pn) (hpn:memB g pn=false) (hne:Nat.beq g f=false)
  (ht:get s.env t=some (.own g 0 n)) (hn:n=xs.length) (hxs:xs≠ []) (hone:hfam s.hp g=some [.rowD T kk xs]) (hM:hfam s.hp f=some [.multi M]) (hE:AM g s.env=some env1) (hE2:AM f env1=some env') (hH:AL g s.hp=some hp1) (hH2:AL f hp1=some hp2) (hh:BA g hp2=some hp3) (hm:∀b cap,Ac hp3 f (Ax M b (.row T kk cap xs))=some (hp' b cap)):
  ∃b cap,M b=none∧xs.length≤cap∧SR F ⟨s.n,(t,.d (.raw (sV b n cap)))::env',hp' b cap⟩ (Cw ρ f b (pV b 0)) act w:=by
 subst hn;have hgf:g≠f:=Nat.ne_of_beq_eq_false hne;have ho:hget s.hp g 0=some (.rowD T kk xs):=by unfold hget;rw [hone];rfl
 obtain ⟨us,a,cap,hρ,k1,k2,k3,k4,k5⟩:=hs.rowD ho
 have hpos:0<xs.length:=by
  cases xs with
  | nil=>exact absurd rfl hxs
  | cons _ _=>simp
 obtain ⟨b,rfl,_⟩:=k5 hpos
 have hMb:M b=none:=by
  cases hmb:M b with
  | none=>rfl
  | some m=>
   have h2:hget s.hp f b=some (m.at_ b):=by rw [De hM,hmb];rfl
   exact absurd (hs.heap.inj g 0 f b _ _ b ho h2 (by rw [hρ];rfl) (A0.val hs hM hmb)).1 hgf
 obtain ⟨m1,m2,m3,m4⟩:=moved hgf hone rfl hM hMb hH hH2 hh (hm b cap);refine ⟨b,cap,hMb,k4.1,hs.move g 0 f b ho (by simp only [De hM,hMb,Option.map_none]) (by rw [hρ];rfl) (Gv hF hpn) m1 m2 m3 m4 (GG hs hE hE2 ?_ rfl) ⟨rfl,us,k1,k2,k3⟩⟩;have hr:=hs.env t _ ht
 generalize act.tmps.getD t undef=x at hr⊢
 cases hr with
 | own h1 h2=>
  rw [hρ] at h1;injection h1 with h1 h3 h4;subst h1 h4;rfl
theorem SR.splitR {F:Fr} {s:AS} {ρ:Nat ->Nat ->Value} {act:Act} {w:World} (hs:SR F s ρ act w) (t g f:Nat) {M:MF} {T:TypeId} {kk n cap b:Nat} {xs:List D} {env':List (Nat×AV)} {hp1 hp':Hp} (hne:Nat.beq g f=false)
  (ht:get s.env t=some (.d (.raw (sV b n cap)))) (hn:n=xs.length) (hM:hfam s.hp f=some [.multi M]) (hb:M b=some (.row T kk cap xs)) (hE:AM g s.env=some env') (hH:AL g s.hp=some hp1) (hz:hfam hp1 g=none) (hm:Ac hp1 f (GJ M b)=some hp'):
  SR F ⟨s.n,(t,.own g 0 n)::env',(g,[.rowD T kk xs])::hp'⟩ (Cw ρ g 0 (sV b n cap)) act w:=by
 subst hn;have hgf:g≠f:=Nat.ne_of_beq_eq_false hne;obtain ⟨hρ,us,k1,k2,k3⟩:=hs.rowN hM hb;obtain ⟨a1,a2⟩:=AW hH;have hg':=B1 hm
 have hz':∀i,hget s.hp g i=none:=fun i=>by
  cases hq:hget s.hp g i with
  | none=>rfl
  | some o=>
   obtain ⟨o2,q1,_⟩:=a2 _ _ _ hq;unfold hget at q1;rw [hz] at q1;cases q1
 have hcons:∀f' i,hget ((g,[.rowD T kk xs])::hp') f' i=if f'=g then [AC.rowD T kk xs][i]? else hget hp' f' i:=fun f' i=>by
  by_cases e:f'=g
  ·subst e;rw [if_pos rfl];simp only [hget,hfam,Nat.beq_refl,Option.bind_some,Fy (o:= .rowD T kk xs) rfl]
  ·rw [if_neg e];simp only [hget,hfam,C8 (fun h=>e h.symm)]
 have hmv:=hs.move f b g 0 (o1:= .nr b T kk cap xs) (o2:= .rowD T kk xs) (v2:=sV b xs.length cap) (env':=env') (hp':=(g,[.rowD T kk xs])::hp') (by rw [De hM,hb];rfl) (hz' 0) (by rw [hρ];rfl) (by
  cases hpin:F.pin f b with
  | none=>rfl
  | some b'=>
   obtain ⟨_,t',cs',h⟩:=hs.heap.pins f b b' hpin
   rw [De hM,hb] at h;injection h with h;cases h)
  (fun f' i o' hq=>by
   rw [hcons] at hq
   split at hq
   ·rename_i e
    subst e
    match i,hq with
    | 0,hq=>injection hq with hq;exact .inl ⟨rfl,rfl,hq.symm⟩
    | i+1,hq=>cases hq
   ·rename_i e
    rw [hg'] at hq
    split at hq
    ·rename_i e2
     subst e2
     by_cases e3:i=b
     ·subst e3;rw [II] at hq;cases hq
     ·rw [F5 e3] at hq;refine .inr ⟨fun h=>e h.1,fun h=>e3 h.2,o',by rw [De hM];exact hq,fun _ _ _ _ h=>h,?_⟩
      cases hmi:M i with
      | none=>rw [hmi] at hq;cases hq
      | some m=>rw [hmi] at hq;injection hq with hq;subst hq;exact A0.norefs
    ·rename_i e2
     obtain ⟨o3,q3,q4⟩:=a1 _ _ _ hq
     exact .inr ⟨fun h=>e h.1,fun h=>e2 h.1,o3,q3,fun w O ρ v h=>q4.1 _ _ _ _ h,fun hr=>KP (q4.2.1 _ _ hr) rfl⟩)
  (by rw [hcons,if_pos rfl];rfl)
  (fun f' i t' cs' hq hne'=>by
   have e1:f'≠f:=fun e=>by
    subst e;rw [De hM] at hq
    cases hmi:M i with
    | none=>rw [hmi] at hq;cases hq
    | some m=>rw [hmi] at hq;injection hq with hq;exact A0.notBlk hq
   have e2:f'≠g:=fun e=>by subst e;rw [hz'] at hq;cases hq
   obtain ⟨o2,q1,q2⟩:=a2 _ _ _ hq;obtain ⟨cs2,rfl⟩:=q2.2.2.1 _ _ rfl
   exact ⟨cs2,by rw [hcons,if_neg e2,hg',if_neg e1];exact q1⟩)
  (fun f' i o hq hne'=>by
   have e2:f'≠g:=fun e=>by subst e;rw [hz'] at hq;cases hq
   by_cases e1:f'=f
   ·subst e1;have e3:i≠b:=fun e=>hne' ⟨rfl,e⟩;exact ⟨o,by rw [hcons,if_neg e2,hg',if_pos rfl,F5 e3,←De hM];exact hq⟩
   ·obtain ⟨o2,q1,q2⟩:=a2 _ _ _ hq
    exact ⟨o2,by rw [hcons,if_neg e2,hg',if_neg e1];exact q1⟩)
  (fun t' a ha=>by
   rcases Ak hE ha with rfl | ⟨h3,h4⟩
   ·exact ⟨.top,fun h=>by cases h⟩
   ·exact ⟨hs.env t' _ h3,h4 0⟩)
  ⟨us,k1,k2,k3⟩
 refine ⟨hmv.size,hmv.defs,fun t' a ha=>?_,hmv.heap⟩;rcases G9 ha with ⟨rfl,rfl⟩ | ⟨_,ha⟩
 ·have hr:=hs.env t _ ht
  generalize act.tmps.getD t undef=x at hr⊢
  cases hr with
  | d h=>cases h with | raw _=>exact .own I1 (Nat.le_refl _)
 ·exact hmv.env t' a ha
section
variable {P:Program} {F:Fr} {Q:Exit ->AS ->Prop} {c:Code} {ops:Array Oper} {l:List Oper} {n:Nat} {env env1 env':List (Nat×AV)} {hp hp1 hp2 hp3:Hp}
theorem N4 (t g f:Nat) {M:MF} {T:TypeId} {cs:List AV} {ds:List D} {pn:List Nat} {hp':Nat ->Hp} (hF:F.pn=pn) (hpn:memB g pn=false) (hne:Nat.beq g f=false) (ht:get env t=some (.ptr g 0 0)) (hone:hfam hp g=some [.blk T cs]) (hcs:cs=ds.map .d) (hM:hfam hp f=some [.multi M]) (hE:AM g env=some env1) (hE2:AM f env1=some env') (hH:AL g hp=some hp1) (hH2:AL f hp1=some hp2) (hh:BA g hp2=some hp3) (hm:∀b,Ac hp3 f (Ax M b (.cells T ds))=some (hp' b))
  (h:∀b,M b=none ->A1 P F ops l Q ⟨n,(t,.d (pD b 0))::env',hp' b⟩):A1 P F ops l Q ⟨n,env,hp⟩:=fun ρ act w hs=>by
 obtain ⟨b,hb,hs'⟩:=hs.absorb t g f hF hpn hne ht hone hcs hM hE hE2 hH hH2 hh hm;exact h b hb _ act w hs'
theorem E2 (t g f:Nat) {M:MF} {T:TypeId} {kk m:Nat} {xs:List D} {pn:List Nat} {hp':Nat ->Nat ->Hp} (hF:F.pn=pn) (hpn:memB g pn=false) (hne:Nat.beq g f=false) (ht:get env t=some (.own g 0 m)) (hn:m=xs.length) (hxs:xs≠ []) (hone:hfam hp g=some [.rowD T kk xs]) (hM:hfam hp f=some [.multi M]) (hE:AM g env=some env1) (hE2:AM f env1=some env') (hH:AL g hp=some hp1) (hH2:AL f hp1=some hp2) (hh:BA g hp2=some hp3) (hm:∀b cap,Ac hp3 f (Ax M b (.row T kk cap xs))=some (hp' b cap))
  (h:∀b cap,M b=none ->xs.length≤cap ->A1 P F ops l Q ⟨n,(t,.d (.raw (sV b m cap)))::env',hp' b cap⟩):A1 P F ops l Q ⟨n,env,hp⟩:=fun ρ act w hs=>by
 obtain ⟨b,cap,hb,hc,hs'⟩:=hs.absorbR t g f hF hpn hne ht hn hxs hone hM hE hE2 hH hH2 hh hm;exact h b cap hb hc _ act w hs'
theorem E7 (f:Nat) (hE:AM f env=some env') (hH:AL f hp=some hp1) (hz:hfam hp1 f=none) (h:Az P F c Q ⟨n,env',(f,[.multi fun _=>none])::hp1⟩):Az P F c Q ⟨n,env,hp⟩:=fun ρ act w hs=>by
 refine h ρ act w ?_;obtain ⟨a1,a2⟩:=AW hH
 have hcons:∀f' i,hget ((f,[.multi fun _=>none])::hp1) f' i=if f'=f then none else hget hp1 f' i:=fun f' i=>by
  by_cases e:f'=f
  ·subst e;rw [if_pos rfl];simp only [hget,hfam,Nat.beq_refl,Option.bind_some,gl,isM,Option.map_none]
  ·rw [if_neg e];simp only [hget,hfam,C8 (fun h=>e h.symm)]
 have hh:AZ F ((f,[.multi fun _=>none])::hp1) ρ w:=hs.heap.less (fun g i o' ho=>by
  rw [hcons] at ho
  split at ho
  ·cases ho
  ·obtain ⟨o,h1,h2⟩:=a1 _ _ _ ho
   exact ⟨o,h1,fun w O v h=>h2.1 _ _ _ _ h⟩) fun g i o ho=>by
  obtain ⟨o',h1,h2⟩:=a2 _ _ _ ho
  have e:g≠f:=fun e=>by
   subst e;unfold hget at h1;rw [hz] at h1;cases h1
  exact ⟨o',by rw [hcons,if_neg e];exact h1,fun t cs e=>by subst e;exact h2.2.2.1 _ _ rfl⟩
 have hO:F.O ρ ((f,[.multi fun _=>none])::hp1)=F.O ρ hp:=funext fun b=>propext ⟨fun h=>h.imp id fun ⟨g,i,o,h1,h2⟩=>by
  rw [hcons] at h1
  split at h1
  ·cases h1
  ·obtain ⟨o',h3,_⟩:=a1 _ _ _ h1
   exact ⟨g,i,o',h3,h2⟩,fun h=>h.imp id fun ⟨g,i,o,h1,h2⟩=>by
  obtain ⟨o',h3,_⟩:=a2 _ _ _ h1
  have e:g≠f:=fun e=>by
   subst e;unfold hget at h3;rw [hz] at h3;cases h3
  exact ⟨g,i,o',by rw [hcons,if_neg e];exact h3,h2⟩⟩
 refine ⟨hs.size,hO▸hs.defs,fun t a ha=>?_,hh⟩;show AJ w (F.O ρ ((f,[.multi fun _=>none])::hp1)) ρ a _;rw [hO];rcases Ak hE ha with rfl | ⟨h3,_⟩
 ·exact .top
 ·exact hs.env t a h3
end
theorem SR.split {F:Fr} {s:AS} {ρ:Nat ->Nat ->Value} {act:Act} {w:World} (hs:SR F s ρ act w) (t g f:Nat) {M:MF} {T:TypeId} {b:Nat} {cs:List D} {env':List (Nat×AV)} {hp1 hp':Hp} (hne:Nat.beq g f=false)
  (ht:get s.env t=some (.d (pD b 0))) (hM:hfam s.hp f=some [.multi M]) (hb:M b=some (.cells T cs)) (hE:AM g s.env=some env') (hH:AL g s.hp=some hp1) (hz:hfam hp1 g=none) (hm:Ac hp1 f (GJ M b)=some hp'):
  SR F ⟨s.n,(t,.ptr g 0 0)::env',(g,[.blk T (cs.map .d)])::hp'⟩ (Cw ρ g 0 (pV b 0)) act w:=by
 have hgf:g≠f:=Nat.ne_of_beq_eq_false hne;obtain ⟨hρ,us,k1,k2,k3,k4⟩:=hs.cellsN hM hb;obtain ⟨a1,a2⟩:=AW hH;have hg':=B1 hm
 have hz':∀i,hget s.hp g i=none:=fun i=>by
  cases hq:hget s.hp g i with
  | none=>rfl
  | some o=>
   obtain ⟨o2,q1,_⟩:=a2 _ _ _ hq;unfold hget at q1;rw [hz] at q1;cases q1
 have hcons:∀f' i,hget ((g,[.blk T (cs.map .d)])::hp') f' i=if f'=g then [AC.blk T (cs.map .d)][i]? else hget hp' f' i:=fun f' i=>by
  by_cases e:f'=g
  ·subst e;rw [if_pos rfl];simp only [hget,hfam,Nat.beq_refl,Option.bind_some,Fy (o:= .blk T (cs.map .d)) rfl]
  ·rw [if_neg e];simp only [hget,hfam,C8 (fun h=>e h.symm)]
 have hmv:=hs.move f b g 0 (o1:= .nb b T cs) (o2:= .blk T (cs.map .d)) (v2:=pV b 0) (env':=env') (hp':=(g,[.blk T (cs.map .d)])::hp') (by rw [De hM,hb];rfl) (hz' 0) (by rw [hρ]) (by
  cases hpin:F.pin f b with
  | none=>rfl
  | some b'=>
   obtain ⟨_,t',cs',h⟩:=hs.heap.pins f b b' hpin
   rw [De hM,hb] at h;injection h with h;cases h)
  (fun f' i o' hq=>by
   rw [hcons] at hq
   split at hq
   ·rename_i e
    subst e
    match i,hq with
    | 0,hq=>injection hq with hq;exact .inl ⟨rfl,rfl,hq.symm⟩
    | i+1,hq=>cases hq
   ·rename_i e
    rw [hg'] at hq
    split at hq
    ·rename_i e2
     subst e2
     by_cases e3:i=b
     ·subst e3;rw [II] at hq;cases hq
     ·rw [F5 e3] at hq;refine .inr ⟨fun h=>e h.1,fun h=>e3 h.2,o',by rw [De hM];exact hq,fun _ _ _ _ h=>h,?_⟩
      cases hmi:M i with
      | none=>rw [hmi] at hq;cases hq
      | some m=>rw [hmi] at hq;injection hq with hq;subst hq;exact A0.norefs
    ·rename_i e2
     obtain ⟨o3,q3,q4⟩:=a1 _ _ _ hq
     exact .inr ⟨fun h=>e h.1,fun h=>e2 h.1,o3,q3,fun w O ρ v h=>q4.1 _ _ _ _ h,fun hr=>KP (q4.2.1 _ _ hr) rfl⟩)
  (by rw [hcons,if_pos rfl];rfl)
  (fun f' i t' cs' hq hne'=>by
   have e1:f'≠f:=fun e=>by
    subst e;rw [De hM] at hq
    cases hmi:M i with
    | none=>rw [hmi] at hq;cases hq
    | some m=>rw [hmi] at hq;injection hq with hq;exact A0.notBlk hq
   have e2:f'≠g:=fun e=>by subst e;rw [hz'] at hq;cases hq
   obtain ⟨o2,q1,q2⟩:=a2 _ _ _ hq;obtain ⟨cs2,rfl⟩:=q2.2.2.1 _ _ rfl
   exact ⟨cs2,by rw [hcons,if_neg e2,hg',if_neg e1];exact q1⟩)
  (fun f' i o hq hne'=>by
   have e2:f'≠g:=fun e=>by subst e;rw [hz'] at hq;cases hq
   by_cases e1:f'=f
   ·subst e1;have e3:i≠b:=fun e=>hne' ⟨rfl,e⟩;exact ⟨o,by rw [hcons,if_neg e2,hg',if_pos rfl,F5 e3,←De hM];exact hq⟩
   ·obtain ⟨o2,q1,q2⟩:=a2 _ _ _ hq
    exact ⟨o2,by rw [hcons,if_neg e2,hg',if_neg e1];exact q1⟩)
  (fun t' a ha=>by
   rcases Ak hE ha with rfl | ⟨h3,h4⟩
   ·exact ⟨.top,fun h=>by cases h⟩
   ·exact ⟨hs.env t' _ h3,h4 0⟩)
  ⟨b,us,rfl,k1,by rw [List.length_map];exact k2,fun j c u hc hu=>by
   rw [List.getElem?_map] at hc
   cases hj:cs[j]? with
   | none=>rw [hj] at hc;cases hc
   | some d=>
    rw [hj] at hc;injection hc with hc;subst hc
    exact .d (k3 j d u hj hu),k4⟩
 refine ⟨hmv.size,hmv.defs,fun t' a ha=>?_,hmv.heap⟩;rcases G9 ha with ⟨rfl,rfl⟩ | ⟨_,ha⟩
 ·have hr:=hs.env t _ ht
  generalize act.tmps.getD t undef=x at hr⊢
  cases hr with
  | d h=>cases h with | raw _=>exact .ptr I1
 ·exact hmv.env t' a ha
section
variable {P:Program} {F:Fr} {Q:Exit ->AS ->Prop} {c:Code} {n:Nat} {env env1 env':List (Nat×AV)} {hp hp1:Hp}
end
end Go.Proofs.Ytlmedakidpaeeaa
/- A binary heap in a list: sifting up and down. Plain laws. -/
namespace Go.Proofs.Ytlmedakidpaeeaa
def CC (l:List Nat) (i:Nat):Nat:=l.getD i 0
theorem Bl {l:List Nat} {i:Nat} (h:i<l.length):CC l i=l[i]:=by simp [CC,h]
theorem If {l:List Nat} {i:Nat} (h:i<l.length):CC l i∈l:=by rw [Bl h];exact List.getElem_mem h
def Heap2 (K:Nat ->Nat) (l:List Nat):Prop:=∀i,0<i ->i<l.length ->K (CC l ((i - 1) / 2))≤K (CC l i)
theorem nth_app {l m:List Nat} {i:Nat} (h:i<l.length):CC (l++m) i=CC l i:=by
 unfold CC;rw [List.getD_eq_getElem?_getD,List.getD_eq_getElem?_getD,List.getElem?_append_left h]
inductive Rh (suc:Nat ->List Nat):Nat ->Nat ->Prop
 | refl (a:Nat):Rh suc a a
 | step {a b c:Nat} (h:Rh suc a b) (e:c∈suc b):Rh suc a c
theorem Rh.trans {suc:Nat ->List Nat} {a b c:Nat} (h:Rh suc a b) (h':Rh suc b c):Rh suc a c:=by
 induction h' with
 | refl=>exact h
 | step _ e ih=>exact .step ih e
theorem Rh.one {suc:Nat ->List Nat} {a b:Nat} (e:b∈suc a):Rh suc a b:= .step (.refl a) e
def A5 {α:Type} (f:Nat ->α) (i:Nat) (x:α):Nat ->α:=fun j=>if j=i then x else f j
theorem Da {α:Type} (f:Nat ->α) (i:Nat) (x:α):A5 f i x i=x:=if_pos rfl
theorem Dv {α:Type} {f:Nat ->α} {i j:Nat} {x:α} (h:j≠i):A5 f i x j=f j:=if_neg h
structure TS where
 idx:Nat ->Nat
 low:Nat ->Nat
 of:Nat ->Int
 st:List Nat
 cs:List (Nat×Nat)
 cnt:Nat
 clk:Nat
structure TI (n:Nat) (suc:Nat ->List Nat) (S:TS) (p:Option Nat):Prop where
 lt:∀v,S.idx v≠0 ->v<n
 ck:∀v,S.idx v≤S.clk
 inj:∀v w,S.idx v≠0 ->S.idx v=S.idx w ->v=w
 st:∀v,v∈S.st↔S.idx v≠0∧S.of v<0
 srt:S.st.Pairwise fun a b=>S.idx a<S.idx b
 ofi:∀v,0≤S.of v ->S.idx v≠0∧S.of v<S.cnt
 csm:∀f∈S.cs,f.1∈S.st
 css:S.cs.Pairwise fun a b=>S.idx a.1<S.idx b.1
 r5:∀f∈S.cs,∀w∈S.st,S.idx f.1≤S.idx w ->Rh suc f.1 w
 r4:∀w∈S.st,∃f∈S.cs,S.idx f.1≤S.idx w∧Rh suc w f.1
 clo:∀v,0≤S.of v ->∀y∈suc v,0≤S.of y
 blk:∀w∈S.st,(∀f∈S.cs,f.1≠w) ->∀y∈suc w,S.idx y≠0
 gry:∀f∈S.cs,f.2≤(suc f.1).length∧∀(i:Nat) y,i<f.2 ->(suc f.1)[i]?=some y ->S.idx y≠0∨p=some y
 lw:∀v∈S.st,S.low v≤S.idx v∧∃y∈S.st,S.low v=S.idx y∧Rh suc v y
 l8:∀f∈S.cs,∀x∈S.st,x≠f.1 ->S.idx f.1≤S.idx x ->(∀f'∈S.cs,S.idx f.1<S.idx f'.1 ->S.idx x<S.idx f'.1) ->∀y∈suc x,y∈S.st ->S.low f.1≤S.idx y
 l8g:∀f∈S.cs,∀(i:Nat) y,i<f.2 ->(suc f.1)[i]?=some y ->y∈S.st ->S.low f.1≤S.idx y
 scc:∀i j,0≤S.of i ->0≤S.of j ->(S.of i=S.of j↔Rh suc i j∧Rh suc j i)
 use:∀c,c<S.cnt ->∃v,S.of v=((c:Nat):Int)
 pnd:∀v,p=some v ->v<n∧S.idx v=0∧∀f∈S.cs,Rh suc f.1 v
 num:S.cnt+S.st.length≤S.clk
 cap:∃vs:List Nat,vs.Nodup∧vs.length=S.clk∧∀v,v∈vs↔S.idx v≠0
theorem Rh.leave {suc:Nat ->List Nat} {p:Nat ->Prop} {a b:Nat} (h:Rh suc a b) (ha:p a) (hb:¬p b):∃x y,p x∧y∈suc x∧¬p y∧Rh suc y b:=by
 induction h with
 | refl=>exact absurd ha hb
 | @step b c h' e ih=>
  by_cases hp:p b
  ·exact ⟨b,c,hp,e,hb,.refl c⟩
  ·obtain ⟨x,y,h1,h2,h3,h4⟩:=ih hp;exact ⟨x,y,h1,h2,h3,h4.step e⟩
theorem Nb {α:Type} [BEq α] [LawfulBEq α] {l m:List α} (h:l.Nodup) (hs:∀x∈l,x∈m):l.length≤m.length:=by
 induction l generalizing m with
 | nil=>exact Nat.zero_le _
 | cons a l ih=>
  obtain ⟨h1,h2⟩:=List.nodup_cons.1 h;have ha:=hs a (List.mem_cons_self ..);have h3:=ih (m:=m.erase a) h2 fun x hx=>(List.mem_erase_of_ne (fun e=>by rw [e] at hx;exact h1 hx:x≠a)).2 (hs x (List.mem_cons_of_mem _ hx));have h4:=List.length_erase_of_mem ha;have h5:0<m.length:=List.length_pos_of_mem ha;rw [List.length_cons];omega
structure SccOf (n:Nat) (suc:Nat ->List Nat) (of:Nat ->Nat) (cnt:Nat):Prop where
 lt:∀v,v<n ->of v<cnt
 scc:∀i j,i<n ->j<n ->(of i=of j↔Rh suc i j∧Rh suc j i)
 use:∀c,c<cnt ->∃v,v<n∧of v=c
 le:cnt≤n
def Hc (g:List (List Nat)) (i:Nat):List Nat:=g.getD i []
def degS (g:List (List Nat)) (done:List Nat) (j:Nat):Nat:=((List.range g.length).map fun i=>if i∈done then 0 else (Hc g i).count j).sum
def avail (g:List (List Nat)) (done:List Nat) (i:Nat):Prop:=i<g.length∧i∉done∧∀k,k<g.length ->k∉done ->i∉Hc g k
def Grd (g:List (List Nat)) (K:Nat ->Nat) (l:List Nat):Prop:=∀i,i<l.length ->avail g (l.take i) (CC l i)∧∀y,avail g (l.take i) y ->K (CC l i)≤K y
structure OI (g:List (List Nat)) (K:Nat ->Nat) (w q out ls:List Nat):Prop where
 len:w.length=g.length
 deg:∀j,j<g.length ->CC w j=degS g out j+ls.count j
 nd:(out++q).Nodup
 lt:∀x∈out++q,x<g.length
 zer:∀x,x<g.length ->(x∈out++q↔CC w x=0)
 hp:Heap2 K q
 grd:Grd g K out
end Go.Proofs.Ytlmedakidpaeeaa
/- Headers of rows of a region; their rows grow. No program in sight. -/
namespace Go.Proofs.Ytlmedakidpaeeaa
open Go.RowKit
abbrev Hd:=Option (Nat×Nat)
def hdrV:Hd ->Nat ->Value
 | none,_=> .slice none 0 0
 | some (b,c),n=>sV b n c
abbrev hdr (h:Hd) (n:Nat):D:= .raw (hdrV h n)
def Hw (M:MF) (h:Hd) (t:TypeId) (k:Nat) (xs:List D):Prop:=match h with
 | none=>xs=[]
 | some (b,c)=>xs.length≤c∧M b=some (.row t k c xs)
def CR (M:MF):Hd ->MF
 | none=>M
 | some (b,_)=>GJ M b
theorem D0 {M:MF} {h:Hd} {b:Nat} {m:A0} (hm:M b=some m) (hne:∀c,h≠some (b,c)):CR M h b=some m:=by
 match h,hne with
 | none,_=>exact hm
 | some (b',c),hne=>
  show GJ M b' b=_;rw [F5 (fun e=>hne c (by rw [e]))];exact hm
theorem Nr {M:MF} {h:Hd} {b b':Nat} {m v:A0} (hb:CR M h b=none) (hm:M b'=some m) (hne:∀c,h≠some (b',c)):Ax (CR M h) b v b'=some m:=by
 have h1:=D0 hm hne;rw [GT]
 ·exact h1
 ·rintro rfl;rw [hb] at h1;cases h1
theorem SR.splitH {F:Fr} {s:AS} {ρ:Nat ->Nat ->Value} {act:Act} {w:World} (hs:SR F s ρ act w) (t g f:Nat) {M:MF} {T:TypeId} {kk m:Nat} {h:Hd} {xs:List D} {env':List (Nat×AV)} {hp1 hp':Hp} (hne:Nat.beq g f=false)
  (ht:get s.env t=some (.d (hdr h m))) (hn:m=xs.length) (hM:hfam s.hp f=some [.multi M]) (hr:Hw M h T kk xs) (hE:AM g s.env=some env') (hH:AL g s.hp=some hp1) (hz:hfam hp1 g=none) (hm:Ac hp1 f (CR M h)=some hp'):
  ∃v,SR F ⟨s.n,(t,.own g 0 m)::env',(g,[.rowD T kk xs])::hp'⟩ (Cw ρ g 0 v) act w:=by
 match h,ht,hr,hm with
 | some (b,cap),ht,hr,hm=>exact ⟨_,hs.splitR t g f (cap:=cap) (b:=b) hne ht hn hM hr.2 hE hH hz hm⟩
 | none,ht,hr,hm=>
  have hxs:xs=[]:=hr;subst hxs hn;have hgf:g≠f:=Nat.ne_of_beq_eq_false hne;refine ⟨.slice none 0 0,?_⟩
  have hhp:hp'=hp1:=by
   have key:∀(H H':Hp),hfam H f=some [.multi M] ->Ac H f M=some H' ->H'=H:=by
    intro H
    induction H with
    | nil=>intro H' h;cases h
    | cons p r ih=>
     obtain ⟨k,l⟩:=p;intro H' h1 h2;simp only [hfam] at h1;simp only [Ac] at h2
     cases hk:Nat.beq k f with
     | true=>
      rw [hk] at h1 h2;injection h1 with h1
      subst h1;simp only [isM] at h2;injection h2 with h2;exact h2.symm
     | false=>
      rw [hk] at h1 h2;dsimp only at h1 h2
      cases hr:Ac r f M with
      | none=>rw [hr] at h2;cases h2
      | some r'=>
       rw [hr] at h2;injection h2 with h2
       rw [←h2,ih r' h1 hr]
   obtain ⟨a1,a2⟩:=AW hH
   have hM1:hfam hp1 f=some [.multi M]:=by
    have key2:∀(H H':Hp),Ap (Ae g) H=some H' ->hfam H f=some [.multi M] ->hfam H' f=some [.multi M]:=by
     intro H
     induction H with
     | nil=>intro H' _ h;cases h
     | cons p r ih=>
      obtain ⟨k,l⟩:=p;intro H' h1 h2;simp only [Ap] at h1
      cases hr:Ap (Ae g) r with
      | none=>rw [hr] at h1;cases h1
      | some r'=>
       rw [hr] at h1
       cases hl:Ba (Ae g) l with
       | none=>rw [hl] at h1;cases h1
       | some l'=>
        rw [hl] at h1;injection h1 with h1;subst h1
        simp only [hfam] at h2⊢
        cases hk:Nat.beq k f with
        | true=>
         rw [hk] at h2;injection h2 with h2;subst h2
         simp only [Ba,Aw] at hl;injection hl with hl;rw [←hl]
        | false=>rw [hk] at h2;exact ih r' hr h2
    exact key2 _ _ hH hM
   exact key hp1 hp' hM1 hm
  rw [hhp]
  have h1:SR F ⟨s.n,(t,.d (.sl (some true) []))::s.env,s.hp⟩ ρ act w:=⟨hs.size,hs.defs,fun t' a ha=>by
   rcases G9 ha with ⟨rfl,rfl⟩ | ⟨_,ha⟩
   ·have hr:=hs.env t _ ht
    generalize act.tmps.getD t undef=x at hr⊢
    cases hr with
    | d h=>cases h with
     | raw _=>exact .d (.sl 0 (fun b hb=>by cases hb;rfl) (fun _=>rfl) rfl (Nat.le_refl _) (Nat.zero_le _) (fun x hx=>by cases hx) (fun h=>absurd rfl h) (fun b o hb=>by cases hb))
   ·exact hs.env t' a ha,hs.heap⟩
  obtain ⟨k1,k2⟩:=AW hH
  have hz':∀i,hget s.hp g i=none:=fun i=>by
   cases hq:hget s.hp g i with
   | none=>rfl
   | some o=>
    obtain ⟨o2,q1,_⟩:=k2 _ _ _ hq;unfold hget at q1;rw [hz] at q1;cases q1
  have h2:=hs.set g 0 (.rowD T kk []) (.slice none 0 0) (hp':=(g,[.rowD T kk []])::hp1) hE hH (fun f' i=>by
   by_cases e:g=f'
   ·subst e;simp only [hget,hfam,Nat.beq_refl,Option.bind_some,true_and,Fy (o:= .rowD T kk []) rfl,hz,Option.bind_none]
    cases i<;>simp
   ·simp only [hget,hfam,C8 e]
    rw [if_neg (fun hh=>e hh.1.symm)]) (fun t cs e=>by rw [hz'] at e;cases e) (fun b hb=>by cases hb) rfl rfl rfl (Nat.le_refl _) (fun _ _ _=>rfl) (fun _=>⟨[],World.ownsRow_nil w 0 T kk,⟨by simp,by simp,fun i x hx=>by simp at hx⟩,by simp⟩)
  refine ⟨h2.size,h2.defs,fun t' a ha=>?_,h2.heap⟩;rcases G9 ha with ⟨rfl,rfl⟩ | ⟨_,ha⟩
  ·have hr:=hs.env t _ ht
   generalize act.tmps.getD t undef=x at hr⊢
   cases hr with
   | d h=>cases h with | raw _=>exact .own I1 (Nat.le_refl _)
  ·exact h2.env t' a ha
section
variable {P:Program} {F:Fr} {Q:Exit ->AS ->Prop} {c:Code} {ops:Array Oper} {l:List Oper} {n:Nat} {env env1 env':List (Nat×AV)} {hp hp1 hp2 hp3:Hp}
theorem G0 {o:Oper} (t g f:Nat) {M:MF} {T:TypeId} {kk m:Nat} {h:Hd} {xs:List D} {hp':Hp} {s2:AS} (hr:Hw M h T kk xs) (hne:Nat.beq g f=false) (ht:get env t=some (.d (hdr h m))) (hn:m=xs.length) (hM:hfam hp f=some [.multi M]) (hE:AM g env=some env') (hH:AL g hp=some hp1) (hz:hfam hp1 g=none) (hm:Ac hp1 f (CR M h)=some hp')
  (h2:AR P F o ⟨n,(t,.own g 0 m)::env',(g,[.rowD T kk xs])::hp'⟩ s2 (Ae g)):AR P F o ⟨n,env,hp⟩ s2 (Ae g):=fun ρ act w hs=>by
 obtain ⟨v,h1⟩:=hs.splitH t g f hne ht hn hM hr hE hH hz hm;exact Bf (fun a w' ⟨ρ',h3,h4⟩=>⟨ρ',h3,fun f i hfi=>(h4 f i hfi).trans (H6 fun e=>KP hfi e.1)⟩) (h2 _ act w h1)
end
def nrm1:D ->D
 | .sl (some true) [] => .raw (.slice none 0 0)
 | x=>x
theorem AK.nrm1 {w:World} {O:Nat ->Prop} {x:D} {v:Value} (h:AK w O x v):AK w O (nrm1 x) v:=by
 unfold Go.Proofs.Ytlmedakidpaeeaa.nrm1
 split
 ·cases h with
  | sl k hn hz hln hc hm hk ha hp=>
   rename_i a n cap
   have h1:=hn true rfl
   have h2:a=none:=by cases a with
    | none=>rfl
    | some _=>cases h1
   subst h2;have h3:=hz rfl;have h4:n=0:=hln.symm;subst h3 h4;exact .raw rfl
 ·exact h
def KN (M:MF) (x y:D):Prop:=x=y∨∃h T zs,x=hdr h zs.length∧Hw M h T 1 zs∧(∀z∈zs,z.one=true)∧y= .sl none zs
theorem AK.melt {F:Fr} {s:AS} {ρ:Nat ->Nat ->Value} {act:Act} {w:World} (hs:SR F s ρ act w) {f:Nat} {M:MF} {hp':Hp} (hM:hfam s.hp f=some [.multi M]) (hO1:∀b,F.O ρ hp' b ->F.O ρ s.hp b)
  (hO2:∀i o b,hget s.hp f i=some o ->An (ρ f i)=some b ->¬F.O ρ hp' b) {x y:D} {v:Value} (hm:KN M x y) (hr:AK w (F.O ρ hp') x v):AK w (F.O ρ hp') y v:=by
 rcases hm with rfl | ⟨h,T,zs,rfl,hra,hz1,rfl⟩
 ·exact hr
 ·match h,hra with
  | none,hra=>
   have hra:zs=[]:=hra;subst hra
   cases hr with
   | raw _=>exact .sl 0 (fun b hb=>by cases hb) (fun _=>rfl) rfl (Nat.le_refl _) (Nat.zero_le _) (fun x hx=>by cases hx) (fun h=>absurd rfl h) (fun b o hb=>by cases hb)
  | some (b,c),hra=>
   obtain ⟨hle,hb⟩:=hra
   cases hr with
   | raw _=>
    obtain ⟨hρ,us,g1,g2,g3⟩:=hs.rowN hM hb;obtain ⟨a,cap,e,q1,q2,q3,q4⟩:=DY g1;injection e with e1 e2 e3
    subst e1 e3
    have hc1:∀z∈zs,z.cells=[z]:=fun z hz=>by
     have h1:=hz1 z hz;have h2:=g2.2.1 z hz
     cases z with
     | agg cs=>simp [D.one] at h1
     | _=>rfl
    refine .sl 1 (fun b hb=>by cases hb) (fun h=>by cases h) rfl q1 q2 (fun z hz=>by rw [hc1 z hz];rfl) (fun _=>⟨b,0,rfl⟩) (fun b' o hb' i z hi=>?_);injection hb' with hb'
    injection hb' with hb1 hb2
    subst hb1 hb2;have hil:i<zs.length:=(List.getElem?_eq_some_iff.1 hi).1;obtain ⟨b2,cur,r1,r2,r3,r4⟩:=q4 (by omega);injection r1 with r1
    injection r1 with r1
    subst r1;have hlt:b<w.heap.size:=(Array.getElem?_eq_some_iff.1 r2).1
    have hex:∀(q:Nat) c,z.cells[q]?=some c ->∃u,w.cell? ⟨b,0+i*1+q,none⟩=some u∧AK w (F.O ρ hp') c u:=fun q c' hc=>by
     obtain ⟨u,d1,d2,d3⟩:=g2.2.2 i z hi q c' hc;exact ⟨u,by rw [Nat.zero_add];exact Br r2 r4 d1,d3.mono (Nat.le_refl _) (fun _ _ _=>rfl) fun b _=>hO1 b⟩
    refine .ptr (fun q=>(w.cell? ⟨b,0+i*1+q,none⟩).getD undef) hlt (hO2 b _ b (by rw [De hM,hb];rfl) (by rw [hρ];rfl)) (g3 z (List.mem_of_getElem? hi)) (fun q c' hc=>?_) (fun q c' hc=>?_)
    ·obtain ⟨u,d1,_⟩:=hex q c' hc;rw [d1];rfl
    ·obtain ⟨u,d1,d2⟩:=hex q c' hc;rw [d1];exact d2
theorem SR.melt {F:Fr} {s:AS} {ρ:Nat ->Nat ->Value} {act:Act} {w:World} (hs:SR F s ρ act w) (g i f:Nat) {M:MF} {T:TypeId} {xs ys:List D} {env':List (Nat×AV)} {hp1 hp2 hp':Hp} (hM:hfam s.hp f=some [.multi M])
  (hE:AM f s.env=some env') (hH:AL f s.hp=some hp1) (hh:BA f hp1=some hp2) (ho:hget hp2 g i=some (.rowD T 1 xs)) (hlen:ys.length=xs.length)
  (hxy:∀(j:Nat) x y,xs[j]?=some x ->ys[j]?=some y ->KN M x y) (h1:(∀x∈xs,x.one=true)∧∀y∈ys,y.one=true) (hset:Ab hp2 g i (.rowD T 1 ys)=some hp'):SR F ⟨s.n,env',hp'⟩ ρ act w:=by
 obtain ⟨h2,hO1,hO2⟩:=hs.forget f hE hH hh (fun j t cs e=>by
  rw [De hM] at e
  cases hm:M j with
  | none=>rw [hm] at e;cases e
  | some m=>rw [hm] at e;injection e with e;exact A0.notBlk e)
 have hone:∀z:D,z.one=true ->z.cells=[z]:=fun z hz=>by
  cases z with
  | agg cs=>simp [D.one] at hz
  | _=>rfl
 refine h2.write g i (.rowD T 1 xs) (.rowD T 1 ys) ho (A3 hset) Z Z Z Z (fun _ _=>rfl) (fun _ _ e=>by cases e) fun hrep=>?_;obtain ⟨us,k1,k2,k3⟩:=h2.heap.sim g i _ ho;refine ⟨us,by rw [hlen];exact k1,⟨by rw [hlen];exact k2.1,fun y hy=>by rw [hone y (h1.2 y hy)];rfl,fun j y hj q c hc=>?_⟩,fun y hy c hc=>by rw [hone y (h1.2 y hy),List.mem_singleton] at hc;rw [hc];exact h1.2 y hy⟩;have hjl:j<xs.length:=by rw [←hlen];exact (List.getElem?_eq_some_iff.1 hj).1
 have hx:xs[j]?=some xs[j]:=List.getElem?_eq_getElem hjl;rw [hone y (h1.2 y (List.mem_of_getElem? hj))] at hc
 cases q with
 | succ q=>cases hc
 | zero=>
  injection hc with hc
  subst hc;obtain ⟨u,d1,d2,d3⟩:=k2.2.2 j _ hx 0 _ (by rw [hone _ (h1.1 _ (List.getElem_mem hjl))];rfl);refine ⟨u,d1,d2,?_⟩;have h3:=AK.melt hs hM hO1 hO2 (hxy j _ _ hx hj) d3;have h4:=hrep (.d y) u (.d h3)
  cases h4 with | d h4=>exact h4
section
variable {P:Program} {F:Fr} {Q:Exit ->AS ->Prop} {c:Code} {n:Nat} {env env':List (Nat×AV)} {hp hp1 hp2 hp':Hp}
theorem O0 (g i f:Nat) {M:MF} {T:TypeId} {xs:List D} (ys:List D) (hM:hfam hp f=some [.multi M])
  (hE:AM f env=some env') (hH:AL f hp=some hp1) (hh:BA f hp1=some hp2) (ho:hget hp2 g i=some (.rowD T 1 xs)) (hlen:ys.length=xs.length)
  (hxy:∀(j:Nat) x y,xs[j]?=some x ->ys[j]?=some y ->KN M x y) (h1:(∀x∈xs,x.one=true)∧∀y∈ys,y.one=true) (hset:Ab hp2 g i (.rowD T 1 ys)=some hp') (h:Az P F c Q ⟨n,env',hp'⟩):Az P F c Q ⟨n,env,hp⟩:=
 fun ρ act w hs=>h ρ act w (hs.melt g i f hM hE hH hh ho hlen hxy h1 hset)
end
theorem SR.weakRow {F:Fr} {s:AS} {ρ:Nat ->Nat ->Value} {act:Act} {w:World} (hs:SR F s ρ act w) (g i:Nat) {T:TypeId} {xs ys:List D} {hp':Hp} (ho:hget s.hp g i=some (.rowD T 1 xs)) (hlen:ys.length=xs.length)
  (hxy:∀(j:Nat) x y,xs[j]?=some x ->ys[j]?=some y ->∀w O v,AK w O x v ->AK w O y v) (h1:(∀x∈xs,x.one=true)∧∀y∈ys,y.one=true) (hset:Ab s.hp g i (.rowD T 1 ys)=some hp'):SR F ⟨s.n,s.env,hp'⟩ ρ act w:=by
 have hone:∀z:D,z.one=true ->z.cells=[z]:=fun z hz=>by
  cases z with
  | agg cs=>simp [D.one] at hz
  | _=>rfl
 refine hs.write g i (.rowD T 1 xs) (.rowD T 1 ys) ho (A3 hset) Z Z Z Z (fun _ _=>rfl) (fun _ _ e=>by cases e) fun hrep=>?_;obtain ⟨us,k1,k2,k3⟩:=hs.heap.sim g i _ ho;refine ⟨us,by rw [hlen];exact k1,⟨by rw [hlen];exact k2.1,fun y hy=>by rw [hone y (h1.2 y hy)];rfl,fun j y hj q c hc=>?_⟩,fun y hy c hc=>by rw [hone y (h1.2 y hy),List.mem_singleton] at hc;rw [hc];exact h1.2 y hy⟩;have hjl:j<xs.length:=by rw [←hlen];exact (List.getElem?_eq_some_iff.1 hj).1
 have hx:xs[j]?=some xs[j]:=List.getElem?_eq_getElem hjl;rw [hone y (h1.2 y (List.mem_of_getElem? hj))] at hc
 cases q with
 | succ q=>cases hc
 | zero=>
  injection hc with hc
  subst hc;obtain ⟨u,d1,d2,d3⟩:=k2.2.2 j _ hx 0 _ (by rw [hone _ (h1.1 _ (List.getElem_mem hjl))];rfl);refine ⟨u,d1,d2,?_⟩;have h4:=hrep (.d y) u (.d (hxy j _ _ hx hj _ _ _ d3))
  cases h4 with | d h4=>exact h4
section
variable {P:Program} {F:Fr} {Q:Exit ->AS ->Prop} {c:Code} {n:Nat} {env:List (Nat×AV)} {hp hp':Hp}
theorem IW (g i:Nat) {T:TypeId} {xs:List D} (ys:List D) (ho:hget hp g i=some (.rowD T 1 xs)) (hlen:ys.length=xs.length)
  (hxy:∀(j:Nat) x y,xs[j]?=some x ->ys[j]?=some y ->∀w O v,AK w O x v ->AK w O y v) (h1:(∀x∈xs,x.one=true)∧∀y∈ys,y.one=true) (hset:Ab hp g i (.rowD T 1 ys)=some hp') (h:Az P F c Q ⟨n,env,hp'⟩):Az P F c Q ⟨n,env,hp⟩:=
 fun ρ act w hs=>h ρ act w (hs.weakRow g i ho hlen hxy h1 hset)
end
end Go.Proofs.Ytlmedakidpaeeaa
