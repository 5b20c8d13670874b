/- Maps: keys read off without memory, finding a key, the typed lists behind a map. No program in sight. -/
import Derived.Test.YtnkkaeblokdifaaGreatMg9
import Derived.Maps.RangeRun
import Derived.Laws.StructEq
import Derived.WideLaws
namespace Go.Proofs.YtnkkaeblokdifaaGreat
open Go.RowKit
def Qu:List D ->Option (List Value)
 | []=>some []
 | d::r=>match Qu r with
  | none=>none
  | some l=>match d with
   | .raw v=>some (v::l)
   | _=>none
def D.val?:D ->Option Value
 | .raw v=>some v
 | .agg cs=>match Qu cs with
  | none=>none
  | some l=>some (.agg l.toArray)
 | _=>none
theorem Mk {w:World} {O:Nat ->Prop}:∀{cs:List D} {l vs:List Value},Qu cs=some l ->vs.length=cs.length ->(∀(i:Nat) c v,cs[i]?=some c ->vs[i]?=some v ->AX w O c v) ->vs=l
 | [],l,vs,h,hl,_=>by
  simp only [Qu,Option.some.injEq] at h;subst h;exact List.eq_nil_of_length_eq_zero hl
 | d::r,l,vs,h,hl,hr=>by
  simp only [Qu] at h
  split at h
  ·cases h
  ·rename_i l' hl'
   split at h
   ·rename_i v
    injection h with h;subst h
    match vs,hl with
    | u::us,hl=>
     have h0:=hr 0 _ u Z Z
     cases h0 with
     | raw _=>rw [Mk (w:=w) (O:=O) (vs:=us) hl' (by simpa using hl) fun i c v hc hv=>hr (i+1) c v (by simpa using hc) (by simpa using hv)]
   ·cases h
theorem AX.val {w:World} {O:Nat ->Prop} {d:D} {v v':Value} (h:AX w O d v) (hv:d.val?=some v'):v=v':=by
 cases d with
 | raw u=>simp only [D.val?,Option.some.injEq] at hv;subst hv;cases h;rfl
 | agg cs=>
  simp only [D.val?] at hv
  split at hv
  ·cases hv
  ·rename_i l hl
   injection hv with hv;subst hv
   cases h with
   | agg h1 _ h3=>rw [Mk hl h1 h3]
 | _=>cases hv
section
variable {α:Type} [DecidableEq α]
def I8 (a:α):List α ->List MapEntry ->Nat ->Option (Nat×Value)
 | b::r,e::es,i=>if a=b then some (i,e.val) else I8 a r es (i+1)
 | _,_,_=>none
theorem Or {a:α}:∀{l:List α} {es:List MapEntry} {i:Nat},es.length=l.length ->I8 a l es i=none ->a∉l
 | [],_,_,_,_=>by simp
 | b::r,[],_,h,_=>by simp at h
 | b::r,e::es,i,h,hh=>by
  simp only [I8] at hh
  split at hh
  ·cases hh
  ·rename_i hne
   simp only [List.mem_cons,not_or];exact ⟨hne,Or (by simpa using h) hh⟩
theorem Oq {a:α}:∀{l:List α} {es:List MapEntry} {i j:Nat} {v:Value},I8 a l es i=some (j,v) ->i≤j∧l[j - i]?=some a∧(∃e,es[j - i]?=some e∧e.val=v)∧∀k,k<j - i ->l[k]?≠some a
 | [],[],_,_,_,h=>by simp [I8] at h
 | [],_::_,_,_,_,h=>by simp [I8] at h
 | b::r,[],i,_,_,h=>by simp [I8] at h
 | b::r,e::es,i,j,v,h=>by
  simp only [I8] at h
  split at h
  ·rename_i heq
   injection h with h;injection h with h1 h2;subst h1 h2 heq
   refine ⟨Nat.le_refl _,by simp,⟨e,by simp,rfl⟩,fun k hk=>by omega⟩
  ·rename_i hne
   obtain ⟨h1,h2,⟨e',h3,h4⟩,h5⟩:=Oq h;have he:j - i=(j - (i+1))+1:=by omega
   refine ⟨by omega,by rw [he];simpa using h2,⟨e',by rw [he];simpa using h3,h4⟩,fun k hk=>?_⟩
   cases k with
   | zero=>simp;exact fun e=>hne e.symm
   | succ k=>simpa using h5 k (by omega)
structure Bs (P:Program) (K:TypeId) (eK:α ->D) (kv:α ->Value):Prop where
 val:∀a,(eK a).val?=some (kv a)
 check:∀w em a,(Instr.checkKey em 10000 K (kv a)).run P w= .ok () w
 find:∀w a (es:List MapEntry) (l:List α),es.map (·.key)=l.map kv ->(Instr.findKey K (kv a) es).run P w= .ok (I8 a l es 0) w
 stays:∀w a,(Instr.keyThatStays (kv a) (kv a)).run P w= .ok (kv a) w
theorem Lb {d:TypeDesc} {kv:α ->Value} (hs:∀a b,Instr.sameNow d (kv a) (kv b)=some (decide (a=b))) (a:α):∀(l:List α) (es:List MapEntry) (i:Nat),es.map (·.key)=l.map kv ->Instr.findNow d (kv a) es i=some (I8 a l es i)
 | [],[],i,_=>rfl
 | [],_::_,_,h=>by simp at h
 | _::_,[],_,h=>by simp at h
 | b::r,e::es,i,h=>by
  simp only [List.map_cons,List.cons.injEq] at h;simp only [Instr.findNow,h.1,hs,I8]
  by_cases hab:a=b
  ·simp [hab]
  ·simp only [hab,decide_false,if_false];exact Lb hs a r es (i+1) h.2
theorem Hl {P:Program} {K:TypeId} {kv:α ->Value} (hs:∀w a b,(Op.equal K (kv a) (kv b)).run P w= .ok (decide (a=b)) w) (w:World) (a:α):∀(l:List α) (es:List MapEntry) (i:Nat),es.map (·.key)=l.map kv ->(Instr.findAsking K (kv a) es i).run P w= .ok (I8 a l es i) w
 | [],[],i,_=>rfl
 | [],_::_,_,h=>by simp at h
 | _::_,[],_,h=>by simp at h
 | b::r,e::es,i,h=>by
  simp only [List.map_cons,List.cons.injEq] at h;simp only [Instr.findAsking,Sem.run_bind,h.1,hs,Result.andThen_ok,I8]
  by_cases hab:a=b
  ·simp [hab]
  ·simp only [hab,decide_false,Bool.false_eq_true,if_false];exact Hl hs w a r es (i+1) h.2
theorem Bs.plain {P:Program} {K:TypeId} {eK:α ->D} {kv:α ->Value} {d:TypeDesc} (hd:P.underlying K=some d) (hv:∀a,(eK a).val?=some (kv a)) (hk:∀a,MapKept.IsKey d (kv a)) (hs:∀a b,Instr.sameNow d (kv a) (kv b)=some (decide (a=b))):Bs P K eK kv where
 val:=hv
 check _ em a:=MapKept.run_checkKey hd (hk a) em 9999
 find _ a es l h:=MapKept.run_findKey hd (Lb hs a l es 0 h)
 stays _ a:=MapKept.run_keyThatStays (hk a)
theorem Bs.asking {P:Program} {K:TypeId} {eK:α ->D} {kv:α ->Value} {d:TypeDesc} (hd:P.underlying K=some d) (hv:∀a,(eK a).val?=some (kv a)) (hc:∀w em a,(Instr.checkKey em 10000 K (kv a)).run P w= .ok () w) (hs:∀w a b,(Op.equal K (kv a) (kv b)).run P w= .ok (decide (a=b)) w) (hn:∀a b,Instr.sameNow d (kv a) (kv b)=none) (ht:∀w a,(Instr.keyThatStays (kv a) (kv a)).run P w= .ok (kv a) w):Bs P K eK kv where
 val:=hv
 check:=hc
 find w a es l h:=by
  simp only [Instr.findKey,Sem.run_bind,run_underlying hd,Result.andThen_ok]
  cases es with
  | nil=>
   cases l with
   | nil=>rfl
   | cons _ _=>simp at h
  | cons e es=>
   cases l with
   | nil=>simp at h
   | cons b r=>
    have h':=h;simp only [List.map_cons,List.cons.injEq] at h;simp only [Instr.findNow,h.1,hn];exact Hl hs w a _ _ 0 h'
 stays:=ht
variable {β:Type}
def Ad:List (α×β) ->α ->β ->β
 | [],_,z=>z
 | (k,b)::r,a,z=>if a=k then b else Ad r a z
def Pw:List (α×β) ->α ->Bool
 | [],_=>false
 | (k,_)::r,a=>decide (a=k) || Pw r a
def BO:List (α×β) ->α ->β ->List (α×β)
 | [],a,b=> [(a,b)]
 | (k,b')::r,a,b=>if a=k then (k,b)::r else (k,b')::BO r a b
def mix:List (α×β) ->α ->Nat
 | [],_=>0
 | (k,_)::r,a=>if a=k then 0 else mix r a+1
def BZ (m:List (α×β)) (a:α) (z:β):List (α×β):=BO m a (Ad m a z)
theorem KJ (m:List (α×β)) (a a':α) (b z:β):Ad (BO m a b) a' z=if a'=a then b else Ad m a' z:=by
 induction m with
 | nil=>simp [BO,Ad]
 | cons p r ih=>
  obtain ⟨k,b'⟩:=p;simp only [BO]
  by_cases h:a=k
  ·subst h
   by_cases h2:a'=a<;>simp [Ad,h2]
  ·simp only [h,if_false,Ad,ih]
   by_cases h2:a'=k
   ·subst h2;simp [Ne.symm h]
   ·simp [h2]
theorem Dq (m:List (α×β)) (a a':α) (z:β):Ad (BZ m a z) a' z=Ad m a' z:=by
 rw [BZ,KJ]
 split
 ·rename_i h;rw [h]
 ·rfl
theorem TL (m:List (α×β)) (a:α) (b z:β):BO (BZ m a z) a b=BO m a b:=by
 unfold BZ
 generalize Ad m a z=c
 induction m with
 | nil=>simp [BO]
 | cons p r ih=>
  obtain ⟨k,b'⟩:=p
  by_cases h:a=k
  ·subst h;simp [BO]
  ·simp [BO,h,ih]
theorem Kz (m:List (α×β)) (a:α) (z:β):mix (BZ m a z) a=mix m a:=by
 unfold BZ
 generalize Ad m a z=c
 induction m with
 | nil=>simp [BO,mix]
 | cons p r ih=>
  obtain ⟨k,b'⟩:=p
  by_cases h:a=k
  ·subst h;simp [BO,mix]
  ·simp [BO,mix,h,ih]
theorem Pv {m:List (α×β)} {a:α} {b:β}:(BO m a b)[mix m a]?=some (a,b)∧∀j,j≠mix m a ->(BO m a b)[j]?=m[j]?:=by
 induction m with
 | nil=>
  refine ⟨by simp [BO,mix],fun j hj=>?_⟩
  cases j with
  | zero=>simp [mix] at hj
  | succ j=>simp [BO]
 | cons p r ih=>
  obtain ⟨k,b'⟩:=p
  by_cases h:a=k
  ·subst h;refine ⟨by simp [BO,mix],fun j hj=>?_⟩
   cases j with
   | zero=>simp [mix] at hj
   | succ j=>simp [BO]
  ·refine ⟨by simp [BO,mix,h,ih.1],fun j hj=>?_⟩
   cases j with
   | zero=>simp [BO,h]
   | succ j=>simpa [BO,h] using ih.2 j (by simpa [mix,h] using hj)
theorem KI {m:List (α×β)} {a:α} {b:β}:(BO m a b).length=max m.length (mix m a+1)∧mix m a≤m.length:=by
 induction m with
 | nil=>simp [BO,mix]
 | cons p r ih=>
  obtain ⟨k,b'⟩:=p
  by_cases h:a=k
  ·subst h;simp [BO,mix]
  ·simp only [BO,mix,h,if_false,List.length_cons];omega
theorem NG {m:List (α×β)} {a:α}:Pw m a=true↔a∈m.map Prod.fst:=by
 induction m with
 | nil=>simp [Pw]
 | cons p r ih=>obtain ⟨k,b⟩:=p;simp [Pw,ih]
theorem Ky {m:List (α×β)} {a:α} {b:β}:(BO m a b).map Prod.fst=if a∈m.map Prod.fst then m.map Prod.fst else m.map Prod.fst++ [a]:=by
 induction m with
 | nil=>simp [BO]
 | cons p r ih=>
  obtain ⟨k,b'⟩:=p
  by_cases h:a=k
  ·subst h;simp [BO]
  ·simp only [BO,h,if_false,List.map_cons,List.mem_cons,false_or,ih]
   split<;>simp
theorem NF {m:List (α×β)} {a:α} {b:β} (h:(m.map Prod.fst).Nodup):((BO m a b).map Prod.fst).Nodup:=by
 rw [Ky]
 split
 ·exact h
 ·rename_i hn
  rw [List.nodup_append];exact ⟨h,by simp,fun x hx y hy=>by simp at hy;subst hy;rintro rfl;exact hn hx⟩
theorem Zc9 {m:List (α×β)} {a:α} {b z:β} (hn:(m.map Prod.fst).Nodup) (h:(a,b)∈m):Ad m a z=b:=by
 induction m with
 | nil=>cases h
 | cons p r ih=>
  obtain ⟨k,b'⟩:=p;simp only [List.map_cons,List.nodup_cons] at hn;simp only [Ad];rcases List.mem_cons.1 h with h' | h'
  ·injection h' with h1 h2;subst h1 h2;simp
  ·have hne:a≠k:=fun e=>by subst e;exact hn.1 (List.mem_map_of_mem (f:=Prod.fst) h')
   rw [if_neg hne];exact ih hn.2 h'
theorem Vl {m:List (α×β)} {a:α} {z:β} (h:a∉m.map Prod.fst):Ad m a z=z:=by
 induction m with
 | nil=>rfl
 | cons p r ih=>
  obtain ⟨k,b'⟩:=p;simp only [List.map_cons,List.mem_cons,not_or] at h;simp only [Ad,h.1,if_false];exact ih h.2
theorem RZ {m:List (α×β)} {a:α} {z:β} (h:a∈m.map Prod.fst):(a,Ad m a z)∈m:=by
 induction m with
 | nil=>simp at h
 | cons p r ih=>
  obtain ⟨k,b'⟩:=p
  by_cases e:a=k
  ·subst e;simp [Ad]
  ·simp only [List.map_cons,List.mem_cons,e,false_or] at h;simp only [Ad,e,if_false];exact List.mem_cons_of_mem _ (ih h)
def DW (m:List (α×β)) (B seen:List Nat):List (α×β):=((m.zip B).filter fun p=>!(seen.contains p.2)).map Prod.fst
omit [DecidableEq α] in
theorem GN {m:List (α×β)} {B:List Nat} (h:B.length=m.length):DW m B []=m:=by
 unfold DW;rw [List.filter_eq_self.2 (by simp)];exact List.map_fst_zip (by omega)
omit [DecidableEq α] in
theorem R3:∀{m:List (α×β)} {B seen:List Nat} {j b:Nat} {x:α×β},B.Nodup ->m[j]?=some x ->B[j]?=some b ->b∉seen ->(DW m B seen).Perm (x::DW m B (seen++ [b]))
 | [],_,_,_,_,_,_,h,_,_=>by simp at h
 | y::m,[],_,_,_,_,_,_,h,_=>by simp at h
 | y::m,c::B,seen,j,b,x,hn,hx,hb,hs=>by
  simp only [List.nodup_cons] at hn
  cases j with
  | zero=>
   simp at hx hb;subst hx hb
   have e:∀(m:List (α×β)) (B:List Nat),c∉B ->DW m B (seen++ [c])=DW m B seen:=fun m B h=>by
    unfold DW
    congr 1
    refine List.filter_congr fun p hp=>?_;have:p.2≠c:=fun e=>h (by rw [←e];exact (List.of_mem_zip hp).2)
    simp [this]
   have h1:DW (y::m) (c::B) seen=y::DW m B seen:=by simp [DW,hs]
   have h2:DW (y::m) (c::B) (seen++ [c])=DW m B (seen++ [c]):=by simp [DW]
   rw [h1,h2,e m B hn.1]
  | succ j=>
   have ih:=R3 (seen:=seen) hn.2 (by simpa using hx) (by simpa using hb) hs;have hbB:b∈B:=List.mem_of_getElem? (by simpa using hb);have hcb:c≠b:=fun e=>hn.1 (by rw [e];exact hbB)
   by_cases hcs:c∈seen
   ·have h1:DW (y::m) (c::B) seen=DW m B seen:=by simp [DW,hcs]
    have h2:DW (y::m) (c::B) (seen++ [b])=DW m B (seen++ [b]):=by simp [DW,hcs]
    rw [h1,h2];exact ih
   ·have h1:DW (y::m) (c::B) seen=y::DW m B seen:=by simp [DW,hcs]
    have h2:DW (y::m) (c::B) (seen++ [b])=y::DW m B (seen++ [b]):=by simp [DW,hcs,hcb]
    rw [h1,h2];exact (List.Perm.cons _ ih).trans (List.Perm.swap _ _ _)
end
def Wa:Value ->Option AV
 | .agg cs=>match Gy cs.toList with
  | none=>none
  | some l=>JD l
 | v=>Hs v
def FA (P:Program) (T:TypeId):Option AV:=match P.info? T with
 | none=>none
 | some i=>match i.zero with
  | none=>none
  | some z=>Wa z
theorem S8 {v:Value} {a:AV} (h:Wa v=some a) (w:World) (O:Nat ->Prop) (ρ:Nat ->Nat ->Value):A3 w O ρ a v:=by
 unfold Wa at h
 split at h
 ·rename_i cs
  split at h
  ·cases h
  ·rename_i l hl
   obtain ⟨h1,h2⟩:=Eo hl w O ρ;have:=F9 (w:=w) (O:=O) (ρ:=ρ) h h1 h2
   simpa using this
 ·exact (Kp h).1
theorem F3 {P:Program} {T:TypeId} {a:AV} (h:FA P T=some a) (w:World):∃z,(zeroValue T).run P w= .ok z w∧∀(w':World) O ρ,A3 w' O ρ a z:=by
 unfold FA at h
 split at h
 ·cases h
 ·rename_i i hi
  split at h
  ·cases h
  ·rename_i z hz
   exact ⟨z,by simp [zeroValue,typeInfo,hi,hz],fun w' O ρ=>S8 h w' O ρ⟩
def CV (P:Program) (T K E:TypeId):Bool:=match P.underlying T with
 | some (.map k e)=>Nat.beq k K && Nat.beq e E
 | _=>false
theorem ZC {P:Program} {T K E:TypeId} (h:CV P T K E=true):P.underlying T=some (.map K E):=by
 unfold CV at h
 split at h
 ·rename_i k e hk
  simp only [Bool.and_eq_true] at h;rw [hk,Nat.eq_of_beq_eq_true h.1,Nat.eq_of_beq_eq_true h.2]
 ·cases h
section
variable {α β:Type} [DecidableEq α]
def CB (eK:α ->D) (eV:β ->D) (m:List (α×β)):List (D×D):=m.map fun x=>(eK x.1,eV x.2)
def B5 (eK:α ->D) (eV:β ->D) (m:List (α×β)):AM:= .map (some (List.range m.length,m.length)) (CB eK eV m)
def mapH (eK:α ->D) (eV:β ->D) (m:List (α×β)):AM:= .map none (CB eK eV m)
variable {P:Program} {F:Fr} {s:AS} {K:TypeId} {eK:α ->D} {kv:α ->Value} {eV:β ->D}
theorem Zdb (KT:Bs P K eK kv) {w:World} {O:Nat ->Prop} {m:List (α×β)} {arr:Array MapEntry} (hz:arr.size=(CB eK eV m).length)
  (h:∀(i:Nat) e x,arr[i]?=some e ->(CB eK eV m)[i]?=some x ->AX w O x.1 e.key∧AX w O x.2 e.val):arr.toList.map (·.key)=(m.map Prod.fst).map kv:=by
 simp only [CB,List.length_map] at hz;refine List.ext_getElem? fun i=>?_;simp only [List.getElem?_map,Array.getElem?_toList]
 cases ha:arr[i]? with
 | none=>
  have:arr.size≤i:=Array.getElem?_eq_none_iff.1 ha;rw [List.getElem?_eq_none (by omega)];rfl
 | some e=>
  have hlt:i<m.length:=by have:=(Array.getElem?_eq_some_iff.1 ha).1;omega
  rw [List.getElem?_eq_getElem hlt];have h1:=(h i e (eK m[i].1,eV m[i].2) ha (by simp [CB,hlt])).1;simp only [Option.map_some,Option.some.injEq];exact h1.val (KT.val _)
theorem hit_get (KT:Bs P K eK kv) {w:World} {O:Nat ->Prop} {m:List (α×β)} {arr:Array MapEntry} (hz:arr.size=(CB eK eV m).length)
  (h:∀(i:Nat) e x,arr[i]?=some e ->(CB eK eV m)[i]?=some x ->AX w O x.1 e.key∧AX w O x.2 e.val) (a:α) (z:β):
  (I8 a (m.map Prod.fst) arr.toList 0=none∧Pw m a=false∧Ad m a z=z∧mix m a=m.length)∨∃i e,I8 a (m.map Prod.fst) arr.toList 0=some (i,e.val)∧arr[i]?=some e∧e.key=kv a∧Pw m a=true∧mix m a=i∧i<m.length∧AX w O (eV (Ad m a z)) e.val:=by
 have hlen:arr.toList.length=(m.map Prod.fst).length:=by simpa [CB] using hz
 cases hh:I8 a (m.map Prod.fst) arr.toList 0 with
 | none=>
  have hn:=Or hlen hh;refine .inl ⟨rfl,?_,Vl hn,?_⟩
  ·cases hm:Pw m a with
   | false=>rfl
   | true=>exact absurd (NG.1 hm) hn
  ·clear hh hlen hz h
   induction m with
   | nil=>rfl
   | cons p r ih=>
    obtain ⟨k,b⟩:=p;simp only [List.map_cons,List.mem_cons,not_or] at hn
    simp [mix,hn.1,ih hn.2]
 | some q=>
  obtain ⟨i,v⟩:=q;obtain ⟨_,h2,⟨e,h3,h4⟩,h5⟩:=Oq hh;simp only [Nat.sub_zero,Array.getElem?_toList] at h2 h3 h5;rw [List.getElem?_map] at h2
  have hi:i<m.length:=by
   cases hm:m[i]? with
   | none=>rw [hm] at h2;cases h2
   | some x=>exact (List.getElem?_eq_some_iff.1 hm).1
  have hx:(m[i]).1=a:=by rw [List.getElem?_eq_getElem hi] at h2;simpa using h2
  have hkey:mix m a=i∧Ad m a z=(m[i]).2:=by
   clear hh hlen hz h h3 h4
   induction m generalizing i with
   | nil=>simp at hi
   | cons p r ih=>
    obtain ⟨k,b⟩:=p
    cases i with
    | zero=>simp at hx;subst hx;simp [mix,Ad]
    | succ i=>
     have hne:a≠k:=fun e=>h5 0 (by omega) (by simp [e]);have h5':∀k',k'<i ->(r.map Prod.fst)[k']?≠some a:=fun k' hk'=>by simpa using h5 (k'+1) (by omega)
     have:=ih i (Nat.zero_le _) (by rw [List.getElem?_cons_succ] at h2;exact h2) h5' (by simpa using hi) (by simpa using hx)
     simp [mix,Ad,hne,this]
  obtain ⟨g1,g2⟩:=h i e (eK m[i].1,eV m[i].2) h3 (by simp [CB,hi]);refine .inr ⟨i,e,by rw [←h4],h3,?_,NG.2 (by rw [←hx];exact List.mem_map_of_mem (List.getElem_mem hi)),hkey.1,hi,by rw [hkey.2];exact g2⟩;have:=g1.val (KT.val _);rw [this,hx]
variable {d:Nat} {ty T E:TypeId} {pos:String} {aft:Array Edge} {g:Option (Nat×Bool)} {x y z:Operand} {bs:Option (List Nat×Nat)}
theorem SR.mapAt {ρ:Nat ->Nat ->Value} {act:Act} {w:World} (hs:SR F s ρ act w) {f i:Nat} {es:List (D×D)} (hx:s.ev x=some (.map f i)) (ho:hget s.hp f i=some (.map bs es)):
  ∃(mb:Nat) (arr:Array MapEntry) (c:Nat),act.eval x= .map (some mb)∧ρ f i= .map (some mb)∧w.heap[mb]?=some (.map arr c)∧arr.size=es.length∧(∀(i:Nat) e x,arr[i]?=some e ->es[i]?=some x ->AX w (F.O ρ s.hp) x.1 e.key∧AX w (F.O ρ s.hp) x.2 e.val)∧
   (arr.toList.map (·.born)).Nodup∧(∀e∈arr.toList,e.born<c)∧∀B c',bs=some (B,c') ->B=arr.toList.map (·.born)∧c'=c:=by
 have hrx:=hs.ev hx;obtain ⟨mb,arr,c,h1,h2⟩:=hs.heap.sim f i _ ho
 generalize act.eval x=vx at hrx
 cases hrx with
 | @map _ _ m' h=>rw [h1] at h;injection h with h;injection h with h;subst h;exact ⟨mb,arr,c,rfl,h1,h2⟩
theorem IC (m:List (α×β)) (a:α) (b0 v:β) {f i:Nat} (hx:s.ev x=some (.map f i)) (ho:hget s.hp f i=some (.map bs (CB eK eV m))) (hy:s.ev y=some (.d (eK a))) (hT:CV P T K E=true) (KT:Bs P K eK kv) (hz:FA P E=some (.d (eV b0))) (hv:Ad m a b0=v) (hd:Nat.blt d s.n=true):
  AA P F ⟨some d,.lookup T x y false,ty,pos,aft,g⟩ s d (.d (eV v)):=
 CX _ hd fun ρ act w hs=>by
  obtain ⟨mb,arr,c,e1,_,h1,h2,h3,_⟩:=hs.mapAt hx ho;have hk:act.eval y=kv a:=(hs.repD hy).val (KT.val a);obtain ⟨zv,hz1,hz2⟩:=F3 hz w;subst hv;rcases hit_get KT h2 h3 a b0 with ⟨g1,_,g3,_⟩ | ⟨j,e,g1,g2,_,_,_,_,g7⟩
  ·refine ⟨zv,?_,by rw [g3];exact hz2 _ _ _⟩
   simp [execOp,Instr.lookup,run_underlying (ZC hT),e1,hk,MapKept.run_getObj_map h1,KT.check,KT.find w a _ _ (Zdb KT h2 h3),g1,hz1,Result.andThen]
  ·refine ⟨e.val,?_,.d g7⟩
   simp [execOp,Instr.lookup,run_underlying (ZC hT),e1,hk,MapKept.run_getObj_map h1,KT.check,KT.find w a _ _ (Zdb KT h2 h3),g1,Result.andThen]
theorem S3 (f:Nat) {env':List (Nat×AV)} {hp1 hp':List (Nat×List AM)} (hE:Ac f s.env=some env') (hH:Aa f s.hp=some hp1) (hn:DD hp1 f (.map (some ([],0)) [])=some hp') (hd:Nat.blt d s.n=true):
  AL P F ⟨some d,.makeMap T none,ty,pos,aft,g⟩ s ⟨s.n,(d,.map f 0)::env',hp'⟩ (Bp f):=fun ρ act w hs=>by
 have hrun:(execOp act.eval ⟨some d,.makeMap T none,ty,pos,aft,g⟩).run P w= .ok (.value (.map (some w.heap.size))) (w.alloc (.map #[] 0)):=by
  simp [execOp,run_makeMap,Result.andThen]
 unfold Oper.wp;rw [hrun];have hsr:=hs.new f (.map (some ([],0)) []) (.map (some w.heap.size)) (.map #[] 0) hE hH hn rfl (fun hrep=>⟨w.heap.size, #[],0,rfl,heap_alloc_new w _,rfl,by simp,by simp,by simp,fun B c' e=>by injection e with e;injection e with e1 e2;subst e1 e2;simp⟩);exact ⟨_,hsr.put (J5 hd) (.map QX),fun f i h=>Nl fun e=>Te h e.1⟩
end
end Go.Proofs.YtnkkaeblokdifaaGreat
/- The rules of maps' operations that write, and of ranges over maps. No program in sight. -/
namespace Go.Proofs.YtnkkaeblokdifaaGreat
open Go.RowKit Go.ChangeMaps
section
variable {α β:Type} [DecidableEq α]
variable {P:Program} {F:Fr} {s:AS} {K:TypeId} {eK:α ->D} {kv:α ->Value} {eV:β ->D}
variable {d:Nat} {ty T E:TypeId} {pos:String} {aft:Array Edge} {g:Option (Nat×Bool)} {x y z:Operand} {bs:Option (List Nat×Nat)}
def Nb (m:List (α×β)) (a:α):Option (List Nat×Nat) ->Option (List Nat×Nat)
 | none=>none
 | some (B,c)=>if mix m a<m.length then some (B,c) else some (B++ [c],c+1)
theorem Hu (m:List (α×β)) (a:α) (b:β):Nb m a (some (List.range m.length,m.length))=some (List.range (BO m a b).length,(BO m a b).length):=by
 obtain ⟨h1,h2⟩:=KI (m:=m) (a:=a) (b:=b);unfold Nb
 by_cases h:mix m a<m.length
 ·simp only [h,if_true,show (BO m a b).length=m.length by omega]
 ·simp only [h,if_false,show (BO m a b).length=m.length+1 by omega,List.range_succ]
theorem Ir (_:Bs P K eK kv) {w w':World} {O O':Nat ->Prop} {ρ:Nat ->Nat ->Value} {m:List (α×β)} {a:α} {b:β} {arr arr':Array MapEntry} {c c' mb:Nat} {v:Value}
  (hz:arr.size=(CB eK eV m).length) (h:∀(i:Nat) e x,arr[i]?=some e ->(CB eK eV m)[i]?=some x ->AX w O x.1 e.key∧AX w O x.2 e.val)
  (hn:(arr.toList.map (·.born)).Nodup) (hb:∀e∈arr.toList,e.born<c) (hbs:∀B c',bs=some (B,c') ->B=arr.toList.map (·.born)∧c'=c)
  (hrep:∀A v,A3 w O ρ A v ->A3 w' O' ρ A v) (hv:AX w' O' (eV b) v) (hkr:AX w' O' (eK a) (kv a))
  (hcase:(mix m a=m.length∧arr'=arr.push {key:=kv a,val:=v,born:=c}∧c'=c+1)∨∃e,arr[mix m a]?=some e∧mix m a<m.length∧arr'=(arr.modify (mix m a) fun e=>{e with key:=kv a,val:=v})∧c'=c)
  (hblk:w'.heap[mb]?=some (.map arr' c')):BK w' O' ρ (.map (Nb m a bs) (CB eK eV (BO m a b))) (.map (some mb)):=by
 have hzm:arr.size=m.length:=by simpa [CB] using hz
 obtain ⟨l1,l2⟩:=KI (m:=m) (a:=a) (b:=b);obtain ⟨p1,p2⟩:=Pv (m:=m) (a:=a) (b:=b)
 have hrepD:∀x v,AX w O x v ->AX w' O' x v:=fun x v hx=>by
  have:=hrep (.d x) v (.d hx)
  cases this with | d h=>exact h
 rcases hcase with ⟨hm,rfl,rfl⟩ | ⟨e0,he0,hlt,rfl,rfl⟩
 ·refine ⟨mb,_,_,rfl,hblk,?_,fun i e x he hx=>?_,?_,fun e he=>?_,fun B c' hB=>?_⟩
  ·simp [CB];omega
  ·have hi:i<(BO m a b).length:=by have:=(List.getElem?_eq_some_iff.1 hx).1;simpa [CB] using this
   by_cases hie:i=m.length
   ·subst hie;rw [Array.getElem?_push,if_pos hzm.symm] at he;injection he with he;subst he
    have:(CB eK eV (BO m a b))[m.length]?=some (eK a,eV b):=by
     have:=p1;rw [hm] at this;simp [CB,this]
    rw [this] at hx;injection hx with hx;subst hx
    exact ⟨hkr,hv⟩
   ·rw [Array.getElem?_push,if_neg (by omega)] at he
    have hx':(CB eK eV m)[i]?=some x:=by
     have:=p2 i (by omega);simp only [CB,List.getElem?_map,this] at hx⊢;exact hx
    obtain ⟨g1,g2⟩:=h i e x he hx';exact ⟨hrepD _ _ g1,hrepD _ _ g2⟩
  ·simp only [Array.toList_push,List.map_append,List.map_cons,List.map_nil];rw [List.nodup_append];refine ⟨hn,by simp,fun u hu v' hv'=>?_⟩
   simp at hv';subst hv'
   obtain ⟨e,he,rfl⟩:=List.mem_map.1 hu;have:=hb e he;omega
  ·simp only [Array.toList_push,List.mem_append,List.mem_cons,List.not_mem_nil,or_false] at he;rcases he with he | rfl
   ·have:=hb e he;omega
   ·show c<c+1;omega
  ·cases bs with
   | none=>cases hB
   | some q=>
    obtain ⟨B0,c0⟩:=q;obtain ⟨rfl,rfl⟩:=hbs B0 c0 rfl;simp only [Nb,hm,Nat.lt_irrefl,if_false,Option.some.injEq,Prod.mk.injEq] at hB;obtain ⟨rfl,rfl⟩:=hB
    simp
 ·have hie:∀(i:Nat) e,(arr.modify (mix m a) fun e=>{e with key:=kv a,val:=v})[i]?=some e ->∃e1,arr[i]?=some e1∧e=if i=mix m a then {e1 with key:=kv a,val:=v} else e1:=fun i e he=>by
   rw [Array.getElem?_modify] at he
   split at he
   ·rename_i hh;subst hh
    rw [he0] at he;simp at he;subst he;exact ⟨e0,he0,by simp⟩
   ·rename_i hh;exact ⟨e,he,by rw [if_neg (fun hh'=>hh hh'.symm)]⟩
  have hborn:(arr.modify (mix m a) fun e=>{e with key:=kv a,val:=v}).toList.map (·.born)=arr.toList.map (·.born):=by
   refine List.ext_getElem? fun i=>?_;simp only [List.getElem?_map,Array.getElem?_toList,Array.getElem?_modify]
   split
   ·rename_i hh;subst hh;rw [he0];rfl
   ·rfl
  refine ⟨mb,_,_,rfl,hblk,?_,fun i e x he hx=>?_,by rw [hborn];exact hn,fun e he=>?_,fun B c' hB=>?_⟩
  ·simp [CB];omega
  ·obtain ⟨e1,h1,rfl⟩:=hie i e he
   by_cases hii:i=mix m a
   ·subst hii;rw [if_pos rfl];have:(CB eK eV (BO m a b))[mix m a]?=some (eK a,eV b):=by simp [CB,p1]
    rw [this] at hx;injection hx with hx;subst hx
    exact ⟨hkr,hv⟩
   ·rw [if_neg hii]
    have hx':(CB eK eV m)[i]?=some x:=by
     have:=p2 i hii;simp only [CB,List.getElem?_map,this] at hx⊢;exact hx
    obtain ⟨g1,g2⟩:=h i e1 x h1 hx';exact ⟨hrepD _ _ g1,hrepD _ _ g2⟩
  ·have:e.born∈(arr.modify (mix m a) fun e=>{e with key:=kv a,val:=v}).toList.map (·.born):=List.mem_map_of_mem (f:=(·.born)) he;rw [hborn] at this;obtain ⟨e1,h1,h2⟩:=List.mem_map.1 this;rw [←h2];exact hb e1 h1
  ·cases bs with
   | none=>cases hB
   | some q=>
    obtain ⟨B0,c0⟩:=q;simp only [Nb,hlt,if_true,Option.some.injEq,Prod.mk.injEq] at hB;obtain ⟨rfl,rfl⟩:=hB;rw [hborn];exact hbs _ _ rfl
theorem Zdc {w:World} {b:Nat} {o:Obj} {i:Nat} (h:i≠b):(setBlock w b o).heap[i]?=w.heap[i]?:=by
 simp [setBlock,Ne.symm h]
theorem ED {w:World} {b:Nat} {o o':Obj} (h:w.heap[b]?=some o'):(setBlock w b o).heap[b]?=some o:=by
 have:=(Array.getElem?_eq_some_iff.1 h).1
 simp [setBlock,this]
theorem Zc0 {w:World} {b:Nat} {o:Obj}:(setBlock w b o).heap.size=w.heap.size:=by simp [setBlock]
theorem Qk (m:List (α×β)) (a:α) (b:β) {f i:Nat} {hp':List (Nat×List AM)} (hx:s.ev x=some (.map f i)) (ho:hget s.hp f i=some (.map bs (CB eK eV m))) (hy:s.ev y=some (.d (eK a))) (hT:CV P T K E=true) (KT:Bs P K eK kv) (hz:s.ev z=some (.d (eV b)))
  (hh:B9 s.hp f i (.map (Nb m a bs) (CB eK eV (BO m a b)))=some hp'):AL P F ⟨none,.mapUpdate T x y z,ty,pos,aft,g⟩ s ⟨s.n,s.env,hp'⟩ (fun _ _=>true):=fun ρ act w hs=>by
 obtain ⟨mb,arr,c,e1,e2,h1,h2,h3,h4,h5,h6⟩:=hs.mapAt hx ho;have hk:act.eval y=kv a:=(hs.repD hy).val (KT.val a);have hkr:AX w (F.O ρ s.hp) (eK a) (kv a):=hk▸hs.repD hy;have hvr:=hs.ev hz
 have fin:∀arr' c',(execOp act.eval ⟨none,.mapUpdate T x y z,ty,pos,aft,g⟩).run P w= .ok .skip (setBlock w mb (.map arr' c')) ->((mix m a=m.length∧arr'=arr.push {key:=kv a,val:=act.eval z,born:=c}∧c'=c+1)∨∃e,arr[mix m a]?=some e∧mix m a<m.length∧arr'=(arr.modify (mix m a) fun e=>{e with key:=kv a,val:=act.eval z})∧c'=c)→
   (⟨none,.mapUpdate T x y z,ty,pos,aft,g⟩:Oper).wp P act w (fun act' w'=>∃ρ',SR F ⟨s.n,s.env,hp'⟩ ρ' act' w'∧∀f i,(fun _ _=>true) f i=true ->ρ' f i=ρ f i) (fun _ _ _=>False):=fun arr' c' hrun hcase=>by
  unfold Oper.wp;rw [hrun];refine ⟨ρ,hs.write f i _ (.map (Nb m a bs) (CB eK eV (BO m a b))) ho (BA hh) Z Z Z Zc0 (fun b' hb'=>Zdc fun e=>hb' (by rw [e2,e];rfl)) (fun _ _ e=>by cases e) fun hrep=>?_,fun _ _ _=>rfl⟩;rw [e2];refine Ir KT h2 h3 h4 h5 h6 hrep (by have:=hrep _ _ hvr;cases this with | d h=>exact h) ?_ hcase (ED h1);have:=hrep (.d (eK a)) _ (.d hkr)
  cases this with | d h=>exact h
 rcases hit_get KT h2 h3 a b with ⟨g1,_,_,g4⟩ | ⟨j,e,g1,g2,g3,_,g5,g6,_⟩
 ·refine fin _ _ ?_ (.inl ⟨g4,rfl,rfl⟩)
  simp [execOp,Instr.mapUpdate,run_underlying (ZC hT),e1,hk,MapKept.run_getObj_map h1,KT.check,KT.find w a _ _ (Zdb KT h2 h3),g1,Result.andThen,MapKept.run_setObj_map _ h1,setBlock]
 ·refine fin _ _ ?_ (.inr ⟨e,by rw [g5];exact g2,by rw [g5];exact g6,rfl,rfl⟩)
  simp [execOp,Instr.mapUpdate,run_underlying (ZC hT),e1,hk,MapKept.run_getObj_map h1,KT.check,KT.find w a _ _ (Zdb KT h2 h3),g1,g2,g3,g5,Result.andThen,MapKept.run_setObj_map _ h1,setBlock,KT.stays]
theorem DE {n:Nat} {env:List (Nat×AV)} {hp hp':List (Nat×List AM)} (m:List (α×β)) (a:α) (b:β) {f i:Nat} (hx:AS.ev ⟨n,env,hp⟩ x=some (.map f i)) (ho:hget hp f i=some (B5 eK eV m)) (hy:AS.ev ⟨n,env,hp⟩ y=some (.d (eK a))) (hT:CV P T K E=true) (KT:Bs P K eK kv) (hz:AS.ev ⟨n,env,hp⟩ z=some (.d (eV b)))
  (hh:B9 hp f i (B5 eK eV (BO m a b))=some hp'):AL P F ⟨none,.mapUpdate T x y z,ty,pos,aft,g⟩ ⟨n,env,hp⟩ ⟨n,env,hp'⟩ (fun _ _=>true):=
 Qk (s:=⟨n,env,hp⟩) m a b hx ho hy hT KT hz (by rw [Hu (b:=b)];exact hh)
theorem WZ {n:Nat} {env:List (Nat×AV)} {hp hp':List (Nat×List AM)} (m:List (α×β)) (a:α) (b:β) {f i:Nat} (hx:AS.ev ⟨n,env,hp⟩ x=some (.map f i)) (ho:hget hp f i=some (mapH eK eV m)) (hy:AS.ev ⟨n,env,hp⟩ y=some (.d (eK a))) (hT:CV P T K E=true) (KT:Bs P K eK kv) (hz:AS.ev ⟨n,env,hp⟩ z=some (.d (eV b)))
  (hh:B9 hp f i (mapH eK eV (BO m a b))=some hp'):AL P F ⟨none,.mapUpdate T x y z,ty,pos,aft,g⟩ ⟨n,env,hp⟩ ⟨n,env,hp'⟩ (fun _ _=>true):=
 Qk (s:=⟨n,env,hp⟩) m a b hx ho hy hT KT hz hh
theorem Gi {n:Nat} {env:List (Nat×AV)} {hp hp':List (Nat×List AM)} (m:List (α×β)) (a:α) (b0:β) {f i:Nat} (hx:AS.ev ⟨n,env,hp⟩ x=some (.map f i)) (ho:hget hp f i=some (B5 eK eV m)) (hy:AS.ev ⟨n,env,hp⟩ y=some (.d (eK a))) (hT:CV P T K E=true) (KT:Bs P K eK kv) (hz:FA P E=some (.d (eV b0)))
  (hh:B9 hp f i (B5 eK eV (BZ m a b0))=some hp') (hd:Nat.blt d n=true):AL P F ⟨some d,.mapEntry T x y,ty,pos,aft,g⟩ ⟨n,env,hp⟩ ⟨n,(d,.tup [.d (eV (Ad m a b0)),.d (.raw (.int .i64 (mix m a:Int)))])::env,hp'⟩ (fun _ _=>true):=fun ρ act w hs=>by
 obtain ⟨mb,arr,c,e1,e2,h1,h2,h3,h4,h5,h6⟩:=hs.mapAt hx ho;have hk:act.eval y=kv a:=(hs.repD hy).val (KT.val a);have hkr:AX w (F.O ρ hp) (eK a) (kv a):=hk▸hs.repD hy;obtain ⟨zv,hz1,hz2⟩:=F3 hz w;obtain ⟨hB,hc⟩:=h6 _ _ rfl;subst hc;have hzm:arr.size=m.length:=by simpa [CB] using h2
 have fin:∀arr' c' v,(execOp act.eval ⟨some d,.mapEntry T x y,ty,pos,aft,g⟩).run P w= .ok (.value (.tuple #[v,.int .i64 (mix m a:Int)])) (setBlock w mb (.map arr' c')) ->AX w (F.O ρ hp) (eV (Ad m a b0)) v ->((mix m a=m.length∧arr'=arr.push {key:=kv a,val:=v,born:=m.length}∧c'=m.length+1)∨∃e,arr[mix m a]?=some e∧mix m a<m.length∧arr'=(arr.modify (mix m a) fun e=>{e with key:=kv a,val:=v})∧c'=m.length)→
   (⟨some d,.mapEntry T x y,ty,pos,aft,g⟩:Oper).wp P act w (fun act' w'=>∃ρ',SR F ⟨n,(d,.tup [.d (eV (Ad m a b0)),.d (.raw (.int .i64 (mix m a:Int)))])::env,hp'⟩ ρ' act' w'∧∀f i,(fun _ _=>true) f i=true ->ρ' f i=ρ f i) (fun _ _ _=>False):=fun arr' c' v hrun hvr hcase=>by
  unfold Oper.wp;rw [hrun]
  have hw:=hs.write f i _ (B5 eK eV (BZ m a b0)) (w':=setBlock w mb (.map arr' c')) ho (BA hh) Z Z Z Zc0 (fun b' hb'=>Zdc fun e=>hb' (by rw [e2,e];rfl)) (fun _ _ e=>by cases e) fun hrep=>by
   rw [e2]
   have:=Ir (b:=Ad m a b0) KT h2 h3 h4 h5 h6 hrep (by have:=hrep (.d _) _ (.d hvr);cases this with | d h=>exact h) (by
    have:=hrep (.d (eK a)) _ (.d hkr)
    cases this with | d h=>exact h) hcase (ED h1)
   rw [Hu (b:=Ad m a b0)] at this;exact this
  have hrep:AX (setBlock w mb (.map arr' c')) (F.O ρ hp') (eV (Ad m a b0)) v:=by
   have hO:∀b,F.O ρ hp' b ->F.O ρ hp b:=fun b hh'=>by
    rcases hh' with hh' | ⟨f',i',o1,g1,g2⟩
    ·exact .inl hh'
    ·refine .inr ?_
     by_cases e:f'=f∧i'=i
     ·obtain ⟨rfl,rfl⟩:=e;exact ⟨f',i',_,ho,g2⟩
     ·rw [BA hh,if_neg e] at g1;exact ⟨f',i',o1,g1,g2⟩
   exact hvr.mono (Nat.le_of_eq Zc0.symm) (fun b _ hn=>Zdc fun e=>hn (.inr ⟨f,i,_,ho,by rw [e2,e];rfl⟩)) (fun b _=>hO b)
  refine ⟨ρ,hw.put (J5 hd) (.tup (vs:=[v,.int .i64 (mix m a:Int)]) rfl fun i a v ha hv=>?_),fun _ _ _=>rfl⟩;rcases i with _ | _ | i
  ·simp at ha hv;subst ha hv;exact .d hrep
  ·simp at ha hv;subst ha hv;exact .d (.raw rfl)
  ·simp at ha
 rcases hit_get KT h2 h3 a b0 with ⟨g1,_,g3,g4⟩ | ⟨j,e,g1,g2,g3,_,g5,g6,g7⟩
 ·refine fin _ _ zv ?_ (by rw [g3];have:=hz2 w (F.O ρ hp) ρ;cases this with | d h=>exact h) (.inl ⟨g4,rfl,rfl⟩)
  simp [execOp,Instr.mapEntry,run_underlying (ZC hT),e1,hk,MapKept.run_getObj_map h1,KT.check,KT.find w a _ _ (Zdb KT h2 h3),g1,g4,hz1,Result.andThen,MapKept.run_setObj_map _ h1,setBlock,goInt]
 ·have hborn:e.born=j:=by
   have hj:j<arr.size:=(Array.getElem?_eq_some_iff.1 g2).1;have:=congrArg (·[j]?) hB;simp only [List.getElem?_map,Array.getElem?_toList,g2,Option.map_some] at this;rw [List.getElem?_range (by omega)] at this;injection this with this;exact this.symm
  refine fin _ _ e.val ?_ g7 (.inr ⟨e,by rw [g5];exact g2,by rw [g5];exact g6,rfl,rfl⟩)
  have hmod:(arr.modify (mix m a) fun e=>{e with key:=kv a})=arr.modify (mix m a) fun e'=>{e' with key:=kv a,val:=e.val}:=by
   refine Array.ext_getElem? fun i=>?_;rw [Array.getElem?_modify,Array.getElem?_modify]
   split
   ·rename_i hh;subst hh;rw [g5,g2];rfl
   ·rfl
  rw [←hmod]
  simp [execOp,Instr.mapEntry,run_underlying (ZC hT),e1,hk,MapKept.run_getObj_map h1,KT.check,KT.find w a _ _ (Zdb KT h2 h3),g1,g2,g3,g5,hborn,Result.andThen,MapKept.run_setObj_map _ h1,setBlock,KT.stays,goInt]
theorem Gj {n:Nat} {env:List (Nat×AV)} {hp hp':List (Nat×List AM)} (m:List (α×β)) (a:α) (b0 b:β) {f i:Nat} (hx:AS.ev ⟨n,env,hp⟩ x=some (.map f i)) (ho:hget hp f i=some (B5 eK eV (BZ m a b0))) (hy:AS.ev ⟨n,env,hp⟩ y=some (.d (.raw (.int .i64 (mix m a:Int))))) (KT:Bs P K eK kv) (hz:AS.ev ⟨n,env,hp⟩ z=some (.d (eV b)))
  (hh:B9 hp f i (B5 eK eV (BO m a b))=some hp'):AL P F ⟨none,.entryStore T x y z,ty,pos,aft,g⟩ ⟨n,env,hp⟩ ⟨n,env,hp'⟩ (fun _ _=>true):=fun ρ act w hs=>by
 obtain ⟨mb,arr,c,e1,e2,h1,h2,h3,h4,h5,h6⟩:=hs.mapAt hx ho;have hy':act.eval y= .int .i64 (mix m a:Int):=hs.raw hy;have hvr:=hs.ev hz;obtain ⟨hB,hc⟩:=h6 _ _ rfl;have hzm:arr.size=(BZ m a b0).length:=by simpa [CB] using h2
 obtain ⟨l1,l2⟩:=KI (m:=m) (a:=a) (b:=Ad m a b0);have hlt:mix m a<(BZ m a b0).length:=by unfold BZ;omega
 have hborn:∀(i:Nat) e,arr[i]?=some e ->e.born=i:=fun i e he=>by
  have hi:i<arr.size:=(Array.getElem?_eq_some_iff.1 he).1;have:=congrArg (·[i]?) hB;simp only [List.getElem?_map,Array.getElem?_toList,he,Option.map_some] at this;rw [List.getElem?_range (by omega)] at this;injection this with this;exact this.symm
 obtain ⟨e0,he0⟩:∃e,arr[mix m a]?=some e:=⟨_,Array.getElem?_eq_getElem (by omega)⟩
 have hidx:arr.findIdx? (fun e=>(e.born:Int)==(mix m a:Int))=some (mix m a):=by
  rw [Array.findIdx?_eq_some_iff_getElem];refine ⟨by omega,?_,fun j hj=>?_⟩
  ·have:=hborn _ _ (Array.getElem?_eq_getElem (show mix m a<arr.size by omega))
   simp [this]
  ·have:=hborn _ _ (Array.getElem?_eq_getElem (show j<arr.size by omega))
   simp [this];omega
 have hrun:(execOp act.eval ⟨none,.entryStore T x y z,ty,pos,aft,g⟩).run P w= .ok .skip (setBlock w mb (.map (arr.modify (mix m a) fun e=>{e with val:=act.eval z}) c)):=by
  simp [execOp,Instr.entryStore,e1,hy',MapKept.run_getObj_map h1,asInt,asIntOf,hidx,Result.andThen,MapKept.run_setObj_map _ h1,setBlock]
 unfold Oper.wp;rw [hrun]
 have hkey:e0.key=kv a:=by
  have hp:=(Pv (m:=m) (a:=a) (b:=Ad m a b0)).1;have:=(h3 _ e0 (eK a,eV (Ad m a b0)) he0 (by simp only [CB,List.getElem?_map];unfold BZ;rw [hp];rfl)).1;exact this.val (KT.val a)
 have hmod:(arr.modify (mix m a) fun e=>{e with val:=act.eval z})=arr.modify (mix (BZ m a b0) a) fun e=>{e with key:=kv a,val:=act.eval z}:=by
  rw [Kz];refine Array.ext_getElem? fun i=>?_;rw [Array.getElem?_modify,Array.getElem?_modify]
  split
  ·rename_i hh;subst hh;rw [he0];simp [hkey]
  ·rfl
 have hkr:AX w (F.O ρ hp) (eK a) (kv a):=by
  have hp:=(Pv (m:=m) (a:=a) (b:=Ad m a b0)).1;have:=(h3 _ e0 (eK a,eV (Ad m a b0)) he0 (by simp only [CB,List.getElem?_map];unfold BZ;rw [hp];rfl)).1;rw [hkey] at this;exact this
 refine ⟨ρ,hs.write f i _ (B5 eK eV (BO m a b)) ho (BA hh) Z Z Z Zc0 (fun b' hb'=>Zdc fun e=>hb' (by rw [e2,e];rfl)) (fun _ _ e=>by cases e) fun hrep=>?_,fun _ _ _=>rfl⟩;rw [e2]
 have:=Ir (b:=b) (a:=a) (m:=BZ m a b0) (c':=c) (mb:=mb) KT h2 h3 h4 h5 h6 hrep (by have:=hrep _ _ hvr;cases this with | d h=>exact h) (by
  have:=hrep (.d (eK a)) _ (.d hkr)
  cases this with | d h=>exact h) (.inr ⟨e0,by rw [Kz];exact he0,by rw [Kz];exact hlt,hmod,rfl⟩) (ED h1)
 rw [Hu (b:=b),TL] at this;exact this
theorem HZ (gf:Nat) {f i c:Nat} {B:List Nat} {es:List (D×D)} {env':List (Nat×AV)} {hp1 hp':List (Nat×List AM)} (hx:s.ev x=some (.map f i)) (ho:hget s.hp f i=some (.map (some (B,c)) es)) (hne:Nat.beq f gf=false) (hT:CV P T K E=true)
  (hE:Ac gf s.env=some env') (hH:Aa gf s.hp=some hp1) (hn:DD hp1 gf (.iter f i c [])=some hp') (hd:Nat.blt d s.n=true):
  AL P F ⟨some d,.range T x,ty,pos,aft,g⟩ s ⟨s.n,(d,.ptr gf 0 0)::env',hp'⟩ (Bp gf):=fun ρ act w hs=>by
 obtain ⟨mb,arr,c',e1,e2,h1,h2,h3,h4,h5,h6⟩:=hs.mapAt hx ho;obtain ⟨_,rfl⟩:=h6 _ _ rfl
 have hrun:(execOp act.eval ⟨some d,.range T x,ty,pos,aft,g⟩).run P w= .ok (.value (.pointer (some ⟨w.heap.size,0,none⟩))) (w.alloc (.mapIter (some mb) c #[] c)):=by
  simp [execOp,Instr.range,run_underlying (ZC hT),e1,MapKept.run_getObj_map h1,Result.andThen]
 unfold Oper.wp;rw [hrun];have hsr:=hs.new gf (.iter f i c []) (.pointer (some ⟨w.heap.size,0,none⟩)) (.mapIter (some mb) c #[] c) hE hH hn rfl (fun hrep=>⟨w.heap.size,mb, #[],rfl,by rw [Nl (fun e=>(Nat.ne_of_beq_eq_false hne) e.1)];exact e2,heap_alloc_new w _,rfl⟩);exact ⟨_,hsr.put (J5 hd) (.ptr QX),fun f i h=>Nl fun e=>Te h e.1⟩
omit [DecidableEq α] in
theorem NA {Q:Exit ->AS ->Prop} {ops:Array Oper} {rest:List Oper} {n:Nat} {env:List (Nat×AV)} {hp:List (Nat×List AM)} (m:List (α×β)) {gf f i c:Nat} {B seen:List Nat} (hx:AS.ev ⟨n,env,hp⟩ x=some (.ptr gf 0 0)) (hi:hget hp gf 0=some (.iter f i c seen)) (ho:hget hp f i=some (.map (some (B,c)) (CB eK eV m))) (hd:Nat.blt d n=true)
  (h0:DW m B seen=[] ->Av P F ops rest Q ⟨n,(d,.tup [.d (.raw (.bool false))])::env,hp⟩)
  (h1:∀(j b:Nat) (k:α) (v:β),m[j]?=some (k,v) ->B[j]?=some b ->B.Nodup ->(DW m B seen).Perm ((k,v)::DW m B (seen++ [b])) ->∃hp',B9 hp gf 0 (.iter f i c (seen++ [b]))=some hp'∧Av P F ops rest Q ⟨n,(d,.tup [.d (.raw (.bool true)),.d (eK k),.d (eV v)])::env,hp'⟩):
  Av P F ops (⟨some d,.next x false,ty,pos,aft,none⟩::rest) Q ⟨n,env,hp⟩:=fun ρ act w hs=>by
 obtain ⟨r,mb,sn,q1,q2,q3,q4⟩:=hs.heap.sim gf 0 _ hi;obtain ⟨mb',arr,c',p1,p2,p3,p4,p5,p6,p7⟩:=hs.heap.sim f i _ ho;obtain ⟨hB,hc⟩:=p7 _ _ rfl;subst hc;have:mb'=mb:=by rw [p1] at q2;injection q2 with q2;injection q2 with q2
 subst this
 have hxv:act.eval x= .pointer (some ⟨r,0,none⟩):=by
  have hr:=hs.ev hx
  generalize act.eval x=vx at hr
  cases hr with
  | ptr h=>rw [q1] at h;injection h with h;injection h with h;injection h with h;subst h;rfl
 have hzm:arr.size=m.length:=by simpa [CB] using p3
 have hBn:B.Nodup:=hB▸p5;have hBl:B.length=m.length:=by rw [hB];simp [hzm]
 refine wpListIn_plain rfl fun Kk hk=>FB rfl ?_;rcases run_next_at (P:=P) w ty r mb' c c sn arr c q3 p2 (fun e he=>p6 e he) (Nat.le_refl _) with ⟨hz,hrun⟩ | ⟨e,he,w1,hw1,hrun⟩
 ·have hl0:DW m B seen=[]:=by
   have hz':arr.filter (fun e=>!sn.contains e.born)= #[]:=Array.eq_empty_of_size_eq_zero hz;rw [Array.filter_eq_empty_iff] at hz';unfold DW;rw [List.map_eq_nil_iff,List.filter_eq_nil_iff];intro q hq hs';obtain ⟨j,hj,rfl⟩:=List.getElem_of_mem hq;rw [List.length_zip] at hj;have hja:j<arr.size:=by omega
   have h2:=hz' arr[j] (by simp);rw [List.getElem_zip] at hs'
   have h3:B[j]'(by omega)=arr[j].born:=by
    have:=congrArg (·[j]?) hB;simp only [List.getElem?_map,Array.getElem?_toList,Array.getElem?_eq_getElem hja,Option.map_some] at this;rw [List.getElem?_eq_getElem (by omega)] at this;injection this
   simp only [h3,←q4] at hs';simp only [Array.contains_toList] at hs';exact absurd hs' (by simpa using h2)
  have hex:(execOp act.eval ⟨some d,.next x false,ty,pos,aft,none⟩).run P w= .ok (.value (.tuple #[.bool false])) w:=by
   simp [execOp,hxv,hrun,Result.andThen]
  unfold Oper.wp;rw [hex]
  exact hk _ _ (h0 hl0 ρ _ w (hs.put (J5 hd) (.tup (vs:=[.bool false]) rfl fun i a v ha hv=>by
   rcases i with _ | i
   ·simp at ha hv;subst ha hv;exact .d (.raw rfl)
   ·simp at ha)))
 ·have he':e∈arr∧(!sn.contains e.born)=true:=by
   have:e∈arr.filter (fun e=>!sn.contains e.born):=by simpa [leftOf] using he
   rwa [Array.mem_filter] at this
  obtain ⟨j,hj,rfl⟩:=Array.getElem_of_mem he'.1;have hjm:j<m.length:=by omega
  have hBj:B[j]?=some arr[j].born:=by rw [hB];simp [hj]
  obtain ⟨g1,g2⟩:=p4 j arr[j] (eK m[j].1,eV m[j].2) (Array.getElem?_eq_getElem hj) (by simp [CB,hjm])
  have hns:arr[j].born∉seen:=by
   rw [←q4];have:=he'.2
   simpa using this
  have hperm:=R3 hBn (List.getElem?_eq_getElem hjm) hBj hns;obtain ⟨hp',hh,hA⟩:=h1 j _ m[j].1 m[j].2 (List.getElem?_eq_getElem hjm) hBj hBn hperm
  have hex:(execOp act.eval ⟨some d,.next x false,ty,pos,aft,none⟩).run P w= .ok (.value (.tuple #[.bool true,arr[j].key,arr[j].val])) (setBlock w1 r (.mapIter (some mb') c (sn.push arr[j].born) c)):=by
   simp [execOp,hxv,hrun,Result.andThen]
  unfold Oper.wp;rw [hex]
  have hs1:SR F ⟨n,env,hp⟩ ρ act w1:=by
   rcases hw1 with rfl | rfl
   ·exact hs
   ·exact hs.drew Z Z Z Z
  have q3':w1.heap[r]?=some (.mapIter (some mb') c sn c):=by rcases hw1 with rfl | rfl<;>exact q3
  have hr1:AX w1 (F.O ρ hp) (eK m[j].1) arr[j].key∧AX w1 (F.O ρ hp) (eV m[j].2) arr[j].val:=by
   rcases hw1 with rfl | rfl
   ·exact ⟨g1,g2⟩
   ·exact ⟨g1.mono (w:=w) (w':=w.drew) (Nat.le_refl _) (fun _ _ _=>rfl) (fun _ _ h=>h),g2.mono (w:=w) (w':=w.drew) (Nat.le_refl _) (fun _ _ _=>rfl) (fun _ _ h=>h)⟩
  have hw:=hs1.write gf 0 _ (.iter f i c (seen++ [arr[j].born])) (w':=setBlock w1 r (.mapIter (some mb') c (sn.push arr[j].born) c)) hi (BA hh) Z Z Z Zc0 (fun b' hb'=>Zdc fun e=>hb' (by rw [q1,e];rfl)) (fun _ _ e=>by cases e) fun hrep=>by
   exact ⟨r,mb',sn.push arr[j].born,q1,q2,ED q3',by simp [q4]⟩
  have hO:∀b,F.O ρ hp' b ->F.O ρ hp b:=fun b hh'=>by
   rcases hh' with hh' | ⟨f',i',o1,k1,k2⟩
   ·exact .inl hh'
   ·refine .inr ?_
    by_cases e:f'=gf∧i'=0
    ·obtain ⟨rfl,rfl⟩:=e;exact ⟨f',0,_,hi,k2⟩
    ·rw [BA hh,if_neg e] at k1;exact ⟨f',i',o1,k1,k2⟩
  have hbb:∀b,b<w1.heap.size ->¬F.O ρ hp b ->(setBlock w1 r (.mapIter (some mb') c (sn.push arr[j].born) c)).heap[b]?=w1.heap[b]?:=fun b _ hn=>Zdc fun e=>hn (.inr ⟨gf,0,_,hi,by rw [q1,e];rfl⟩);refine hk _ _ (hA ρ _ _ (hw.put (J5 hd) (.tup (vs:=[.bool true,arr[j].key,arr[j].val]) rfl fun i a v ha hv=>?_)));rcases i with _ | _ | _ | i
  ·simp at ha hv;subst ha hv;exact .d (.raw rfl)
  ·simp at ha hv;subst ha hv;exact .d (hr1.1.mono (Nat.le_of_eq Zc0.symm) hbb (fun b _=>hO b))
  ·simp at ha hv;subst ha hv;exact .d (hr1.2.mono (Nat.le_of_eq Zc0.symm) hbb (fun b _=>hO b))
  ·simp at ha
omit [DecidableEq α] in
theorem H1 (m:List (α×β)) (j b:Nat) {k:α} {v:β} {gf f i c:Nat} {B seen:List Nat} (hx:s.ev x=some (.ptr gf 0 0)) (hi:hget s.hp gf 0=some (.iter f i c (seen++ [b]))) (ho:hget s.hp f i=some (.map (some (B,c)) (CB eK eV m))) (hm:m[j]?=some (k,v)) (hb:B[j]?=some b) (hd:Nat.blt d s.n=true):
  AA P F ⟨some d,.entry x,ty,pos,aft,g⟩ s d (.tup [.d (eK k),.d (eV v)]):=
 CX _ hd fun ρ act w hs=>by
  obtain ⟨r,mb,sn,q1,q2,q3,q4⟩:=hs.heap.sim gf 0 _ hi;obtain ⟨mb',arr,c',p1,p2,p3,p4,p5,p6,p7⟩:=hs.heap.sim f i _ ho;obtain ⟨hB,hc⟩:=p7 _ _ rfl;subst hc;have:mb'=mb:=by rw [p1] at q2;injection q2 with q2;injection q2 with q2
  subst this
  have hxv:act.eval x= .pointer (some ⟨r,0,none⟩):=by
   have hr:=hs.ev hx
   generalize act.eval x=vx at hr
   cases hr with
   | ptr h=>rw [q1] at h;injection h with h;injection h with h;injection h with h;subst h;rfl
  have hjm:j<m.length:=(List.getElem?_eq_some_iff.1 hm).1;have hzm:arr.size=m.length:=by simpa [CB] using p3
  have hbe:arr[j].born=b:=by
   rw [hB] at hb;simpa [show j<arr.size by omega] using hb
  have hsn:sn=(⟨seen⟩:Array Nat).push arr[j].born:=by
   apply Array.ext'
   rw [q4,Array.toList_push,hbe]
  rw [hsn] at q3;have hrun:=run_entry_at (P:=P) w r mb' c ⟨seen⟩ arr c arr[j] q3 p2 (by simp) p5;obtain ⟨g1,g2⟩:=p4 j arr[j] (eK k,eV v) (Array.getElem?_eq_getElem (by omega)) (by simp [CB,hm]);refine ⟨.tuple #[arr[j].key,arr[j].val],by simp [execOp,hxv,hrun,Result.andThen],.tup (vs:=[arr[j].key,arr[j].val]) rfl fun i a v ha hv=>?_⟩;rcases i with _ | _ | i
  ·simp at ha hv;subst ha hv;exact .d g1
  ·simp at ha hv;subst ha hv;exact .d g2
  ·simp at ha
end
end Go.Proofs.YtnkkaeblokdifaaGreat
/- Keys of plain types. No program in sight. -/
namespace Go.Proofs.YtnkkaeblokdifaaGreat
open Go.RowKit
theorem Bs.int {P:Program} {K:TypeId} (hK:P.underlying K=some (.int .i64)):Bs P K (fun z:Int=> .raw (.int .i64 z)) (fun z=> .int .i64 z):=
 Bs.plain hK (fun _=>rfl) (fun _=>rfl) fun a b=>by simp [Instr.sameNow];rfl
def I4 (l:List UInt8):Value:= .string ⟨l.toArray⟩
theorem PK (a b:List UInt8):((⟨a.toArray⟩:ByteArray)==⟨b.toArray⟩)=decide (a=b):=by
 rw [beq_toListBytes,ByteArray.toList_eq,ByteArray.toList_eq]
 by_cases h:a=b
 ·subst h;simp
 ·simp [h]
theorem Bs.str {P:Program} {K:TypeId} (hK:P.underlying K=some .string):Bs P K As I4:=
 Bs.plain hK (fun _=>rfl) (fun _=>trivial) fun a b=>by simp only [Instr.sameNow,I4,PK]
def JL (rec:TypeId ->Option (List TypeDesc)):Nat ->List Field ->Option (List TypeDesc)
 | _,[]=>some []
 | off,f::fs=>match rec f.type with
  | none=>none
  | some ds=>match JL rec (off+ds.length) fs with
   | none=>none
   | some r=>match Nat.beq f.offset off && f.name != "_" with
    | true=>some (ds++r)
    | false=>none
def Du (P:Program):Nat ->TypeId ->Option (List TypeDesc)
 | 0,_=>none
 | m+1,T=>match P.underlying T with
  | some (.int k)=>some [.int k]
  | some .string=>some [.string]
  | some .bool=>some [.bool]
  | some (.struct fs)=>match JL (Du P m) 0 fs.toList with
   | none=>none
   | some ds=>match A5 P T ds.length && !P.stoodInHeld T with
    | true=>some ds
    | false=>none
  | _=>none
def BU (ds:List TypeDesc) (us:List Value):Prop:=us.length=ds.length∧∀(i:Nat) d u,ds[i]?=some d ->us[i]?=some u ->MapKept.IsKey d u
def Hf (P:Program) (T:TypeId):Bool:=match P.underlying T with
 | some (.struct _)=>true
 | _=>false
def Oh (P:Program) (T:TypeId) (us:List Value):Value:=match Hf P T with
 | true=> .agg us.toArray
 | false=>us.headD undef
def N7:Value ->Value ->Bool
 | .int _ a,.int _ b=>a==b
 | .string a,.string b=>a.toList==b.toList
 | .bool a,.bool b=>a==b
 | _,_=>false
def B6:List Value ->List Value ->Bool
 | [],[]=>true
 | a::r,b::s=>N7 a b && B6 r s
 | _,_=>false
theorem N6 {a a' b b':List Value} (h:a.length=b.length):B6 (a++a') (b++b')=(B6 a b && B6 a' b'):=by
 induction a generalizing b with
 | nil=>
  cases b with
  | nil=>simp [B6]
  | cons _ _=>simp at h
 | cons x r ih=>
  cases b with
  | nil=>simp at h
  | cons y s=>simp only [List.cons_append,B6,ih (show r.length=s.length by simpa using h),Bool.and_assoc]
theorem BU.split {ds ds':List TypeDesc} {us:List Value} (h:BU (ds++ds') us):BU ds (us.take ds.length)∧BU ds' (us.drop ds.length):=by
 obtain ⟨h1,h2⟩:=h;rw [List.length_append] at h1;refine ⟨⟨by simp;omega,fun i d u hd hu=>?_⟩,⟨by simp;omega,fun i d u hd hu=>?_⟩⟩
 ·have hi:i<ds.length:=(List.getElem?_eq_some_iff.1 hd).1;rw [List.getElem?_take_of_lt hi] at hu;exact h2 i d u (by rw [List.getElem?_append_left hi];exact hd) hu
 ·rw [List.getElem?_drop] at hu;refine h2 (ds.length+i) d u ?_ hu;rw [List.getElem?_append_right (by omega),show ds.length+i - ds.length=i by omega];exact hd
section
variable {P:Program}
theorem Gu {m:Nat} {T:TypeId} {ds:List TypeDesc} (h:Du P m T=some ds) (hs:Hf P T=false):∃d,ds=[d]∧P.underlying T=some d∧((∃k,d= .int k)∨d= .string∨d= .bool):=by
 cases m with
 | zero=>cases h
 | succ m=>
  unfold Du at h;unfold Hf at hs
  split at h
  ·rename_i k hk;injection h with h;subst h;exact ⟨_,rfl,hk,.inl ⟨k,rfl⟩⟩
  ·rename_i hk;injection h with h;subst h;exact ⟨_,rfl,hk,.inr (.inl rfl)⟩
  ·rename_i hk;injection h with h;subst h;exact ⟨_,rfl,hk,.inr (.inr rfl)⟩
  ·rename_i fs hk;rw [hk] at hs;cases hs
  ·cases h
theorem Gt {m:Nat} {T:TypeId} {ds:List TypeDesc} (h:Du P m T=some ds) (hs:Hf P T=true):∃m' fs,m=m'+1∧P.underlying T=some (.struct fs)∧JL (Du P m') 0 fs.toList=some ds∧A5 P T ds.length=true∧P.stoodInHeld T=false:=by
 cases m with
 | zero=>cases h
 | succ m=>
  unfold Du at h;unfold Hf at hs
  split at h
  ·rename_i k hk;rw [hk] at hs;cases hs
  ·rename_i hk;rw [hk] at hs;cases hs
  ·rename_i hk;rw [hk] at hs;cases hs
  ·rename_i fs hk
   split at h
   ·cases h
   ·rename_i ds' hds
    split at h
    ·rename_i hb
     injection h with h;subst h
     simp only [Bool.and_eq_true,Bool.not_eq_true'] at hb;exact ⟨m,fs,rfl,hk,hds,hb.1,hb.2⟩
    ·cases h
  ·cases h
theorem Fj {m:Nat} {T:TypeId} {ds:List TypeDesc} (h:Du P m T=some ds) (w:World) (us:List Value) (off:Nat) (hl:off+ds.length≤us.length):(part T us.toArray off).run P w= .ok (Oh P T ((us.drop off).take ds.length)) w:=by
 cases hs:Hf P T with
 | false=>
  obtain ⟨d,rfl,hd,hk⟩:=Gu h hs
  have ha:(isAgg T).run P w= .ok false w:=by
   rcases hk with ⟨k,rfl⟩ | rfl | rfl<;>simp [isAgg,run_underlying hd,Result.andThen]
  have hlt:off<us.length:=by simp at hl;omega
  simp only [part,Sem.run_bind,ha,Result.andThen_ok,Bool.false_eq_true,if_false,Oh,hs];rw [List.getElem?_toArray,List.getElem?_eq_getElem hlt];simp only [Sem.run_pure,List.length_cons,List.length_nil];rw [List.drop_eq_getElem_cons hlt];rfl
 | true=>
  obtain ⟨m',fs,rfl,hd,_,hz,_⟩:=Gt h hs;have ha:(isAgg T).run P w= .ok true w:=by simp [isAgg,run_underlying hd,Result.andThen]
  have hz':=Zc3 (P:=P) (ZE hz) w;simp only [part,Sem.run_bind,ha,Result.andThen_ok,if_true,hz',Sem.run_pure,Oh,hs]
  congr 2
  apply Array.ext'
  simp
theorem Gw:∀(m:Nat) (T:TypeId) (ds:List TypeDesc),Du P m T=some ds ->∀(d:Nat) (us vs:List Value),BU ds us ->BU ds vs ->∀w,(Op.equalIn (d+m) T (Oh P T us) (Oh P T vs)).run P w= .ok (B6 us vs) w
 | 0,_,_,h=>by cases h
 | m+1,T,ds,h=>fun d us vs hu hv w=>by
  cases hs:Hf P T with
  | false=>
   obtain ⟨d',rfl,hd,hk⟩:=Gu h hs;obtain ⟨u,rfl⟩:=List.length_eq_one_iff.1 hu.1;obtain ⟨v,rfl⟩:=List.length_eq_one_iff.1 hv.1;have k1:=hu.2 0 d' u Z Z;have k2:=hv.2 0 d' v Z Z;simp only [Oh,hs,List.headD_cons,B6,Bool.and_true];rcases hk with ⟨k,rfl⟩ | rfl | rfl
   ·cases u<;>cases v<;>simp only [MapKept.IsKey] at k1 k2
    subst k1 k2;exact run_equalIn_int w (d+m) T _ _ _ _ hd
   ·cases u<;>cases v<;>simp only [MapKept.IsKey] at k1 k2
    exact run_equalIn_string w (d+m) T _ _ hd
   ·cases u<;>cases v<;>simp only [MapKept.IsKey] at k1 k2
    exact run_equalIn_bool' w (d+m) T _ _ hd
  | true=>
   obtain ⟨m',fs,hm,hd,hfl,hz,hst⟩:=Gt h hs;injection hm with hm;subst hm
   have hf:P.fieldsOf T=fs:=by simp [Program.fieldsOf,hd]
   simp only [Oh,hs];rw [←Nat.add_assoc,run_equalIn_struct w (d+m) T _ _ (by rw [hf];exact hd) hst,hf]
   -- along the fields
   have key:∀(fs:List Field) (off:Nat) (ds:List TypeDesc) (us vs:List Value),JL (Du P m) off fs=some ds ->BU ds (us.drop off) ->BU ds (vs.drop off) ->off≤us.length ->off≤vs.length ->(Op.eqFields (d+m) us.toArray vs.toArray fs).run P w= .ok (B6 (us.drop off) (vs.drop off)) w:=by
    intro fs
    induction fs with
    | nil=>
     intro off ds us vs h hu hv _ _;simp only [JL,Option.some.injEq] at h;subst h;rw [List.eq_nil_of_length_eq_zero hu.1,List.eq_nil_of_length_eq_zero hv.1];rfl
    | cons f fs ih=>
     intro off ds us vs h hu hv hou hov;simp only [JL] at h
     split at h
     ·cases h
     ·rename_i d1 h1
      split at h
      ·cases h
      ·rename_i r hr
       split at h
       ·rename_i hb
        injection h with h;subst h
        simp only [Bool.and_eq_true] at hb;have hoff:=Nat.eq_of_beq_eq_true hb.1;have hname:f.name≠ "_" :=by simpa using hb.2
        have lu:=hu.1;have lv:=hv.1;rw [List.length_append,List.length_drop] at lu lv;have hl1:off+d1.length≤us.length:=by omega
        have hl2:off+d1.length≤vs.length:=by omega
        obtain ⟨u1,u2⟩:=hu.split;obtain ⟨v1,v2⟩:=hv.split;rw [List.drop_drop] at u2 v2;have e1:=Fj h1 w us off hl1;have e2:=Fj h1 w vs off hl2;have e3:=Gw m f.type d1 h1 d _ _ u1 v1 w;have e4:=ih (off+d1.length) r us vs hr u2 v2 hl1 hl2;simp only [Op.eqFields,hname,ne_eq,not_false_eq_true,if_true,hoff,Sem.run_bind,e1,e2,e3,Result.andThen_ok]
        have hsplit:B6 (us.drop off) (vs.drop off)=(B6 ((us.drop off).take d1.length) ((vs.drop off).take d1.length) && B6 (us.drop (off+d1.length)) (vs.drop (off+d1.length))):=by
         rw [←List.drop_drop,←List.drop_drop,←N6 (by simp;omega),List.take_append_drop,List.take_append_drop]
        rw [hsplit]
        cases hc:B6 ((us.drop off).take d1.length) ((vs.drop off).take d1.length) with
        | false=>simp
        | true=>simp only [Bool.not_true,Bool.false_eq_true,if_false,Bool.true_and];exact e4
       ·cases h
   have:=key fs.toList 0 ds us vs hfl (by simpa using hu) (by simpa using hv) (Nat.zero_le _) (Nat.zero_le _)
   simpa using this
theorem Ii (em:Bool):∀(m:Nat) (T:TypeId) (ds:List TypeDesc),Du P m T=some ds ->∀(d:Nat) (us:List Value),BU ds us ->∀w,(Instr.checkKey em (d+m) T (Oh P T us)).run P w= .ok () w
 | 0,_,_,h=>by cases h
 | m+1,T,ds,h=>fun d us hu w=>by
  cases hs:Hf P T with
  | false=>
   obtain ⟨d',rfl,hd,hk⟩:=Gu h hs;obtain ⟨u,rfl⟩:=List.length_eq_one_iff.1 hu.1;have k1:=hu.2 0 d' u Z Z;simp only [Oh,hs,List.headD_cons];exact MapKept.run_checkKey hd k1 em (d+m)
  | true=>
   obtain ⟨m',fs,hm,hd,hfl,hz,hst⟩:=Gt h hs;injection hm with hm;subst hm
   simp only [Oh,hs];rw [←Nat.add_assoc];simp only [Instr.checkKey,Sem.run_bind,run_underlying hd,Result.andThen_ok];rw [←Array.forIn_toList];have h0:BU ds (us.drop 0):=by simpa using hu
   have hou:0≤us.length:=Nat.zero_le _
   clear h hs hz hu hd hst
   generalize fs.toList=fl at hfl⊢
   generalize (0:Nat)=off at hfl h0 hou
   induction fl generalizing off ds with
   | nil=>rfl
   | cons f fl ih=>
    simp only [JL] at hfl
    split at hfl
    ·cases hfl
    ·rename_i d1 h1
     split at hfl
     ·cases hfl
     ·rename_i r hr
      split at hfl
      ·rename_i hb
       injection hfl with hfl;subst hfl
       simp only [Bool.and_eq_true] at hb;have hoff:=Nat.eq_of_beq_eq_true hb.1;have hname:f.name≠ "_" :=by simpa using hb.2
       have lu:=h0.1;rw [List.length_append,List.length_drop] at lu;have hl1:off+d1.length≤us.length:=by omega
       obtain ⟨u1,u2⟩:=h0.split;rw [List.drop_drop] at u2;have e1:=Fj h1 w us off hl1;have e3:=Ii em m f.type d1 h1 d _ u1 w;have e4:=ih r (off+d1.length) hr u2 hl1;rw [List.forIn_cons];simp only [hname,ne_eq,not_false_eq_true,if_true,hoff,Sem.run_bind,e1,e3,Result.andThen_ok,Sem.run_pure] at e4⊢;exact e4
      ·cases hfl
theorem H3 {d:TypeDesc} {u:Value} (h:MapKept.IsKey d u) (n:Nat):Instr.sameBits n u u=true:=by
 cases d<;>cases u<;>simp only [MapKept.IsKey] at h<;>cases n<;>simp [Instr.sameBits]<;>exact (beq_toListBytes _ _).trans (by simp)
theorem S9 {m:Nat} {T:TypeId} {ds:List TypeDesc} (h:Du P m T=some ds) {us:List Value} (hu:BU ds us) (w:World):(Instr.keyThatStays (Oh P T us) (Oh P T us)).run P w= .ok (Oh P T us) w:=by
 have:Instr.sameBits 10000 (Oh P T us) (Oh P T us)=true:=by
  cases hs:Hf P T with
  | false=>
   obtain ⟨d',rfl,hd,hk⟩:=Gu h hs;obtain ⟨u,rfl⟩:=List.length_eq_one_iff.1 hu.1;simp only [Oh,hs,List.headD_cons];exact H3 (hu.2 0 d' u Z Z) _
  | true=>
   simp only [Oh,hs];show Instr.sameBits (9999+1) _ _=true;simp only [Instr.sameBits,beq_self_eq_true,Bool.true_and,List.all_eq_true];intro p hp;obtain ⟨i,hi,e⟩:=List.getElem_of_mem hp;rw [List.getElem_zip] at e;rw [←e]
   simp only
   have hi':i<us.length:=by simpa using hi
   have hd:i<ds.length:=by rw [←hu.1];exact hi'
   exact H3 (hu.2 i ds[i] us[i] (List.getElem?_eq_getElem hd) (List.getElem?_eq_getElem hi')) _
 simp [Instr.keyThatStays,this]
theorem Bs.flat {α:Type} [DecidableEq α] {K:TypeId} {eK:α ->D} {cl:α ->List Value} {ds:List TypeDesc} (hf:Du P 8 K=some ds) (hs:Hf P K=true) (hv:∀a,(eK a).val?=some (.agg (cl a).toArray)) (hp:∀a,BU ds (cl a)) (he:∀a b,B6 (cl a) (cl b)=decide (a=b)):Bs P K eK fun a=> .agg (cl a).toArray:=by
 have hm:∀a,Oh P K (cl a)= .agg (cl a).toArray:=fun a=>by simp only [Oh,hs]
 obtain ⟨m',fs,_,hd,_⟩:=Gt hf hs;refine Bs.asking hd hv (fun w em a=>?_) (fun w a b=>?_) (fun a b=>by simp [Instr.sameNow]) (fun w a=>?_)
 ·have:=Ii em 8 K ds hf 9992 (cl a) (hp a) w
  rwa [hm] at this
 ·have:=Gw 8 K ds hf 9992 (cl a) (cl b) (hp a) (hp b) w;rw [hm,hm,he] at this;exact this
 ·have:=S9 hf (hp a) w
  rwa [hm] at this
end
theorem IS:∀a b:List UInt8,Op.bytesLess b a=(!Op.bytesLess a b && !a==b)
 | [],[]=>rfl
 | [],_::_=>rfl
 | _::_,[]=>rfl
 | x::a,y::b=>by
  have ih:=IS a b;rcases Nat.lt_trichotomy x.toNat y.toNat with h | h | h
  ·have h1:x<y:=UInt8.lt_iff_toNat_lt.2 h;have h2:¬y<x:=fun h'=>by have:=UInt8.lt_iff_toNat_lt.1 h';omega
   have h3:y≠x:=fun e=>by subst e;omega
   simp [Op.bytesLess,h1,h2,h3]
  ·have h1:x=y:=UInt8.toNat_inj.1 h;subst h1;have h2:¬x<x:=fun h'=>by have:=UInt8.lt_iff_toNat_lt.1 h';omega
   simp [Op.bytesLess,h2,ih]
  ·have h1:y<x:=UInt8.lt_iff_toNat_lt.2 h;have h2:¬x<y:=fun h'=>by have:=UInt8.lt_iff_toNat_lt.1 h';omega
   have h3:x≠y:=fun e=>by subst e;omega
   simp [Op.bytesLess,h1,h2,h3]
section
variable {P:Program} {F:Fr} {s:AS} {d:Nat} {ty T T':TypeId} {pos:String} {aft:Array Edge} {g:Option (Nat×Bool)} {x y:Operand}
theorem Co {a b:ByteArray} (hx:s.ev x=some (.d (.raw (.string a)))) (hy:s.ev y=some (.d (.raw (.string b)))) (hd:Nat.blt d s.n=true):AA P F ⟨some d,.binOp .gtr T x y T',ty,pos,aft,g⟩ s d (.d (.raw (.bool (Op.bytesLess b.toList a.toList)))):=
 CX _ hd fun _ act _ hs=>⟨.bool (Op.bytesLess b.toList a.toList),by simp [execOp,eqGuard,binOp,Op.stringOp,hs.raw hx,hs.raw hy,IS a.toList b.toList],.d (.raw rfl)⟩
theorem M8 {a b:D} {la lb:List Value} {ds:List TypeDesc} {t:Bool} (hf:Du P 8 T=some ds) (hs:Hf P T=true) (hg:P.eqGuardType P.depth T=false) (hx:s.ev x=some (.d a)) (hy:s.ev y=some (.d b)) (ha:a.val?=some (.agg la.toArray)) (hb:b.val?=some (.agg lb.toArray)) (p1:BU ds la) (p2:BU ds lb) (ht:B6 la lb=t) (hd:Nat.blt d s.n=true):
  AA P F ⟨some d,.binOp .eql T x y T',ty,pos,aft,g⟩ s d (.d (.raw (.bool t))):=
 CX _ hd fun ρ act w hs'=>by
  have e1:=(hs'.repD hx).val ha;have e2:=(hs'.repD hy).val hb;have:=Gw 8 T ds hf 9992 la lb p1 p2 w;simp only [Oh,hs,ht] at this;exact ⟨.bool t,by simp [execOp,e1,e2,run_eqGuard_agg w .eql T x y _ _ hg,run_eql_struct,this,Result.andThen],.d (.raw rfl)⟩
end
end Go.Proofs.YtnkkaeblokdifaaGreat
