/- Maps: keys read off without memory, finding a key, the typed lists behind a map. No program in sight. -/
import Derived.Test.YtnkkaeblokdifaaGreatMg9
import Derived.Maps.RangeRun
import Derived.Laws.StructEq
import Derived.WideLaws
namespace Go.Proofs.YtnkkaeblokdifaaGreat
open Go.RowKit
def Qe:List D ->Option (List Value)
 | []=>some []
 | d::r=>match Qe r with
  | none=>none
  | some l=>match d with
   | .raw v=>some (v::l)
   | _=>none
def D.val?:D ->Option Value
 | .raw v=>some v
 | .agg cs=>match Qe cs with
  | none=>none
  | some l=>some (.agg l.toArray)
 | _=>none
theorem MX {w:World} {O:Nat ->Prop}:∀{cs:List D} {l vs:List Value},Qe cs=some l ->vs.length=cs.length ->(∀(i:Nat) c v,cs[i]?=some c ->vs[i]?=some v ->A1 w O c v) ->vs=l
 | [],l,vs,h,hl,_=>by
  simp only [Qe,Option.some.injEq] at h;subst h;exact List.eq_nil_of_length_eq_zero hl
 | d::r,l,vs,h,hl,hr=>by
  simp only [Qe] at h
  split at h
  ·cases h
  ·rename_i l' hl'
   split at h
   ·rename_i v
    injection h with h;subst h
    match vs,hl with
    | u::us,hl=>
     have h0:=hr 0 _ u Z Z
     cases h0 with
     | raw _=>rw [MX (w:=w) (O:=O) (vs:=us) hl' (by simpa using hl) fun i c v hc hv=>hr (i+1) c v (by simpa using hc) (by simpa using hv)]
   ·cases h
theorem A1.val {w:World} {O:Nat ->Prop} {d:D} {v v':Value} (h:A1 w O d v) (hv:d.val?=some v'):v=v':=by
 cases d with
 | raw u=>simp only [D.val?,Option.some.injEq] at hv;subst hv;cases h;rfl
 | agg cs=>
  simp only [D.val?] at hv
  split at hv
  ·cases hv
  ·rename_i l hl
   injection hv with hv;subst hv
   cases h with
   | agg h1 _ h3=>rw [MX hl h1 h3]
 | _=>cases hv
section
variable {α:Type} [DecidableEq α]
def I2 (a:α):List α ->List MapEntry ->Nat ->Option (Nat×Value)
 | b::r,e::es,i=>if a=b then some (i,e.val) else I2 a r es (i+1)
 | _,_,_=>none
theorem Ob {a:α}:∀{l:List α} {es:List MapEntry} {i:Nat},es.length=l.length ->I2 a l es i=none ->a∉l
 | [],_,_,_,_=>by simp
 | b::r,[],_,h,_=>by simp at h
 | b::r,e::es,i,h,hh=>by
  simp only [I2] at hh
  split at hh
  ·cases hh
  ·rename_i hne
   simp only [List.mem_cons,not_or];exact ⟨hne,Ob (by simpa using h) hh⟩
theorem Oa {a:α}:∀{l:List α} {es:List MapEntry} {i j:Nat} {v:Value},I2 a l es i=some (j,v) ->i≤j∧l[j - i]?=some a∧(∃e,es[j - i]?=some e∧e.val=v)∧∀k,k<j - i ->l[k]?≠some a
 | [],[],_,_,_,h=>by simp [I2] at h
 | [],_::_,_,_,_,h=>by simp [I2] at h
 | b::r,[],i,_,_,h=>by simp [I2] at h
 | b::r,e::es,i,j,v,h=>by
  simp only [I2] at h
  split at h
  ·rename_i heq
   injection h with h;injection h with h1 h2;subst h1 h2 heq
   refine ⟨Nat.le_refl _,by simp,⟨e,by simp,rfl⟩,fun k hk=>by omega⟩
  ·rename_i hne
   obtain ⟨h1,h2,⟨e',h3,h4⟩,h5⟩:=Oa h;have he:j - i=(j - (i+1))+1:=by omega
   refine ⟨by omega,by rw [he];simpa using h2,⟨e',by rw [he];simpa using h3,h4⟩,fun k hk=>?_⟩
   cases k with
   | zero=>simp;exact fun e=>hne e.symm
   | succ k=>simpa using h5 k (by omega)
structure Bo (P:Program) (K:TypeId) (eK:α ->D) (kv:α ->Value):Prop where
 val:∀a,(eK a).val?=some (kv a)
 check:∀w em a,(Instr.checkKey em 10000 K (kv a)).run P w= .ok () w
 find:∀w a (es:List MapEntry) (l:List α),es.map (·.key)=l.map kv ->(Instr.findKey K (kv a) es).run P w= .ok (I2 a l es 0) w
 stays:∀w a,(Instr.keyThatStays (kv a) (kv a)).run P w= .ok (kv a) w
theorem L1 {d:TypeDesc} {kv:α ->Value} (hs:∀a b,Instr.sameNow d (kv a) (kv b)=some (decide (a=b))) (a:α):∀(l:List α) (es:List MapEntry) (i:Nat),es.map (·.key)=l.map kv ->Instr.findNow d (kv a) es i=some (I2 a l es i)
 | [],[],i,_=>rfl
 | [],_::_,_,h=>by simp at h
 | _::_,[],_,h=>by simp at h
 | b::r,e::es,i,h=>by
  simp only [List.map_cons,List.cons.injEq] at h;simp only [Instr.findNow,h.1,hs,I2]
  by_cases hab:a=b
  ·simp [hab]
  ·simp only [hab,decide_false,if_false];exact L1 hs a r es (i+1) h.2
theorem Ha {P:Program} {K:TypeId} {kv:α ->Value} (hs:∀w a b,(Op.equal K (kv a) (kv b)).run P w= .ok (decide (a=b)) w) (w:World) (a:α):∀(l:List α) (es:List MapEntry) (i:Nat),es.map (·.key)=l.map kv ->(Instr.findAsking K (kv a) es i).run P w= .ok (I2 a l es i) w
 | [],[],i,_=>rfl
 | [],_::_,_,h=>by simp at h
 | _::_,[],_,h=>by simp at h
 | b::r,e::es,i,h=>by
  simp only [List.map_cons,List.cons.injEq] at h;simp only [Instr.findAsking,Sem.run_bind,h.1,hs,Result.andThen_ok,I2]
  by_cases hab:a=b
  ·simp [hab]
  ·simp only [hab,decide_false,Bool.false_eq_true,if_false];exact Ha hs w a r es (i+1) h.2
theorem Bo.plain {P:Program} {K:TypeId} {eK:α ->D} {kv:α ->Value} {d:TypeDesc} (hd:P.underlying K=some d) (hv:∀a,(eK a).val?=some (kv a)) (hk:∀a,MapKept.IsKey d (kv a)) (hs:∀a b,Instr.sameNow d (kv a) (kv b)=some (decide (a=b))):Bo P K eK kv where
 val:=hv
 check _ em a:=MapKept.run_checkKey hd (hk a) em 9999
 find _ a es l h:=MapKept.run_findKey hd (L1 hs a l es 0 h)
 stays _ a:=MapKept.run_keyThatStays (hk a)
theorem Bo.asking {P:Program} {K:TypeId} {eK:α ->D} {kv:α ->Value} {d:TypeDesc} (hd:P.underlying K=some d) (hv:∀a,(eK a).val?=some (kv a)) (hc:∀w em a,(Instr.checkKey em 10000 K (kv a)).run P w= .ok () w) (hs:∀w a b,(Op.equal K (kv a) (kv b)).run P w= .ok (decide (a=b)) w) (hn:∀a b,Instr.sameNow d (kv a) (kv b)=none) (ht:∀w a,(Instr.keyThatStays (kv a) (kv a)).run P w= .ok (kv a) w):Bo P K eK kv where
 val:=hv
 check:=hc
 find w a es l h:=by
  simp only [Instr.findKey,Sem.run_bind,run_underlying hd,Result.andThen_ok]
  cases es with
  | nil=>
   cases l with
   | nil=>rfl
   | cons _ _=>simp at h
  | cons e es=>
   cases l with
   | nil=>simp at h
   | cons b r=>
    have h':=h;simp only [List.map_cons,List.cons.injEq] at h;simp only [Instr.findNow,h.1,hn];exact Ha hs w a _ _ 0 h'
 stays:=ht
variable {β:Type}
def Ai:List (α×β) ->α ->β ->β
 | [],_,z=>z
 | (k,b)::r,a,z=>if a=k then b else Ai r a z
def P7:List (α×β) ->α ->Bool
 | [],_=>false
 | (k,_)::r,a=>decide (a=k) || P7 r a
def BM:List (α×β) ->α ->β ->List (α×β)
 | [],a,b=> [(a,b)]
 | (k,b')::r,a,b=>if a=k then (k,b)::r else (k,b')::BM r a b
def mix:List (α×β) ->α ->Nat
 | [],_=>0
 | (k,_)::r,a=>if a=k then 0 else mix r a+1
def Bb (m:List (α×β)) (a:α) (z:β):List (α×β):=BM m a (Ai m a z)
theorem Mm (m:List (α×β)) (a a':α) (b z:β):Ai (BM m a b) a' z=if a'=a then b else Ai m a' z:=by
 induction m with
 | nil=>simp [BM,Ai]
 | cons p r ih=>
  obtain ⟨k,b'⟩:=p;simp only [BM]
  by_cases h:a=k
  ·subst h
   by_cases h2:a'=a<;>simp [Ai,h2]
  ·simp only [h,if_false,Ai,ih]
   by_cases h2:a'=k
   ·subst h2;simp [Ne.symm h]
   ·simp [h2]
theorem Ey (m:List (α×β)) (a a':α) (z:β):Ai (Bb m a z) a' z=Ai m a' z:=by
 rw [Bb,Mm]
 split
 ·rename_i h;rw [h]
 ·rfl
theorem Sx (m:List (α×β)) (a:α) (b z:β):BM (Bb m a z) a b=BM m a b:=by
 unfold Bb
 generalize Ai m a z=c
 induction m with
 | nil=>simp [BM]
 | cons p r ih=>
  obtain ⟨k,b'⟩:=p
  by_cases h:a=k
  ·subst h;simp [BM]
  ·simp [BM,h,ih]
theorem Ki (m:List (α×β)) (a:α) (z:β):mix (Bb m a z) a=mix m a:=by
 unfold Bb
 generalize Ai m a z=c
 induction m with
 | nil=>simp [BM,mix]
 | cons p r ih=>
  obtain ⟨k,b'⟩:=p
  by_cases h:a=k
  ·subst h;simp [BM,mix]
  ·simp [BM,mix,h,ih]
theorem P6 {m:List (α×β)} {a:α} {b:β}:(BM m a b)[mix m a]?=some (a,b)∧∀j,j≠mix m a ->(BM m a b)[j]?=m[j]?:=by
 induction m with
 | nil=>
  refine ⟨by simp [BM,mix],fun j hj=>?_⟩
  cases j with
  | zero=>simp [mix] at hj
  | succ j=>simp [BM]
 | cons p r ih=>
  obtain ⟨k,b'⟩:=p
  by_cases h:a=k
  ·subst h;refine ⟨by simp [BM,mix],fun j hj=>?_⟩
   cases j with
   | zero=>simp [mix] at hj
   | succ j=>simp [BM]
  ·refine ⟨by simp [BM,mix,h,ih.1],fun j hj=>?_⟩
   cases j with
   | zero=>simp [BM,h]
   | succ j=>simpa [BM,h] using ih.2 j (by simpa [mix,h] using hj)
theorem KA {m:List (α×β)} {a:α} {b:β}:(BM m a b).length=max m.length (mix m a+1)∧mix m a≤m.length:=by
 induction m with
 | nil=>simp [BM,mix]
 | cons p r ih=>
  obtain ⟨k,b'⟩:=p
  by_cases h:a=k
  ·subst h;simp [BM,mix]
  ·simp only [BM,mix,h,if_false,List.length_cons];omega
theorem Ml {m:List (α×β)} {a:α}:P7 m a=true↔a∈m.map Prod.fst:=by
 induction m with
 | nil=>simp [P7]
 | cons p r ih=>obtain ⟨k,b⟩:=p;simp [P7,ih]
theorem Kh {m:List (α×β)} {a:α} {b:β}:(BM m a b).map Prod.fst=if a∈m.map Prod.fst then m.map Prod.fst else m.map Prod.fst++ [a]:=by
 induction m with
 | nil=>simp [BM]
 | cons p r ih=>
  obtain ⟨k,b'⟩:=p
  by_cases h:a=k
  ·subst h;simp [BM]
  ·simp only [BM,h,if_false,List.map_cons,List.mem_cons,false_or,ih]
   split<;>simp
theorem Mk {m:List (α×β)} {a:α} {b:β} (h:(m.map Prod.fst).Nodup):((BM m a b).map Prod.fst).Nodup:=by
 rw [Kh]
 split
 ·exact h
 ·rename_i hn
  rw [List.nodup_append];exact ⟨h,by simp,fun x hx y hy=>by simp at hy;subst hy;rintro rfl;exact hn hx⟩
theorem ZcV {m:List (α×β)} {a:α} {b z:β} (hn:(m.map Prod.fst).Nodup) (h:(a,b)∈m):Ai m a z=b:=by
 induction m with
 | nil=>cases h
 | cons p r ih=>
  obtain ⟨k,b'⟩:=p;simp only [List.map_cons,List.nodup_cons] at hn;simp only [Ai];rcases List.mem_cons.1 h with h' | h'
  ·injection h' with h1 h2;subst h1 h2;simp
  ·have hne:a≠k:=fun e=>by subst e;exact hn.1 (List.mem_map_of_mem (f:=Prod.fst) h')
   rw [if_neg hne];exact ih hn.2 h'
theorem V9 {m:List (α×β)} {a:α} {z:β} (h:a∉m.map Prod.fst):Ai m a z=z:=by
 induction m with
 | nil=>rfl
 | cons p r ih=>
  obtain ⟨k,b'⟩:=p;simp only [List.map_cons,List.mem_cons,not_or] at h;simp only [Ai,h.1,if_false];exact ih h.2
theorem RE {m:List (α×β)} {a:α} {z:β} (h:a∈m.map Prod.fst):(a,Ai m a z)∈m:=by
 induction m with
 | nil=>simp at h
 | cons p r ih=>
  obtain ⟨k,b'⟩:=p
  by_cases e:a=k
  ·subst e;simp [Ai]
  ·simp only [List.map_cons,List.mem_cons,e,false_or] at h;simp only [Ai,e,if_false];exact List.mem_cons_of_mem _ (ih h)
def EP (m:List (α×β)) (B seen:List Nat):List (α×β):=((m.zip B).filter fun p=>!(seen.contains p.2)).map Prod.fst
omit [DecidableEq α] in
theorem IK {m:List (α×β)} {B:List Nat} (h:B.length=m.length):EP m B []=m:=by
 unfold EP;rw [List.filter_eq_self.2 (by simp)];exact List.map_fst_zip (by omega)
omit [DecidableEq α] in
theorem RK:∀{m:List (α×β)} {B seen:List Nat} {j b:Nat} {x:α×β},B.Nodup ->m[j]?=some x ->B[j]?=some b ->b∉seen ->(EP m B seen).Perm (x::EP m B (seen++ [b]))
 | [],_,_,_,_,_,_,h,_,_=>by simp at h
 | y::m,[],_,_,_,_,_,_,h,_=>by simp at h
 | y::m,c::B,seen,j,b,x,hn,hx,hb,hs=>by
  simp only [List.nodup_cons] at hn
  cases j with
  | zero=>
   simp at hx hb;subst hx hb
   have e:∀(m:List (α×β)) (B:List Nat),c∉B ->EP m B (seen++ [c])=EP m B seen:=fun m B h=>by
    unfold EP
    congr 1
    refine List.filter_congr fun p hp=>?_;have:p.2≠c:=fun e=>h (by rw [←e];exact (List.of_mem_zip hp).2)
    simp [this]
   have h1:EP (y::m) (c::B) seen=y::EP m B seen:=by simp [EP,hs]
   have h2:EP (y::m) (c::B) (seen++ [c])=EP m B (seen++ [c]):=by simp [EP]
   rw [h1,h2,e m B hn.1]
  | succ j=>
   have ih:=RK (seen:=seen) hn.2 (by simpa using hx) (by simpa using hb) hs;have hbB:b∈B:=List.mem_of_getElem? (by simpa using hb);have hcb:c≠b:=fun e=>hn.1 (by rw [e];exact hbB)
   by_cases hcs:c∈seen
   ·have h1:EP (y::m) (c::B) seen=EP m B seen:=by simp [EP,hcs]
    have h2:EP (y::m) (c::B) (seen++ [b])=EP m B (seen++ [b]):=by simp [EP,hcs]
    rw [h1,h2];exact ih
   ·have h1:EP (y::m) (c::B) seen=y::EP m B seen:=by simp [EP,hcs]
    have h2:EP (y::m) (c::B) (seen++ [b])=y::EP m B (seen++ [b]):=by simp [EP,hcs,hcb]
    rw [h1,h2];exact (List.Perm.cons _ ih).trans (List.Perm.swap _ _ _)
end
def WY:Value ->Option AV
 | .agg cs=>match Gm cs.toList with
  | none=>none
  | some l=>Iw l
 | v=>Hj v
def Em (P:Program) (T:TypeId):Option AV:=match P.info? T with
 | none=>none
 | some i=>match i.zero with
  | none=>none
  | some z=>WY z
theorem SQ {v:Value} {a:AV} (h:WY v=some a) (w:World) (O:Nat ->Prop) (ρ:Nat ->Nat ->Value):A3 w O ρ a v:=by
 unfold WY at h
 split at h
 ·rename_i cs
  split at h
  ·cases h
  ·rename_i l hl
   obtain ⟨h1,h2⟩:=E1 hl w O ρ;have:=F1 (w:=w) (O:=O) (ρ:=ρ) h h1 h2
   simpa using this
 ·exact (K9 h).1
theorem FP {P:Program} {T:TypeId} {a:AV} (h:Em P T=some a) (w:World):∃z,(zeroValue T).run P w= .ok z w∧∀(w':World) O ρ,A3 w' O ρ a z:=by
 unfold Em at h
 split at h
 ·cases h
 ·rename_i i hi
  split at h
  ·cases h
  ·rename_i z hz
   exact ⟨z,by simp [zeroValue,typeInfo,hi,hz],fun w' O ρ=>SQ h w' O ρ⟩
def CY (P:Program) (T K E:TypeId):Bool:=match P.underlying T with
 | some (.map k e)=>Nat.beq k K && Nat.beq e E
 | _=>false
theorem Yr {P:Program} {T K E:TypeId} (h:CY P T K E=true):P.underlying T=some (.map K E):=by
 unfold CY at h
 split at h
 ·rename_i k e hk
  simp only [Bool.and_eq_true] at h;rw [hk,Nat.eq_of_beq_eq_true h.1,Nat.eq_of_beq_eq_true h.2]
 ·cases h
section
variable {α β:Type} [DecidableEq α]
def Bw (eK:α ->D) (eV:β ->D) (m:List (α×β)):List (D×D):=m.map fun x=>(eK x.1,eV x.2)
def CL (eK:α ->D) (eV:β ->D) (m:List (α×β)):AQ:= .map (some (List.range m.length,m.length)) (Bw eK eV m)
def mapH (eK:α ->D) (eV:β ->D) (m:List (α×β)):AQ:= .map none (Bw eK eV m)
variable {P:Program} {F:Fr} {s:AS} {K:TypeId} {eK:α ->D} {kv:α ->Value} {eV:β ->D}
theorem Zde (KT:Bo P K eK kv) {w:World} {O:Nat ->Prop} {m:List (α×β)} {arr:Array MapEntry} (hz:arr.size=(Bw eK eV m).length)
  (h:∀(i:Nat) e x,arr[i]?=some e ->(Bw eK eV m)[i]?=some x ->A1 w O x.1 e.key∧A1 w O x.2 e.val):arr.toList.map (·.key)=(m.map Prod.fst).map kv:=by
 simp only [Bw,List.length_map] at hz;refine List.ext_getElem? fun i=>?_;simp only [List.getElem?_map,Array.getElem?_toList]
 cases ha:arr[i]? with
 | none=>
  have:arr.size≤i:=Array.getElem?_eq_none_iff.1 ha;rw [List.getElem?_eq_none (by omega)];rfl
 | some e=>
  have hlt:i<m.length:=by have:=(Array.getElem?_eq_some_iff.1 ha).1;omega
  rw [List.getElem?_eq_getElem hlt];have h1:=(h i e (eK m[i].1,eV m[i].2) ha (by simp [Bw,hlt])).1;simp only [Option.map_some,Option.some.injEq];exact h1.val (KT.val _)
theorem hit_get (KT:Bo P K eK kv) {w:World} {O:Nat ->Prop} {m:List (α×β)} {arr:Array MapEntry} (hz:arr.size=(Bw eK eV m).length)
  (h:∀(i:Nat) e x,arr[i]?=some e ->(Bw eK eV m)[i]?=some x ->A1 w O x.1 e.key∧A1 w O x.2 e.val) (a:α) (z:β):
  (I2 a (m.map Prod.fst) arr.toList 0=none∧P7 m a=false∧Ai m a z=z∧mix m a=m.length)∨∃i e,I2 a (m.map Prod.fst) arr.toList 0=some (i,e.val)∧arr[i]?=some e∧e.key=kv a∧P7 m a=true∧mix m a=i∧i<m.length∧A1 w O (eV (Ai m a z)) e.val:=by
 have hlen:arr.toList.length=(m.map Prod.fst).length:=by simpa [Bw] using hz
 cases hh:I2 a (m.map Prod.fst) arr.toList 0 with
 | none=>
  have hn:=Ob hlen hh;refine .inl ⟨rfl,?_,V9 hn,?_⟩
  ·cases hm:P7 m a with
   | false=>rfl
   | true=>exact absurd (Ml.1 hm) hn
  ·clear hh hlen hz h
   induction m with
   | nil=>rfl
   | cons p r ih=>
    obtain ⟨k,b⟩:=p;simp only [List.map_cons,List.mem_cons,not_or] at hn
    simp [mix,hn.1,ih hn.2]
 | some q=>
  obtain ⟨i,v⟩:=q;obtain ⟨_,h2,⟨e,h3,h4⟩,h5⟩:=Oa hh;simp only [Nat.sub_zero,Array.getElem?_toList] at h2 h3 h5;rw [List.getElem?_map] at h2
  have hi:i<m.length:=by
   cases hm:m[i]? with
   | none=>rw [hm] at h2;cases h2
   | some x=>exact (List.getElem?_eq_some_iff.1 hm).1
  have hx:(m[i]).1=a:=by rw [List.getElem?_eq_getElem hi] at h2;simpa using h2
  have hkey:mix m a=i∧Ai m a z=(m[i]).2:=by
   clear hh hlen hz h h3 h4
   induction m generalizing i with
   | nil=>simp at hi
   | cons p r ih=>
    obtain ⟨k,b⟩:=p
    cases i with
    | zero=>simp at hx;subst hx;simp [mix,Ai]
    | succ i=>
     have hne:a≠k:=fun e=>h5 0 (by omega) (by simp [e]);have h5':∀k',k'<i ->(r.map Prod.fst)[k']?≠some a:=fun k' hk'=>by simpa using h5 (k'+1) (by omega)
     have:=ih i (Nat.zero_le _) (by rw [List.getElem?_cons_succ] at h2;exact h2) h5' (by simpa using hi) (by simpa using hx)
     simp [mix,Ai,hne,this]
  obtain ⟨g1,g2⟩:=h i e (eK m[i].1,eV m[i].2) h3 (by simp [Bw,hi]);refine .inr ⟨i,e,by rw [←h4],h3,?_,Ml.2 (by rw [←hx];exact List.mem_map_of_mem (List.getElem_mem hi)),hkey.1,hi,by rw [hkey.2];exact g2⟩;have:=g1.val (KT.val _);rw [this,hx]
variable {d:Nat} {ty T E:TypeId} {pos:String} {aft:Array Edge} {g:Option (Nat×Bool)} {x y z:Operand} {bs:Option (List Nat×Nat)}
theorem SR.mapAt {ρ:Nat ->Nat ->Value} {act:Act} {w:World} (hs:SR F s ρ act w) {f i:Nat} {es:List (D×D)} (hx:s.ev x=some (.map f i)) (ho:hget s.hp f i=some (.map bs es)):
  ∃(mb:Nat) (arr:Array MapEntry) (c:Nat),act.eval x= .map (some mb)∧ρ f i= .map (some mb)∧w.heap[mb]?=some (.map arr c)∧arr.size=es.length∧(∀(i:Nat) e x,arr[i]?=some e ->es[i]?=some x ->A1 w (F.O ρ s.hp) x.1 e.key∧A1 w (F.O ρ s.hp) x.2 e.val)∧
   (arr.toList.map (·.born)).Nodup∧(∀e∈arr.toList,e.born<c)∧∀B c',bs=some (B,c') ->B=arr.toList.map (·.born)∧c'=c:=by
 have hrx:=hs.ev hx;obtain ⟨mb,arr,c,h1,h2⟩:=hs.heap.sim f i _ ho
 generalize act.eval x=vx at hrx
 cases hrx with
 | @map _ _ m' h=>rw [h1] at h;injection h with h;injection h with h;subst h;exact ⟨mb,arr,c,rfl,h1,h2⟩
theorem LC (m:List (α×β)) (a:α) (b0 v:β) {f i:Nat} (hx:s.ev x=some (.map f i)) (ho:hget s.hp f i=some (.map bs (Bw eK eV m))) (hy:s.ev y=some (.d (eK a))) (hT:CY P T K E=true) (KT:Bo P K eK kv) (hz:Em P E=some (.d (eV b0))) (hv:Ai m a b0=v) (hd:Nat.blt d s.n=true):
  AA P F ⟨some d,.lookup T x y false,ty,pos,aft,g⟩ s d (.d (eV v)):=
 C1 _ hd fun ρ act w hs=>by
  obtain ⟨mb,arr,c,e1,_,h1,h2,h3,_⟩:=hs.mapAt hx ho;have hk:act.eval y=kv a:=(hs.repD hy).val (KT.val a);obtain ⟨zv,hz1,hz2⟩:=FP hz w;subst hv;rcases hit_get KT h2 h3 a b0 with ⟨g1,_,g3,_⟩ | ⟨j,e,g1,g2,_,_,_,_,g7⟩
  ·refine ⟨zv,?_,by rw [g3];exact hz2 _ _ _⟩
   simp [execOp,Instr.lookup,run_underlying (Yr hT),e1,hk,MapKept.run_getObj_map h1,KT.check,KT.find w a _ _ (Zde KT h2 h3),g1,hz1,Result.andThen]
  ·refine ⟨e.val,?_,.d g7⟩
   simp [execOp,Instr.lookup,run_underlying (Yr hT),e1,hk,MapKept.run_getObj_map h1,KT.check,KT.find w a _ _ (Zde KT h2 h3),g1,Result.andThen]
theorem Ys (f:Nat) {env':List (Nat×AV)} {hp1 hp':List (Nat×List AQ)} (hE:Ad f s.env=some env') (hH:A7 f s.hp=some hp1) (hn:Ct hp1 f (.map (some ([],0)) [])=some hp') (hd:Nat.blt d s.n=true):
  AR P F ⟨some d,.makeMap T none,ty,pos,aft,g⟩ s ⟨s.n,(d,.map f 0)::env',hp'⟩ (Bj f):=fun ρ act w hs=>by
 have hrun:(execOp act.eval ⟨some d,.makeMap T none,ty,pos,aft,g⟩).run P w= .ok (.value (.map (some w.heap.size))) (w.alloc (.map #[] 0)):=by
  simp [execOp,run_makeMap,Result.andThen]
 unfold Oper.wp;rw [hrun];have hsr:=hs.new f (.map (some ([],0)) []) (.map (some w.heap.size)) (.map #[] 0) hE hH hn rfl (fun hrep=>⟨w.heap.size, #[],0,rfl,heap_alloc_new w _,rfl,by simp,by simp,by simp,fun B c' e=>by injection e with e;injection e with e1 e2;subst e1 e2;simp⟩);exact ⟨_,hsr.put (KZ hd) (.map QB),fun f i h=>N6 fun e=>T3 h e.1⟩
end
end Go.Proofs.YtnkkaeblokdifaaGreat
/- The rules of maps' operations that write, and of ranges over maps. No program in sight. -/
namespace Go.Proofs.YtnkkaeblokdifaaGreat
open Go.RowKit Go.ChangeMaps
section
variable {α β:Type} [DecidableEq α]
variable {P:Program} {F:Fr} {s:AS} {K:TypeId} {eK:α ->D} {kv:α ->Value} {eV:β ->D}
variable {d:Nat} {ty T E:TypeId} {pos:String} {aft:Array Edge} {g:Option (Nat×Bool)} {x y z:Operand} {bs:Option (List Nat×Nat)}
def NR (m:List (α×β)) (a:α):Option (List Nat×Nat) ->Option (List Nat×Nat)
 | none=>none
 | some (B,c)=>if mix m a<m.length then some (B,c) else some (B++ [c],c+1)
theorem Hm (m:List (α×β)) (a:α) (b:β):NR m a (some (List.range m.length,m.length))=some (List.range (BM m a b).length,(BM m a b).length):=by
 obtain ⟨h1,h2⟩:=KA (m:=m) (a:=a) (b:=b);unfold NR
 by_cases h:mix m a<m.length
 ·simp only [h,if_true,show (BM m a b).length=m.length by omega]
 ·simp only [h,if_false,show (BM m a b).length=m.length+1 by omega,List.range_succ]
theorem Im (_:Bo P K eK kv) {w w':World} {O O':Nat ->Prop} {ρ:Nat ->Nat ->Value} {m:List (α×β)} {a:α} {b:β} {arr arr':Array MapEntry} {c c' mb:Nat} {v:Value}
  (hz:arr.size=(Bw eK eV m).length) (h:∀(i:Nat) e x,arr[i]?=some e ->(Bw eK eV m)[i]?=some x ->A1 w O x.1 e.key∧A1 w O x.2 e.val)
  (hn:(arr.toList.map (·.born)).Nodup) (hb:∀e∈arr.toList,e.born<c) (hbs:∀B c',bs=some (B,c') ->B=arr.toList.map (·.born)∧c'=c)
  (hrep:∀A v,A3 w O ρ A v ->A3 w' O' ρ A v) (hv:A1 w' O' (eV b) v) (hkr:A1 w' O' (eK a) (kv a))
  (hcase:(mix m a=m.length∧arr'=arr.push {key:=kv a,val:=v,born:=c}∧c'=c+1)∨∃e,arr[mix m a]?=some e∧mix m a<m.length∧arr'=(arr.modify (mix m a) fun e=>{e with key:=kv a,val:=v})∧c'=c)
  (hblk:w'.heap[mb]?=some (.map arr' c')):BD w' O' ρ (.map (NR m a bs) (Bw eK eV (BM m a b))) (.map (some mb)):=by
 have hzm:arr.size=m.length:=by simpa [Bw] using hz
 obtain ⟨l1,l2⟩:=KA (m:=m) (a:=a) (b:=b);obtain ⟨p1,p2⟩:=P6 (m:=m) (a:=a) (b:=b)
 have hrepD:∀x v,A1 w O x v ->A1 w' O' x v:=fun x v hx=>by
  have:=hrep (.d x) v (.d hx)
  cases this with | d h=>exact h
 rcases hcase with ⟨hm,rfl,rfl⟩ | ⟨e0,he0,hlt,rfl,rfl⟩
 ·refine ⟨mb,_,_,rfl,hblk,?_,fun i e x he hx=>?_,?_,fun e he=>?_,fun B c' hB=>?_⟩
  ·simp [Bw];omega
  ·have hi:i<(BM m a b).length:=by have:=(List.getElem?_eq_some_iff.1 hx).1;simpa [Bw] using this
   by_cases hie:i=m.length
   ·subst hie;rw [Array.getElem?_push,if_pos hzm.symm] at he;injection he with he;subst he
    have:(Bw eK eV (BM m a b))[m.length]?=some (eK a,eV b):=by
     have:=p1;rw [hm] at this;simp [Bw,this]
    rw [this] at hx;injection hx with hx;subst hx
    exact ⟨hkr,hv⟩
   ·rw [Array.getElem?_push,if_neg (by omega)] at he
    have hx':(Bw eK eV m)[i]?=some x:=by
     have:=p2 i (by omega);simp only [Bw,List.getElem?_map,this] at hx⊢;exact hx
    obtain ⟨g1,g2⟩:=h i e x he hx';exact ⟨hrepD _ _ g1,hrepD _ _ g2⟩
  ·simp only [Array.toList_push,List.map_append,List.map_cons,List.map_nil];rw [List.nodup_append];refine ⟨hn,by simp,fun u hu v' hv'=>?_⟩
   simp at hv';subst hv'
   obtain ⟨e,he,rfl⟩:=List.mem_map.1 hu;have:=hb e he;omega
  ·simp only [Array.toList_push,List.mem_append,List.mem_cons,List.not_mem_nil,or_false] at he;rcases he with he | rfl
   ·have:=hb e he;omega
   ·show c<c+1;omega
  ·cases bs with
   | none=>cases hB
   | some q=>
    obtain ⟨B0,c0⟩:=q;obtain ⟨rfl,rfl⟩:=hbs B0 c0 rfl;simp only [NR,hm,Nat.lt_irrefl,if_false,Option.some.injEq,Prod.mk.injEq] at hB;obtain ⟨rfl,rfl⟩:=hB
    simp
 ·have hie:∀(i:Nat) e,(arr.modify (mix m a) fun e=>{e with key:=kv a,val:=v})[i]?=some e ->∃e1,arr[i]?=some e1∧e=if i=mix m a then {e1 with key:=kv a,val:=v} else e1:=fun i e he=>by
   rw [Array.getElem?_modify] at he
   split at he
   ·rename_i hh;subst hh
    rw [he0] at he;simp at he;subst he;exact ⟨e0,he0,by simp⟩
   ·rename_i hh;exact ⟨e,he,by rw [if_neg (fun hh'=>hh hh'.symm)]⟩
  have hborn:(arr.modify (mix m a) fun e=>{e with key:=kv a,val:=v}).toList.map (·.born)=arr.toList.map (·.born):=by
   refine List.ext_getElem? fun i=>?_;simp only [List.getElem?_map,Array.getElem?_toList,Array.getElem?_modify]
   split
   ·rename_i hh;subst hh;rw [he0];rfl
   ·rfl
  refine ⟨mb,_,_,rfl,hblk,?_,fun i e x he hx=>?_,by rw [hborn];exact hn,fun e he=>?_,fun B c' hB=>?_⟩
  ·simp [Bw];omega
  ·obtain ⟨e1,h1,rfl⟩:=hie i e he
   by_cases hii:i=mix m a
   ·subst hii;rw [if_pos rfl];have:(Bw eK eV (BM m a b))[mix m a]?=some (eK a,eV b):=by simp [Bw,p1]
    rw [this] at hx;injection hx with hx;subst hx
    exact ⟨hkr,hv⟩
   ·rw [if_neg hii]
    have hx':(Bw eK eV m)[i]?=some x:=by
     have:=p2 i hii;simp only [Bw,List.getElem?_map,this] at hx⊢;exact hx
    obtain ⟨g1,g2⟩:=h i e1 x h1 hx';exact ⟨hrepD _ _ g1,hrepD _ _ g2⟩
  ·have:e.born∈(arr.modify (mix m a) fun e=>{e with key:=kv a,val:=v}).toList.map (·.born):=List.mem_map_of_mem (f:=(·.born)) he;rw [hborn] at this;obtain ⟨e1,h1,h2⟩:=List.mem_map.1 this;rw [←h2];exact hb e1 h1
  ·cases bs with
   | none=>cases hB
   | some q=>
    obtain ⟨B0,c0⟩:=q;simp only [NR,hlt,if_true,Option.some.injEq,Prod.mk.injEq] at hB;obtain ⟨rfl,rfl⟩:=hB;rw [hborn];exact hbs _ _ rfl
theorem Zdf {w:World} {b:Nat} {o:Obj} {i:Nat} (h:i≠b):(setBlock w b o).heap[i]?=w.heap[i]?:=by
 simp [setBlock,Ne.symm h]
theorem Dq {w:World} {b:Nat} {o o':Obj} (h:w.heap[b]?=some o'):(setBlock w b o).heap[b]?=some o:=by
 have:=(Array.getElem?_eq_some_iff.1 h).1
 simp [setBlock,this]
theorem Zc8 {w:World} {b:Nat} {o:Obj}:(setBlock w b o).heap.size=w.heap.size:=by simp [setBlock]
theorem Q2 (m:List (α×β)) (a:α) (b:β) {f i:Nat} {hp':List (Nat×List AQ)} (hx:s.ev x=some (.map f i)) (ho:hget s.hp f i=some (.map bs (Bw eK eV m))) (hy:s.ev y=some (.d (eK a))) (hT:CY P T K E=true) (KT:Bo P K eK kv) (hz:s.ev z=some (.d (eV b)))
  (hh:Bn s.hp f i (.map (NR m a bs) (Bw eK eV (BM m a b)))=some hp'):AR P F ⟨none,.mapUpdate T x y z,ty,pos,aft,g⟩ s ⟨s.n,s.env,hp'⟩ (fun _ _=>true):=fun ρ act w hs=>by
 obtain ⟨mb,arr,c,e1,e2,h1,h2,h3,h4,h5,h6⟩:=hs.mapAt hx ho;have hk:act.eval y=kv a:=(hs.repD hy).val (KT.val a);have hkr:A1 w (F.O ρ s.hp) (eK a) (kv a):=hk▸hs.repD hy;have hvr:=hs.ev hz
 have fin:∀arr' c',(execOp act.eval ⟨none,.mapUpdate T x y z,ty,pos,aft,g⟩).run P w= .ok .skip (setBlock w mb (.map arr' c')) ->((mix m a=m.length∧arr'=arr.push {key:=kv a,val:=act.eval z,born:=c}∧c'=c+1)∨∃e,arr[mix m a]?=some e∧mix m a<m.length∧arr'=(arr.modify (mix m a) fun e=>{e with key:=kv a,val:=act.eval z})∧c'=c)→
   (⟨none,.mapUpdate T x y z,ty,pos,aft,g⟩:Oper).wp P act w (fun act' w'=>∃ρ',SR F ⟨s.n,s.env,hp'⟩ ρ' act' w'∧∀f i,(fun _ _=>true) f i=true ->ρ' f i=ρ f i) (fun _ _ _=>False):=fun arr' c' hrun hcase=>by
  unfold Oper.wp;rw [hrun];refine ⟨ρ,hs.write f i _ (.map (NR m a bs) (Bw eK eV (BM m a b))) ho (BN hh) Z Z Z Zc8 (fun b' hb'=>Zdf fun e=>hb' (by rw [e2,e];rfl)) (fun _ _ e=>by cases e) fun hrep=>?_,fun _ _ _=>rfl⟩;rw [e2];refine Im KT h2 h3 h4 h5 h6 hrep (by have:=hrep _ _ hvr;cases this with | d h=>exact h) ?_ hcase (Dq h1);have:=hrep (.d (eK a)) _ (.d hkr)
  cases this with | d h=>exact h
 rcases hit_get KT h2 h3 a b with ⟨g1,_,_,g4⟩ | ⟨j,e,g1,g2,g3,_,g5,g6,_⟩
 ·refine fin _ _ ?_ (.inl ⟨g4,rfl,rfl⟩)
  simp [execOp,Instr.mapUpdate,run_underlying (Yr hT),e1,hk,MapKept.run_getObj_map h1,KT.check,KT.find w a _ _ (Zde KT h2 h3),g1,Result.andThen,MapKept.run_setObj_map _ h1,setBlock]
 ·refine fin _ _ ?_ (.inr ⟨e,by rw [g5];exact g2,by rw [g5];exact g6,rfl,rfl⟩)
  simp [execOp,Instr.mapUpdate,run_underlying (Yr hT),e1,hk,MapKept.run_getObj_map h1,KT.check,KT.find w a _ _ (Zde KT h2 h3),g1,g2,g3,g5,Result.andThen,MapKept.run_setObj_map _ h1,setBlock,KT.stays]
theorem FR {n:Nat} {env:List (Nat×AV)} {hp hp':List (Nat×List AQ)} (m:List (α×β)) (a:α) (b:β) {f i:Nat} (hx:AS.ev ⟨n,env,hp⟩ x=some (.map f i)) (ho:hget hp f i=some (CL eK eV m)) (hy:AS.ev ⟨n,env,hp⟩ y=some (.d (eK a))) (hT:CY P T K E=true) (KT:Bo P K eK kv) (hz:AS.ev ⟨n,env,hp⟩ z=some (.d (eV b)))
  (hh:Bn hp f i (CL eK eV (BM m a b))=some hp'):AR P F ⟨none,.mapUpdate T x y z,ty,pos,aft,g⟩ ⟨n,env,hp⟩ ⟨n,env,hp'⟩ (fun _ _=>true):=
 Q2 (s:=⟨n,env,hp⟩) m a b hx ho hy hT KT hz (by rw [Hm (b:=b)];exact hh)
theorem ED {n:Nat} {env:List (Nat×AV)} {hp hp':List (Nat×List AQ)} (m:List (α×β)) (a:α) (b:β) {f i:Nat} (hx:AS.ev ⟨n,env,hp⟩ x=some (.map f i)) (ho:hget hp f i=some (mapH eK eV m)) (hy:AS.ev ⟨n,env,hp⟩ y=some (.d (eK a))) (hT:CY P T K E=true) (KT:Bo P K eK kv) (hz:AS.ev ⟨n,env,hp⟩ z=some (.d (eV b)))
  (hh:Bn hp f i (mapH eK eV (BM m a b))=some hp'):AR P F ⟨none,.mapUpdate T x y z,ty,pos,aft,g⟩ ⟨n,env,hp⟩ ⟨n,env,hp'⟩ (fun _ _=>true):=
 Q2 (s:=⟨n,env,hp⟩) m a b hx ho hy hT KT hz hh
theorem Hy {n:Nat} {env:List (Nat×AV)} {hp hp':List (Nat×List AQ)} (m:List (α×β)) (a:α) (b0:β) {f i:Nat} (hx:AS.ev ⟨n,env,hp⟩ x=some (.map f i)) (ho:hget hp f i=some (CL eK eV m)) (hy:AS.ev ⟨n,env,hp⟩ y=some (.d (eK a))) (hT:CY P T K E=true) (KT:Bo P K eK kv) (hz:Em P E=some (.d (eV b0)))
  (hh:Bn hp f i (CL eK eV (Bb m a b0))=some hp') (hd:Nat.blt d n=true):AR P F ⟨some d,.mapEntry T x y,ty,pos,aft,g⟩ ⟨n,env,hp⟩ ⟨n,(d,.tup [.d (eV (Ai m a b0)),.d (.raw (.int .i64 (mix m a:Int)))])::env,hp'⟩ (fun _ _=>true):=fun ρ act w hs=>by
 obtain ⟨mb,arr,c,e1,e2,h1,h2,h3,h4,h5,h6⟩:=hs.mapAt hx ho;have hk:act.eval y=kv a:=(hs.repD hy).val (KT.val a);have hkr:A1 w (F.O ρ hp) (eK a) (kv a):=hk▸hs.repD hy;obtain ⟨zv,hz1,hz2⟩:=FP hz w;obtain ⟨hB,hc⟩:=h6 _ _ rfl;subst hc;have hzm:arr.size=m.length:=by simpa [Bw] using h2
 have fin:∀arr' c' v,(execOp act.eval ⟨some d,.mapEntry T x y,ty,pos,aft,g⟩).run P w= .ok (.value (.tuple #[v,.int .i64 (mix m a:Int)])) (setBlock w mb (.map arr' c')) ->A1 w (F.O ρ hp) (eV (Ai m a b0)) v ->((mix m a=m.length∧arr'=arr.push {key:=kv a,val:=v,born:=m.length}∧c'=m.length+1)∨∃e,arr[mix m a]?=some e∧mix m a<m.length∧arr'=(arr.modify (mix m a) fun e=>{e with key:=kv a,val:=v})∧c'=m.length)→
   (⟨some d,.mapEntry T x y,ty,pos,aft,g⟩:Oper).wp P act w (fun act' w'=>∃ρ',SR F ⟨n,(d,.tup [.d (eV (Ai m a b0)),.d (.raw (.int .i64 (mix m a:Int)))])::env,hp'⟩ ρ' act' w'∧∀f i,(fun _ _=>true) f i=true ->ρ' f i=ρ f i) (fun _ _ _=>False):=fun arr' c' v hrun hvr hcase=>by
  unfold Oper.wp;rw [hrun]
  have hw:=hs.write f i _ (CL eK eV (Bb m a b0)) (w':=setBlock w mb (.map arr' c')) ho (BN hh) Z Z Z Zc8 (fun b' hb'=>Zdf fun e=>hb' (by rw [e2,e];rfl)) (fun _ _ e=>by cases e) fun hrep=>by
   rw [e2]
   have:=Im (b:=Ai m a b0) KT h2 h3 h4 h5 h6 hrep (by have:=hrep (.d _) _ (.d hvr);cases this with | d h=>exact h) (by
    have:=hrep (.d (eK a)) _ (.d hkr)
    cases this with | d h=>exact h) hcase (Dq h1)
   rw [Hm (b:=Ai m a b0)] at this;exact this
  have hrep:A1 (setBlock w mb (.map arr' c')) (F.O ρ hp') (eV (Ai m a b0)) v:=by
   have hO:∀b,F.O ρ hp' b ->F.O ρ hp b:=fun b hh'=>by
    rcases hh' with hh' | ⟨f',i',o1,g1,g2⟩
    ·exact .inl hh'
    ·refine .inr ?_
     by_cases e:f'=f∧i'=i
     ·obtain ⟨rfl,rfl⟩:=e;exact ⟨f',i',_,ho,g2⟩
     ·rw [BN hh,if_neg e] at g1;exact ⟨f',i',o1,g1,g2⟩
   exact hvr.mono (Nat.le_of_eq Zc8.symm) (fun b _ hn=>Zdf fun e=>hn (.inr ⟨f,i,_,ho,by rw [e2,e];rfl⟩)) (fun b _=>hO b)
  refine ⟨ρ,hw.put (KZ hd) (.tup (vs:=[v,.int .i64 (mix m a:Int)]) rfl fun i a v ha hv=>?_),fun _ _ _=>rfl⟩;rcases i with _ | _ | i
  ·simp at ha hv;subst ha hv;exact .d hrep
  ·simp at ha hv;subst ha hv;exact .d (.raw rfl)
  ·simp at ha
 rcases hit_get KT h2 h3 a b0 with ⟨g1,_,g3,g4⟩ | ⟨j,e,g1,g2,g3,_,g5,g6,g7⟩
 ·refine fin _ _ zv ?_ (by rw [g3];have:=hz2 w (F.O ρ hp) ρ;cases this with | d h=>exact h) (.inl ⟨g4,rfl,rfl⟩)
  simp [execOp,Instr.mapEntry,run_underlying (Yr hT),e1,hk,MapKept.run_getObj_map h1,KT.check,KT.find w a _ _ (Zde KT h2 h3),g1,g4,hz1,Result.andThen,MapKept.run_setObj_map _ h1,setBlock,goInt]
 ·have hborn:e.born=j:=by
   have hj:j<arr.size:=(Array.getElem?_eq_some_iff.1 g2).1;have:=congrArg (·[j]?) hB;simp only [List.getElem?_map,Array.getElem?_toList,g2,Option.map_some] at this;rw [List.getElem?_range (by omega)] at this;injection this with this;exact this.symm
  refine fin _ _ e.val ?_ g7 (.inr ⟨e,by rw [g5];exact g2,by rw [g5];exact g6,rfl,rfl⟩)
  have hmod:(arr.modify (mix m a) fun e=>{e with key:=kv a})=arr.modify (mix m a) fun e'=>{e' with key:=kv a,val:=e.val}:=by
   refine Array.ext_getElem? fun i=>?_;rw [Array.getElem?_modify,Array.getElem?_modify]
   split
   ·rename_i hh;subst hh;rw [g5,g2];rfl
   ·rfl
  rw [←hmod]
  simp [execOp,Instr.mapEntry,run_underlying (Yr hT),e1,hk,MapKept.run_getObj_map h1,KT.check,KT.find w a _ _ (Zde KT h2 h3),g1,g2,g3,g5,hborn,Result.andThen,MapKept.run_setObj_map _ h1,setBlock,KT.stays,goInt]
theorem Hz {n:Nat} {env:List (Nat×AV)} {hp hp':List (Nat×List AQ)} (m:List (α×β)) (a:α) (b0 b:β) {f i:Nat} (hx:AS.ev ⟨n,env,hp⟩ x=some (.map f i)) (ho:hget hp f i=some (CL eK eV (Bb m a b0))) (hy:AS.ev ⟨n,env,hp⟩ y=some (.d (.raw (.int .i64 (mix m a:Int))))) (KT:Bo P K eK kv) (hz:AS.ev ⟨n,env,hp⟩ z=some (.d (eV b)))
  (hh:Bn hp f i (CL eK eV (BM m a b))=some hp'):AR P F ⟨none,.entryStore T x y z,ty,pos,aft,g⟩ ⟨n,env,hp⟩ ⟨n,env,hp'⟩ (fun _ _=>true):=fun ρ act w hs=>by
 obtain ⟨mb,arr,c,e1,e2,h1,h2,h3,h4,h5,h6⟩:=hs.mapAt hx ho;have hy':act.eval y= .int .i64 (mix m a:Int):=hs.raw hy;have hvr:=hs.ev hz;obtain ⟨hB,hc⟩:=h6 _ _ rfl;have hzm:arr.size=(Bb m a b0).length:=by simpa [Bw] using h2
 obtain ⟨l1,l2⟩:=KA (m:=m) (a:=a) (b:=Ai m a b0);have hlt:mix m a<(Bb m a b0).length:=by unfold Bb;omega
 have hborn:∀(i:Nat) e,arr[i]?=some e ->e.born=i:=fun i e he=>by
  have hi:i<arr.size:=(Array.getElem?_eq_some_iff.1 he).1;have:=congrArg (·[i]?) hB;simp only [List.getElem?_map,Array.getElem?_toList,he,Option.map_some] at this;rw [List.getElem?_range (by omega)] at this;injection this with this;exact this.symm
 obtain ⟨e0,he0⟩:∃e,arr[mix m a]?=some e:=⟨_,Array.getElem?_eq_getElem (by omega)⟩
 have hidx:arr.findIdx? (fun e=>(e.born:Int)==(mix m a:Int))=some (mix m a):=by
  rw [Array.findIdx?_eq_some_iff_getElem];refine ⟨by omega,?_,fun j hj=>?_⟩
  ·have:=hborn _ _ (Array.getElem?_eq_getElem (show mix m a<arr.size by omega))
   simp [this]
  ·have:=hborn _ _ (Array.getElem?_eq_getElem (show j<arr.size by omega))
   simp [this];omega
 have hrun:(execOp act.eval ⟨none,.entryStore T x y z,ty,pos,aft,g⟩).run P w= .ok .skip (setBlock w mb (.map (arr.modify (mix m a) fun e=>{e with val:=act.eval z}) c)):=by
  simp [execOp,Instr.entryStore,e1,hy',MapKept.run_getObj_map h1,asInt,asIntOf,hidx,Result.andThen,MapKept.run_setObj_map _ h1,setBlock]
 unfold Oper.wp;rw [hrun]
 have hkey:e0.key=kv a:=by
  have hp:=(P6 (m:=m) (a:=a) (b:=Ai m a b0)).1;have:=(h3 _ e0 (eK a,eV (Ai m a b0)) he0 (by simp only [Bw,List.getElem?_map];unfold Bb;rw [hp];rfl)).1;exact this.val (KT.val a)
 have hmod:(arr.modify (mix m a) fun e=>{e with val:=act.eval z})=arr.modify (mix (Bb m a b0) a) fun e=>{e with key:=kv a,val:=act.eval z}:=by
  rw [Ki];refine Array.ext_getElem? fun i=>?_;rw [Array.getElem?_modify,Array.getElem?_modify]
  split
  ·rename_i hh;subst hh;rw [he0];simp [hkey]
  ·rfl
 have hkr:A1 w (F.O ρ hp) (eK a) (kv a):=by
  have hp:=(P6 (m:=m) (a:=a) (b:=Ai m a b0)).1;have:=(h3 _ e0 (eK a,eV (Ai m a b0)) he0 (by simp only [Bw,List.getElem?_map];unfold Bb;rw [hp];rfl)).1;rw [hkey] at this;exact this
 refine ⟨ρ,hs.write f i _ (CL eK eV (BM m a b)) ho (BN hh) Z Z Z Zc8 (fun b' hb'=>Zdf fun e=>hb' (by rw [e2,e];rfl)) (fun _ _ e=>by cases e) fun hrep=>?_,fun _ _ _=>rfl⟩;rw [e2]
 have:=Im (b:=b) (a:=a) (m:=Bb m a b0) (c':=c) (mb:=mb) KT h2 h3 h4 h5 h6 hrep (by have:=hrep _ _ hvr;cases this with | d h=>exact h) (by
  have:=hrep (.d (eK a)) _ (.d hkr)
  cases this with | d h=>exact h) (.inr ⟨e0,by rw [Ki];exact he0,by rw [Ki];exact hlt,hmod,rfl⟩) (Dq h1)
 rw [Hm (b:=b),Sx] at this;exact this
theorem Ja (gf:Nat) {f i c:Nat} {B:List Nat} {es:List (D×D)} {env':List (Nat×AV)} {hp1 hp':List (Nat×List AQ)} (hx:s.ev x=some (.map f i)) (ho:hget s.hp f i=some (.map (some (B,c)) es)) (hne:Nat.beq f gf=false) (hT:CY P T K E=true)
  (hE:Ad gf s.env=some env') (hH:A7 gf s.hp=some hp1) (hn:Ct hp1 gf (.iter f i c [])=some hp') (hd:Nat.blt d s.n=true):
  AR P F ⟨some d,.range T x,ty,pos,aft,g⟩ s ⟨s.n,(d,.ptr gf 0 0)::env',hp'⟩ (Bj gf):=fun ρ act w hs=>by
 obtain ⟨mb,arr,c',e1,e2,h1,h2,h3,h4,h5,h6⟩:=hs.mapAt hx ho;obtain ⟨_,rfl⟩:=h6 _ _ rfl
 have hrun:(execOp act.eval ⟨some d,.range T x,ty,pos,aft,g⟩).run P w= .ok (.value (.pointer (some ⟨w.heap.size,0,none⟩))) (w.alloc (.mapIter (some mb) c #[] c)):=by
  simp [execOp,Instr.range,run_underlying (Yr hT),e1,MapKept.run_getObj_map h1,Result.andThen]
 unfold Oper.wp;rw [hrun];have hsr:=hs.new gf (.iter f i c []) (.pointer (some ⟨w.heap.size,0,none⟩)) (.mapIter (some mb) c #[] c) hE hH hn rfl (fun hrep=>⟨w.heap.size,mb, #[],rfl,by rw [N6 (fun e=>(Nat.ne_of_beq_eq_false hne) e.1)];exact e2,heap_alloc_new w _,rfl⟩);exact ⟨_,hsr.put (KZ hd) (.ptr QB),fun f i h=>N6 fun e=>T3 h e.1⟩
omit [DecidableEq α] in
theorem P3 {Q:Exit ->AS ->Prop} {ops:Array Oper} {rest:List Oper} {n:Nat} {env:List (Nat×AV)} {hp:List (Nat×List AQ)} (m:List (α×β)) {gf f i c:Nat} {B seen:List Nat} (hx:AS.ev ⟨n,env,hp⟩ x=some (.ptr gf 0 0)) (hi:hget hp gf 0=some (.iter f i c seen)) (ho:hget hp f i=some (.map (some (B,c)) (Bw eK eV m))) (hd:Nat.blt d n=true)
  (h0:EP m B seen=[] ->Aq P F ops rest Q ⟨n,(d,.tup [.d (.raw (.bool false))])::env,hp⟩)
  (h1:∀(j b:Nat) (k:α) (v:β),m[j]?=some (k,v) ->B[j]?=some b ->B.Nodup ->(EP m B seen).Perm ((k,v)::EP m B (seen++ [b])) ->∃hp',Bn hp gf 0 (.iter f i c (seen++ [b]))=some hp'∧Aq P F ops rest Q ⟨n,(d,.tup [.d (.raw (.bool true)),.d (eK k),.d (eV v)])::env,hp'⟩):
  Aq P F ops (⟨some d,.next x false,ty,pos,aft,none⟩::rest) Q ⟨n,env,hp⟩:=fun ρ act w hs=>by
 obtain ⟨r,mb,sn,q1,q2,q3,q4⟩:=hs.heap.sim gf 0 _ hi;obtain ⟨mb',arr,c',p1,p2,p3,p4,p5,p6,p7⟩:=hs.heap.sim f i _ ho;obtain ⟨hB,hc⟩:=p7 _ _ rfl;subst hc;have:mb'=mb:=by rw [p1] at q2;injection q2 with q2;injection q2 with q2
 subst this
 have hxv:act.eval x= .pointer (some ⟨r,0,none⟩):=by
  have hr:=hs.ev hx
  generalize act.eval x=vx at hr
  cases hr with
  | ptr h=>rw [q1] at h;injection h with h;injection h with h;injection h with h;subst h;rfl
 have hzm:arr.size=m.length:=by simpa [Bw] using p3
 have hBn:B.Nodup:=hB▸p5;have hBl:B.length=m.length:=by rw [hB];simp [hzm]
 refine wpListIn_plain rfl fun Kk hk=>Ih rfl ?_;rcases run_next_at (P:=P) w ty r mb' c c sn arr c q3 p2 (fun e he=>p6 e he) (Nat.le_refl _) with ⟨hz,hrun⟩ | ⟨e,he,w1,hw1,hrun⟩
 ·have hl0:EP m B seen=[]:=by
   have hz':arr.filter (fun e=>!sn.contains e.born)= #[]:=Array.eq_empty_of_size_eq_zero hz;rw [Array.filter_eq_empty_iff] at hz';unfold EP;rw [List.map_eq_nil_iff,List.filter_eq_nil_iff];intro q hq hs';obtain ⟨j,hj,rfl⟩:=List.getElem_of_mem hq;rw [List.length_zip] at hj;have hja:j<arr.size:=by omega
   have h2:=hz' arr[j] (by simp);rw [List.getElem_zip] at hs'
   have h3:B[j]'(by omega)=arr[j].born:=by
    have:=congrArg (·[j]?) hB;simp only [List.getElem?_map,Array.getElem?_toList,Array.getElem?_eq_getElem hja,Option.map_some] at this;rw [List.getElem?_eq_getElem (by omega)] at this;injection this
   simp only [h3,←q4] at hs';simp only [Array.contains_toList] at hs';exact absurd hs' (by simpa using h2)
  have hex:(execOp act.eval ⟨some d,.next x false,ty,pos,aft,none⟩).run P w= .ok (.value (.tuple #[.bool false])) w:=by
   simp [execOp,hxv,hrun,Result.andThen]
  unfold Oper.wp;rw [hex]
  exact hk _ _ (h0 hl0 ρ _ w (hs.put (KZ hd) (.tup (vs:=[.bool false]) rfl fun i a v ha hv=>by
   rcases i with _ | i
   ·simp at ha hv;subst ha hv;exact .d (.raw rfl)
   ·simp at ha)))
 ·have he':e∈arr∧(!sn.contains e.born)=true:=by
   have:e∈arr.filter (fun e=>!sn.contains e.born):=by simpa [leftOf] using he
   rwa [Array.mem_filter] at this
  obtain ⟨j,hj,rfl⟩:=Array.getElem_of_mem he'.1;have hjm:j<m.length:=by omega
  have hBj:B[j]?=some arr[j].born:=by rw [hB];simp [hj]
  obtain ⟨g1,g2⟩:=p4 j arr[j] (eK m[j].1,eV m[j].2) (Array.getElem?_eq_getElem hj) (by simp [Bw,hjm])
  have hns:arr[j].born∉seen:=by
   rw [←q4];have:=he'.2
   simpa using this
  have hperm:=RK hBn (List.getElem?_eq_getElem hjm) hBj hns;obtain ⟨hp',hh,hA⟩:=h1 j _ m[j].1 m[j].2 (List.getElem?_eq_getElem hjm) hBj hBn hperm
  have hex:(execOp act.eval ⟨some d,.next x false,ty,pos,aft,none⟩).run P w= .ok (.value (.tuple #[.bool true,arr[j].key,arr[j].val])) (setBlock w1 r (.mapIter (some mb') c (sn.push arr[j].born) c)):=by
   simp [execOp,hxv,hrun,Result.andThen]
  unfold Oper.wp;rw [hex]
  have hs1:SR F ⟨n,env,hp⟩ ρ act w1:=by
   rcases hw1 with rfl | rfl
   ·exact hs
   ·exact hs.drew Z Z Z Z
  have q3':w1.heap[r]?=some (.mapIter (some mb') c sn c):=by rcases hw1 with rfl | rfl<;>exact q3
  have hr1:A1 w1 (F.O ρ hp) (eK m[j].1) arr[j].key∧A1 w1 (F.O ρ hp) (eV m[j].2) arr[j].val:=by
   rcases hw1 with rfl | rfl
   ·exact ⟨g1,g2⟩
   ·exact ⟨g1.mono (w:=w) (w':=w.drew) (Nat.le_refl _) (fun _ _ _=>rfl) (fun _ _ h=>h),g2.mono (w:=w) (w':=w.drew) (Nat.le_refl _) (fun _ _ _=>rfl) (fun _ _ h=>h)⟩
  have hw:=hs1.write gf 0 _ (.iter f i c (seen++ [arr[j].born])) (w':=setBlock w1 r (.mapIter (some mb') c (sn.push arr[j].born) c)) hi (BN hh) Z Z Z Zc8 (fun b' hb'=>Zdf fun e=>hb' (by rw [q1,e];rfl)) (fun _ _ e=>by cases e) fun hrep=>by
   exact ⟨r,mb',sn.push arr[j].born,q1,q2,Dq q3',by simp [q4]⟩
  have hO:∀b,F.O ρ hp' b ->F.O ρ hp b:=fun b hh'=>by
   rcases hh' with hh' | ⟨f',i',o1,k1,k2⟩
   ·exact .inl hh'
   ·refine .inr ?_
    by_cases e:f'=gf∧i'=0
    ·obtain ⟨rfl,rfl⟩:=e;exact ⟨f',0,_,hi,k2⟩
    ·rw [BN hh,if_neg e] at k1;exact ⟨f',i',o1,k1,k2⟩
  have hbb:∀b,b<w1.heap.size ->¬F.O ρ hp b ->(setBlock w1 r (.mapIter (some mb') c (sn.push arr[j].born) c)).heap[b]?=w1.heap[b]?:=fun b _ hn=>Zdf fun e=>hn (.inr ⟨gf,0,_,hi,by rw [q1,e];rfl⟩);refine hk _ _ (hA ρ _ _ (hw.put (KZ hd) (.tup (vs:=[.bool true,arr[j].key,arr[j].val]) rfl fun i a v ha hv=>?_)));rcases i with _ | _ | _ | i
  ·simp at ha hv;subst ha hv;exact .d (.raw rfl)
  ·simp at ha hv;subst ha hv;exact .d (hr1.1.mono (Nat.le_of_eq Zc8.symm) hbb (fun b _=>hO b))
  ·simp at ha hv;subst ha hv;exact .d (hr1.2.mono (Nat.le_of_eq Zc8.symm) hbb (fun b _=>hO b))
  ·simp at ha
omit [DecidableEq α] in
theorem Jc (m:List (α×β)) (j b:Nat) {k:α} {v:β} {gf f i c:Nat} {B seen:List Nat} (hx:s.ev x=some (.ptr gf 0 0)) (hi:hget s.hp gf 0=some (.iter f i c (seen++ [b]))) (ho:hget s.hp f i=some (.map (some (B,c)) (Bw eK eV m))) (hm:m[j]?=some (k,v)) (hb:B[j]?=some b) (hd:Nat.blt d s.n=true):
  AA P F ⟨some d,.entry x,ty,pos,aft,g⟩ s d (.tup [.d (eK k),.d (eV v)]):=
 C1 _ hd fun ρ act w hs=>by
  obtain ⟨r,mb,sn,q1,q2,q3,q4⟩:=hs.heap.sim gf 0 _ hi;obtain ⟨mb',arr,c',p1,p2,p3,p4,p5,p6,p7⟩:=hs.heap.sim f i _ ho;obtain ⟨hB,hc⟩:=p7 _ _ rfl;subst hc;have:mb'=mb:=by rw [p1] at q2;injection q2 with q2;injection q2 with q2
  subst this
  have hxv:act.eval x= .pointer (some ⟨r,0,none⟩):=by
   have hr:=hs.ev hx
   generalize act.eval x=vx at hr
   cases hr with
   | ptr h=>rw [q1] at h;injection h with h;injection h with h;injection h with h;subst h;rfl
  have hjm:j<m.length:=(List.getElem?_eq_some_iff.1 hm).1;have hzm:arr.size=m.length:=by simpa [Bw] using p3
  have hbe:arr[j].born=b:=by
   rw [hB] at hb;simpa [show j<arr.size by omega] using hb
  have hsn:sn=(⟨seen⟩:Array Nat).push arr[j].born:=by
   apply Array.ext'
   rw [q4,Array.toList_push,hbe]
  rw [hsn] at q3;have hrun:=run_entry_at (P:=P) w r mb' c ⟨seen⟩ arr c arr[j] q3 p2 (by simp) p5;obtain ⟨g1,g2⟩:=p4 j arr[j] (eK k,eV v) (Array.getElem?_eq_getElem (by omega)) (by simp [Bw,hm]);refine ⟨.tuple #[arr[j].key,arr[j].val],by simp [execOp,hxv,hrun,Result.andThen],.tup (vs:=[arr[j].key,arr[j].val]) rfl fun i a v ha hv=>?_⟩;rcases i with _ | _ | i
  ·simp at ha hv;subst ha hv;exact .d g1
  ·simp at ha hv;subst ha hv;exact .d g2
  ·simp at ha
end
end Go.Proofs.YtnkkaeblokdifaaGreat
/- Keys of plain types. No program in sight. -/
namespace Go.Proofs.YtnkkaeblokdifaaGreat
open Go.RowKit
theorem Bo.int {P:Program} {K:TypeId} (hK:P.underlying K=some (.int .i64)):Bo P K (fun z:Int=> .raw (.int .i64 z)) (fun z=> .int .i64 z):=
 Bo.plain hK (fun _=>rfl) (fun _=>rfl) fun a b=>by simp [Instr.sameNow];rfl
def IZ (l:List UInt8):Value:= .string ⟨l.toArray⟩
theorem Ou (a b:List UInt8):((⟨a.toArray⟩:ByteArray)==⟨b.toArray⟩)=decide (a=b):=by
 rw [beq_toListBytes,ByteArray.toList_eq,ByteArray.toList_eq]
 by_cases h:a=b
 ·subst h;simp
 ·simp [h]
theorem Bo.str {P:Program} {K:TypeId} (hK:P.underlying K=some .string):Bo P K Am IZ:=
 Bo.plain hK (fun _=>rfl) (fun _=>trivial) fun a b=>by simp only [Instr.sameNow,IZ,Ou]
def JE (rec:TypeId ->Option (List TypeDesc)):Nat ->List Field ->Option (List TypeDesc)
 | _,[]=>some []
 | off,f::fs=>match rec f.type with
  | none=>none
  | some ds=>match JE rec (off+ds.length) fs with
   | none=>none
   | some r=>match Nat.beq f.offset off && f.name != "_" with
    | true=>some (ds++r)
    | false=>none
def Dh (P:Program):Nat ->TypeId ->Option (List TypeDesc)
 | 0,_=>none
 | m+1,T=>match P.underlying T with
  | some (.int k)=>some [.int k]
  | some .string=>some [.string]
  | some .bool=>some [.bool]
  | some (.struct fs)=>match JE (Dh P m) 0 fs.toList with
   | none=>none
   | some ds=>match A6 P T ds.length && !P.stoodInHeld T with
    | true=>some ds
    | false=>none
  | _=>none
def BP (ds:List TypeDesc) (us:List Value):Prop:=us.length=ds.length∧∀(i:Nat) d u,ds[i]?=some d ->us[i]?=some u ->MapKept.IsKey d u
def H5 (P:Program) (T:TypeId):Bool:=match P.underlying T with
 | some (.struct _)=>true
 | _=>false
def O2 (P:Program) (T:TypeId) (us:List Value):Value:=match H5 P T with
 | true=> .agg us.toArray
 | false=>us.headD undef
def NK:Value ->Value ->Bool
 | .int _ a,.int _ b=>a==b
 | .string a,.string b=>a.toList==b.toList
 | .bool a,.bool b=>a==b
 | _,_=>false
def B9:List Value ->List Value ->Bool
 | [],[]=>true
 | a::r,b::s=>NK a b && B9 r s
 | _,_=>false
theorem NJ {a a' b b':List Value} (h:a.length=b.length):B9 (a++a') (b++b')=(B9 a b && B9 a' b'):=by
 induction a generalizing b with
 | nil=>
  cases b with
  | nil=>simp [B9]
  | cons _ _=>simp at h
 | cons x r ih=>
  cases b with
  | nil=>simp at h
  | cons y s=>simp only [List.cons_append,B9,ih (show r.length=s.length by simpa using h),Bool.and_assoc]
theorem BP.split {ds ds':List TypeDesc} {us:List Value} (h:BP (ds++ds') us):BP ds (us.take ds.length)∧BP ds' (us.drop ds.length):=by
 obtain ⟨h1,h2⟩:=h;rw [List.length_append] at h1;refine ⟨⟨by simp;omega,fun i d u hd hu=>?_⟩,⟨by simp;omega,fun i d u hd hu=>?_⟩⟩
 ·have hi:i<ds.length:=(List.getElem?_eq_some_iff.1 hd).1;rw [List.getElem?_take_of_lt hi] at hu;exact h2 i d u (by rw [List.getElem?_append_left hi];exact hd) hu
 ·rw [List.getElem?_drop] at hu;refine h2 (ds.length+i) d u ?_ hu;rw [List.getElem?_append_right (by omega),show ds.length+i - ds.length=i by omega];exact hd
section
variable {P:Program}
theorem Gi {m:Nat} {T:TypeId} {ds:List TypeDesc} (h:Dh P m T=some ds) (hs:H5 P T=false):∃d,ds=[d]∧P.underlying T=some d∧((∃k,d= .int k)∨d= .string∨d= .bool):=by
 cases m with
 | zero=>cases h
 | succ m=>
  unfold Dh at h;unfold H5 at hs
  split at h
  ·rename_i k hk;injection h with h;subst h;exact ⟨_,rfl,hk,.inl ⟨k,rfl⟩⟩
  ·rename_i hk;injection h with h;subst h;exact ⟨_,rfl,hk,.inr (.inl rfl)⟩
  ·rename_i hk;injection h with h;subst h;exact ⟨_,rfl,hk,.inr (.inr rfl)⟩
  ·rename_i fs hk;rw [hk] at hs;cases hs
  ·cases h
theorem Gh {m:Nat} {T:TypeId} {ds:List TypeDesc} (h:Dh P m T=some ds) (hs:H5 P T=true):∃m' fs,m=m'+1∧P.underlying T=some (.struct fs)∧JE (Dh P m') 0 fs.toList=some ds∧A6 P T ds.length=true∧P.stoodInHeld T=false:=by
 cases m with
 | zero=>cases h
 | succ m=>
  unfold Dh at h;unfold H5 at hs
  split at h
  ·rename_i k hk;rw [hk] at hs;cases hs
  ·rename_i hk;rw [hk] at hs;cases hs
  ·rename_i hk;rw [hk] at hs;cases hs
  ·rename_i fs hk
   split at h
   ·cases h
   ·rename_i ds' hds
    split at h
    ·rename_i hb
     injection h with h;subst h
     simp only [Bool.and_eq_true,Bool.not_eq_true'] at hb;exact ⟨m,fs,rfl,hk,hds,hb.1,hb.2⟩
    ·cases h
  ·cases h
theorem Fe {m:Nat} {T:TypeId} {ds:List TypeDesc} (h:Dh P m T=some ds) (w:World) (us:List Value) (off:Nat) (hl:off+ds.length≤us.length):(part T us.toArray off).run P w= .ok (O2 P T ((us.drop off).take ds.length)) w:=by
 cases hs:H5 P T with
 | false=>
  obtain ⟨d,rfl,hd,hk⟩:=Gi h hs
  have ha:(isAgg T).run P w= .ok false w:=by
   rcases hk with ⟨k,rfl⟩ | rfl | rfl<;>simp [isAgg,run_underlying hd,Result.andThen]
  have hlt:off<us.length:=by simp at hl;omega
  simp only [part,Sem.run_bind,ha,Result.andThen_ok,Bool.false_eq_true,if_false,O2,hs];rw [List.getElem?_toArray,List.getElem?_eq_getElem hlt];simp only [Sem.run_pure,List.length_cons,List.length_nil];rw [List.drop_eq_getElem_cons hlt];rfl
 | true=>
  obtain ⟨m',fs,rfl,hd,_,hz,_⟩:=Gh h hs;have ha:(isAgg T).run P w= .ok true w:=by simp [isAgg,run_underlying hd,Result.andThen]
  have hz':=Zdl (P:=P) (Zc3 hz) w;simp only [part,Sem.run_bind,ha,Result.andThen_ok,if_true,hz',Sem.run_pure,O2,hs]
  congr 2
  apply Array.ext'
  simp
theorem Gk:∀(m:Nat) (T:TypeId) (ds:List TypeDesc),Dh P m T=some ds ->∀(d:Nat) (us vs:List Value),BP ds us ->BP ds vs ->∀w,(Op.equalIn (d+m) T (O2 P T us) (O2 P T vs)).run P w= .ok (B9 us vs) w
 | 0,_,_,h=>by cases h
 | m+1,T,ds,h=>fun d us vs hu hv w=>by
  cases hs:H5 P T with
  | false=>
   obtain ⟨d',rfl,hd,hk⟩:=Gi h hs;obtain ⟨u,rfl⟩:=List.length_eq_one_iff.1 hu.1;obtain ⟨v,rfl⟩:=List.length_eq_one_iff.1 hv.1;have k1:=hu.2 0 d' u Z Z;have k2:=hv.2 0 d' v Z Z;simp only [O2,hs,List.headD_cons,B9,Bool.and_true];rcases hk with ⟨k,rfl⟩ | rfl | rfl
   ·cases u<;>cases v<;>simp only [MapKept.IsKey] at k1 k2
    subst k1 k2;exact run_equalIn_int w (d+m) T _ _ _ _ hd
   ·cases u<;>cases v<;>simp only [MapKept.IsKey] at k1 k2
    exact run_equalIn_string w (d+m) T _ _ hd
   ·cases u<;>cases v<;>simp only [MapKept.IsKey] at k1 k2
    exact run_equalIn_bool' w (d+m) T _ _ hd
  | true=>
   obtain ⟨m',fs,hm,hd,hfl,hz,hst⟩:=Gh h hs;injection hm with hm;subst hm
   have hf:P.fieldsOf T=fs:=by simp [Program.fieldsOf,hd]
   simp only [O2,hs];rw [←Nat.add_assoc,run_equalIn_struct w (d+m) T _ _ (by rw [hf];exact hd) hst,hf]
   -- along the fields
   have key:∀(fs:List Field) (off:Nat) (ds:List TypeDesc) (us vs:List Value),JE (Dh P m) off fs=some ds ->BP ds (us.drop off) ->BP ds (vs.drop off) ->off≤us.length ->off≤vs.length ->(Op.eqFields (d+m) us.toArray vs.toArray fs).run P w= .ok (B9 (us.drop off) (vs.drop off)) w:=by
    intro fs
    induction fs with
    | nil=>
     intro off ds us vs h hu hv _ _;simp only [JE,Option.some.injEq] at h;subst h;rw [List.eq_nil_of_length_eq_zero hu.1,List.eq_nil_of_length_eq_zero hv.1];rfl
    | cons f fs ih=>
     intro off ds us vs h hu hv hou hov;simp only [JE] at h
     split at h
     ·cases h
     ·rename_i d1 h1
      split at h
      ·cases h
      ·rename_i r hr
       split at h
       ·rename_i hb
        injection h with h;subst h
        simp only [Bool.and_eq_true] at hb;have hoff:=Nat.eq_of_beq_eq_true hb.1;have hname:f.name≠ "_" :=by simpa using hb.2
        have lu:=hu.1;have lv:=hv.1;rw [List.length_append,List.length_drop] at lu lv;have hl1:off+d1.length≤us.length:=by omega
        have hl2:off+d1.length≤vs.length:=by omega
        obtain ⟨u1,u2⟩:=hu.split;obtain ⟨v1,v2⟩:=hv.split;rw [List.drop_drop] at u2 v2;have e1:=Fe h1 w us off hl1;have e2:=Fe h1 w vs off hl2;have e3:=Gk m f.type d1 h1 d _ _ u1 v1 w;have e4:=ih (off+d1.length) r us vs hr u2 v2 hl1 hl2;simp only [Op.eqFields,hname,ne_eq,not_false_eq_true,if_true,hoff,Sem.run_bind,e1,e2,e3,Result.andThen_ok]
        have hsplit:B9 (us.drop off) (vs.drop off)=(B9 ((us.drop off).take d1.length) ((vs.drop off).take d1.length) && B9 (us.drop (off+d1.length)) (vs.drop (off+d1.length))):=by
         rw [←List.drop_drop,←List.drop_drop,←NJ (by simp;omega),List.take_append_drop,List.take_append_drop]
        rw [hsplit]
        cases hc:B9 ((us.drop off).take d1.length) ((vs.drop off).take d1.length) with
        | false=>simp
        | true=>simp only [Bool.not_true,Bool.false_eq_true,if_false,Bool.true_and];exact e4
       ·cases h
   have:=key fs.toList 0 ds us vs hfl (by simpa using hu) (by simpa using hv) (Nat.zero_le _) (Nat.zero_le _)
   simpa using this
theorem Id (em:Bool):∀(m:Nat) (T:TypeId) (ds:List TypeDesc),Dh P m T=some ds ->∀(d:Nat) (us:List Value),BP ds us ->∀w,(Instr.checkKey em (d+m) T (O2 P T us)).run P w= .ok () w
 | 0,_,_,h=>by cases h
 | m+1,T,ds,h=>fun d us hu w=>by
  cases hs:H5 P T with
  | false=>
   obtain ⟨d',rfl,hd,hk⟩:=Gi h hs;obtain ⟨u,rfl⟩:=List.length_eq_one_iff.1 hu.1;have k1:=hu.2 0 d' u Z Z;simp only [O2,hs,List.headD_cons];exact MapKept.run_checkKey hd k1 em (d+m)
  | true=>
   obtain ⟨m',fs,hm,hd,hfl,hz,hst⟩:=Gh h hs;injection hm with hm;subst hm
   simp only [O2,hs];rw [←Nat.add_assoc];simp only [Instr.checkKey,Sem.run_bind,run_underlying hd,Result.andThen_ok];rw [←Array.forIn_toList];have h0:BP ds (us.drop 0):=by simpa using hu
   have hou:0≤us.length:=Nat.zero_le _
   clear h hs hz hu hd hst
   generalize fs.toList=fl at hfl⊢
   generalize (0:Nat)=off at hfl h0 hou
   induction fl generalizing off ds with
   | nil=>rfl
   | cons f fl ih=>
    simp only [JE] at hfl
    split at hfl
    ·cases hfl
    ·rename_i d1 h1
     split at hfl
     ·cases hfl
     ·rename_i r hr
      split at hfl
      ·rename_i hb
       injection hfl with hfl;subst hfl
       simp only [Bool.and_eq_true] at hb;have hoff:=Nat.eq_of_beq_eq_true hb.1;have hname:f.name≠ "_" :=by simpa using hb.2
       have lu:=h0.1;rw [List.length_append,List.length_drop] at lu;have hl1:off+d1.length≤us.length:=by omega
       obtain ⟨u1,u2⟩:=h0.split;rw [List.drop_drop] at u2;have e1:=Fe h1 w us off hl1;have e3:=Id em m f.type d1 h1 d _ u1 w;have e4:=ih r (off+d1.length) hr u2 hl1;rw [List.forIn_cons];simp only [hname,ne_eq,not_false_eq_true,if_true,hoff,Sem.run_bind,e1,e3,Result.andThen_ok,Sem.run_pure] at e4⊢;exact e4
      ·cases hfl
theorem HS {d:TypeDesc} {u:Value} (h:MapKept.IsKey d u) (n:Nat):Instr.sameBits n u u=true:=by
 cases d<;>cases u<;>simp only [MapKept.IsKey] at h<;>cases n<;>simp [Instr.sameBits]<;>exact (beq_toListBytes _ _).trans (by simp)
theorem ST {m:Nat} {T:TypeId} {ds:List TypeDesc} (h:Dh P m T=some ds) {us:List Value} (hu:BP ds us) (w:World):(Instr.keyThatStays (O2 P T us) (O2 P T us)).run P w= .ok (O2 P T us) w:=by
 have:Instr.sameBits 10000 (O2 P T us) (O2 P T us)=true:=by
  cases hs:H5 P T with
  | false=>
   obtain ⟨d',rfl,hd,hk⟩:=Gi h hs;obtain ⟨u,rfl⟩:=List.length_eq_one_iff.1 hu.1;simp only [O2,hs,List.headD_cons];exact HS (hu.2 0 d' u Z Z) _
  | true=>
   simp only [O2,hs];show Instr.sameBits (9999+1) _ _=true;simp only [Instr.sameBits,beq_self_eq_true,Bool.true_and,List.all_eq_true];intro p hp;obtain ⟨i,hi,e⟩:=List.getElem_of_mem hp;rw [List.getElem_zip] at e;rw [←e]
   simp only
   have hi':i<us.length:=by simpa using hi
   have hd:i<ds.length:=by rw [←hu.1];exact hi'
   exact HS (hu.2 i ds[i] us[i] (List.getElem?_eq_getElem hd) (List.getElem?_eq_getElem hi')) _
 simp [Instr.keyThatStays,this]
theorem Bo.flat {α:Type} [DecidableEq α] {K:TypeId} {eK:α ->D} {cl:α ->List Value} {ds:List TypeDesc} (hf:Dh P 8 K=some ds) (hs:H5 P K=true) (hv:∀a,(eK a).val?=some (.agg (cl a).toArray)) (hp:∀a,BP ds (cl a)) (he:∀a b,B9 (cl a) (cl b)=decide (a=b)):Bo P K eK fun a=> .agg (cl a).toArray:=by
 have hm:∀a,O2 P K (cl a)= .agg (cl a).toArray:=fun a=>by simp only [O2,hs]
 obtain ⟨m',fs,_,hd,_⟩:=Gh hf hs;refine Bo.asking hd hv (fun w em a=>?_) (fun w a b=>?_) (fun a b=>by simp [Instr.sameNow]) (fun w a=>?_)
 ·have:=Id em 8 K ds hf 9992 (cl a) (hp a) w
  rwa [hm] at this
 ·have:=Gk 8 K ds hf 9992 (cl a) (cl b) (hp a) (hp b) w;rw [hm,hm,he] at this;exact this
 ·have:=ST hf (hp a) w
  rwa [hm] at this
end
theorem IL:∀a b:List UInt8,Op.bytesLess b a=(!Op.bytesLess a b && !a==b)
 | [],[]=>rfl
 | [],_::_=>rfl
 | _::_,[]=>rfl
 | x::a,y::b=>by
  have ih:=IL a b;rcases Nat.lt_trichotomy x.toNat y.toNat with h | h | h
  ·have h1:x<y:=UInt8.lt_iff_toNat_lt.2 h;have h2:¬y<x:=fun h'=>by have:=UInt8.lt_iff_toNat_lt.1 h';omega
   have h3:y≠x:=fun e=>by subst e;omega
   simp [Op.bytesLess,h1,h2,h3]
  ·have h1:x=y:=UInt8.toNat_inj.1 h;subst h1;have h2:¬x<x:=fun h'=>by have:=UInt8.lt_iff_toNat_lt.1 h';omega
   simp [Op.bytesLess,h2,ih]
  ·have h1:y<x:=UInt8.lt_iff_toNat_lt.2 h;have h2:¬x<y:=fun h'=>by have:=UInt8.lt_iff_toNat_lt.1 h';omega
   have h3:x≠y:=fun e=>by subst e;omega
   simp [Op.bytesLess,h1,h2,h3]
section
variable {P:Program} {F:Fr} {s:AS} {d:Nat} {ty T T':TypeId} {pos:String} {aft:Array Edge} {g:Option (Nat×Bool)} {x y:Operand}
theorem SB {a b:ByteArray} (hx:s.ev x=some (.d (.raw (.string a)))) (hy:s.ev y=some (.d (.raw (.string b)))) (hd:Nat.blt d s.n=true):AA P F ⟨some d,.binOp .gtr T x y T',ty,pos,aft,g⟩ s d (.d (.raw (.bool (Op.bytesLess b.toList a.toList)))):=
 C1 _ hd fun _ act _ hs=>⟨.bool (Op.bytesLess b.toList a.toList),by simp [execOp,eqGuard,binOp,Op.stringOp,hs.raw hx,hs.raw hy,IL a.toList b.toList],.d (.raw rfl)⟩
theorem MN {a b:D} {la lb:List Value} {ds:List TypeDesc} {t:Bool} (hf:Dh P 8 T=some ds) (hs:H5 P T=true) (hg:P.eqGuardType P.depth T=false) (hx:s.ev x=some (.d a)) (hy:s.ev y=some (.d b)) (ha:a.val?=some (.agg la.toArray)) (hb:b.val?=some (.agg lb.toArray)) (p1:BP ds la) (p2:BP ds lb) (ht:B9 la lb=t) (hd:Nat.blt d s.n=true):
  AA P F ⟨some d,.binOp .eql T x y T',ty,pos,aft,g⟩ s d (.d (.raw (.bool t))):=
 C1 _ hd fun ρ act w hs'=>by
  have e1:=(hs'.repD hx).val ha;have e2:=(hs'.repD hy).val hb;have:=Gk 8 T ds hf 9992 la lb p1 p2 w;simp only [O2,hs,ht] at this;exact ⟨.bool t,by simp [execOp,e1,e2,run_eqGuard_agg w .eql T x y _ _ hg,run_eql_struct,this,Result.andThen],.d (.raw rfl)⟩
end
end Go.Proofs.YtnkkaeblokdifaaGreat
