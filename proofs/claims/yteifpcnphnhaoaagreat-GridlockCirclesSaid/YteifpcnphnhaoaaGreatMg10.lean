import Derived.Test.YteifpcnphnhaoaaGreatMg9
import Derived.Maps.RangeRun
import Derived.Laws.StructEq
import Derived.WideLaws
namespace Go.Proofs.YteifpcnphnhaoaaGreat
open Go.RowKit
def Ra:List D ->Option (List Value)
 | []=>some []
 | d::r=>match Ra r with
  | none=>none
  | some l=>match d with
   | .raw v=>some (v::l)
   | _=>none
def D.val?:D ->Option Value
 | .raw v=>some v
 | .agg cs=>match Ra cs with
  | none=>none
  | some l=>some (.agg l.toArray)
 | _=>none
theorem Mf {w:World} {O:Nat ->Prop}:∀{cs:List D} {l vs:List Value},Ra cs=some l ->vs.length=cs.length ->(∀(i:Nat) c v,cs[i]? =some c ->vs[i]? =some v ->AQ w O c v) ->vs=l
 | [],l,vs,h,hl,_=>by
  simp only [Ra,Option.some.injEq] at h;subst h;exact ωt hl
 | d::r,l,vs,h,hl,hr=>by
  simp only [Ra] at h
  split at h
  ·cases h
  ·rename_i l' hl'
   split at h
   ·rename_i v
    injection h with h;subst h
    match vs,hl with
    | u::us,hl=>
     have h0:=hr 0 _ u Z Z
     cases h0 with
     | raw _=>rw [Mf (w:=w) (O:=O) (vs:=us) hl' (by simpa using hl) fun i c v hc hv=>hr (i+1) c v (by simpa using hc) (by simpa using hv)]
   ·cases h
theorem AQ.val {w:World} {O:Nat ->Prop} {d:D} {v v':Value} (h:AQ w O d v) (hv:d.val? =some v'):v=v':=by
 cases d with
 | raw u=>simp only [D.val?,Option.some.injEq] at hv;subst hv;cases h;rfl
 | agg cs=>
  simp only [D.val?] at hv
  split at hv
  ·cases hv
  ·rename_i l hl
   injection hv with hv;subst hv
   cases h with
   | agg h1 _ h3=>rw [Mf hl h1 h3]
 | _=>cases hv
section
variable {α:Type} [DecidableEq α]
def I9 (a:α):List α ->List MapEntry ->Nat ->Option (Nat×Value)
 | b::r,e::es,i=>if a=b then some (i,e.val) else I9 a r es (i+1)
 | _,_,_=>none
theorem PS {a:α}:∀{l:List α} {es:List MapEntry} {i:Nat},es.length=l.length ->I9 a l es i=none ->a∉l
 | [],_,_,_,_=>by simp
 | b::r,[],_,h,_=>by simp at h
 | b::r,e::es,i,h,hh=>by
  simp only [I9] at hh
  split at hh
  ·cases hh
  ·rename_i hne
   simp only [Ψ,not_or];exact ⟨hne,PS (by simpa using h) hh⟩
theorem PR {a:α}:∀{l:List α} {es:List MapEntry} {i j:Nat} {v:Value},I9 a l es i=some (j,v) ->i≤j∧l[j - i]? =some a∧(∃e,es[j - i]? =some e∧e.val=v)∧∀k,k<j - i ->l[k]?≠some a
 | [],[],_,_,_,h=>by simp [I9] at h
 | [],_::_,_,_,_,h=>by simp [I9] at h
 | b::r,[],i,_,_,h=>by simp [I9] at h
 | b::r,e::es,i,j,v,h=>by
  simp only [I9] at h
  split at h
  ·rename_i heq
   injection h with h;injection h with h1 h2;subst h1 h2 heq
   refine ⟨ν _,by simp,⟨e,by simp,Z⟩,fun k hk=>by omega⟩
  ·rename_i hne
   obtain ⟨h1,h2,⟨e',h3,h4⟩,h5⟩:=PR h;have he:j - i=(j - (i+1))+1:=by omega
   refine ⟨by omega,by rw [he];simpa using h2,⟨e',by rw [he];simpa using h3,h4⟩,fun k hk=>?_⟩
   cases k with
   | zero=>simp;exact fun e=>hne e.symm
   | succ k=>simpa using h5 k (by omega)
structure Ba (P:Program) (K:TypeId) (eK:α ->D) (kv:α ->Value):Prop where
 val:∀a,(eK a).val? =some (kv a)
 check:∀w em a,(Instr.checkKey em 10000 K (kv a)).run P w= .ok () w
 find:∀w a (es:List MapEntry) (l:List α),es.map (·.key)=l.map kv ->(Instr.findKey K (kv a) es).run P w= .ok (I9 a l es 0) w
 stays:∀w a,(Instr.keyThatStays (kv a) (kv a)).run P w= .ok (kv a) w
theorem LW {d:TypeDesc} {kv:α ->Value} (hs:∀a b,Instr.sameNow d (kv a) (kv b)=some (decide (a=b))) (a:α):∀(l:List α) (es:List MapEntry) (i:Nat),es.map (·.key)=l.map kv ->Instr.findNow d (kv a) es i=some (I9 a l es i)
 | [],[],i,_=>rfl
 | [],_::_,_,h=>by simp at h
 | _::_,[],_,h=>by simp at h
 | b::r,e::es,i,h=>by
  simp only [ωm,List.cons.injEq] at h;simp only [Instr.findNow,h.1,hs,I9]
  by_cases hab:a=b
  ·simp [hab]
  ·simp only [hab,decide_false,if_false];exact LW hs a r es (i+1) h.2
theorem Hm {P:Program} {K:TypeId} {kv:α ->Value} (hs:∀w a b,(Op.equal K (kv a) (kv b)).run P w= .ok (decide (a=b)) w) (w:World) (a:α):∀(l:List α) (es:List MapEntry) (i:Nat),es.map (·.key)=l.map kv ->(Instr.findAsking K (kv a) es i).run P w= .ok (I9 a l es i) w
 | [],[],i,_=>rfl
 | [],_::_,_,h=>by simp at h
 | _::_,[],_,h=>by simp at h
 | b::r,e::es,i,h=>by
  simp only [ωm,List.cons.injEq] at h;simp only [Instr.findAsking,Sem.run_bind,h.1,hs,Result.andThen_ok,I9]
  by_cases hab:a=b
  ·simp [hab]
  ·simp only [hab,decide_false,Bool.false_eq_true,if_false];exact Hm hs w a r es (i+1) h.2
theorem Ba.plain {P:Program} {K:TypeId} {eK:α ->D} {kv:α ->Value} {d:TypeDesc} (hd:P.underlying K=some d) (hv:∀a,(eK a).val? =some (kv a)) (hk:∀a,MapKept.IsKey d (kv a)) (hs:∀a b,Instr.sameNow d (kv a) (kv b)=some (decide (a=b))):Ba P K eK kv where
 val:=hv
 check _ em a:=MapKept.run_checkKey hd (hk a) em 9999
 find _ a es l h:=MapKept.run_findKey hd (LW hs a l es 0 h)
 stays _ a:=MapKept.run_keyThatStays (hk a)
theorem Ba.asking {P:Program} {K:TypeId} {eK:α ->D} {kv:α ->Value} {d:TypeDesc} (hd:P.underlying K=some d) (hv:∀a,(eK a).val? =some (kv a)) (hc:∀w em a,(Instr.checkKey em 10000 K (kv a)).run P w= .ok () w) (hs:∀w a b,(Op.equal K (kv a) (kv b)).run P w= .ok (decide (a=b)) w) (hn:∀a b,Instr.sameNow d (kv a) (kv b)=none) (ht:∀w a,(Instr.keyThatStays (kv a) (kv a)).run P w= .ok (kv a) w):Ba P K eK kv where
 val:=hv
 check:=hc
 find w a es l h:=by
  simp only [Instr.findKey,Sem.run_bind,run_underlying hd,Result.andThen_ok]
  cases es with
  | nil=>
   cases l with
   | nil=>rfl
   | cons _ _=>simp at h
  | cons e es=>
   cases l with
   | nil=>simp at h
   | cons b r=>
    have h':=h;simp only [ωm,List.cons.injEq] at h;simp only [Instr.findNow,h.1,hn];exact Hm hs w a _ _ 0 h'
 stays:=ht
variable {β:Type}
def A7:List (α×β) ->α ->β ->β
 | [],_,z=>z
 | (k,b)::r,a,z=>if a=k then b else A7 r a z
def Mv:List (α×β) ->α ->Bool
 | [],_=>false
 | (k,_)::r,a=>decide (a=k) || Mv r a
def Aw:List (α×β) ->α ->β ->List (α×β)
 | [],a,b=> [(a,b)]
 | (k,b')::r,a,b=>if a=k then (k,b)::r else (k,b')::Aw r a b
def mix:List (α×β) ->α ->Nat
 | [],_=>0
 | (k,_)::r,a=>if a=k then 0 else mix r a+1
def BY (m:List (α×β)) (a:α) (z:β):List (α×β):=Aw m a (A7 m a z)
theorem He (m:List (α×β)) (a a':α) (b z:β):A7 (Aw m a b) a' z=if a'=a then b else A7 m a' z:=by
 induction m with
 | nil=>simp [Aw,A7]
 | cons p r ih=>
  obtain ⟨k,b'⟩:=p;simp only [Aw]
  by_cases h:a=k
  ·subst h
   by_cases h2:a'=a<;>simp [A7,h2]
  ·simp only [h,if_false,A7,ih]
   by_cases h2:a'=k
   ·subst h2;simp [Ne.symm h]
   ·simp [h2]
theorem Dl (m:List (α×β)) (a a':α) (z:β):A7 (BY m a z) a' z=A7 m a' z:=by
 rw [BY,He]
 split
 ·rename_i h;rw [h]
 ·rfl
theorem UW (m:List (α×β)) (a:α) (b z:β):Aw (BY m a z) a b=Aw m a b:=by
 unfold BY
 generalize A7 m a z=c
 induction m with
 | nil=>simp [Aw]
 | cons p r ih=>
  obtain ⟨k,b'⟩:=p
  by_cases h:a=k
  ·subst h;simp [Aw]
  ·simp [Aw,h,ih]
theorem Kj (m:List (α×β)) (a:α) (z:β):mix (BY m a z) a=mix m a:=by
 unfold BY
 generalize A7 m a z=c
 induction m with
 | nil=>simp [Aw,mix]
 | cons p r ih=>
  obtain ⟨k,b'⟩:=p
  by_cases h:a=k
  ·subst h;simp [Aw,mix]
  ·simp [Aw,mix,h,ih]
theorem Ly {m:List (α×β)} {a:α} {b:β}:(Aw m a b)[mix m a]? =some (a,b)∧∀j,j≠mix m a ->(Aw m a b)[j]? =m[j]?:=by
 induction m with
 | nil=>
  refine ⟨by simp [Aw,mix],fun j hj=>?_⟩
  cases j with
  | zero=>simp [mix] at hj
  | succ j=>simp [Aw]
 | cons p r ih=>
  obtain ⟨k,b'⟩:=p
  by_cases h:a=k
  ·subst h;refine ⟨by simp [Aw,mix],fun j hj=>?_⟩
   cases j with
   | zero=>simp [mix] at hj
   | succ j=>simp [Aw]
  ·refine ⟨by simp [Aw,mix,h,ih.1],fun j hj=>?_⟩
   cases j with
   | zero=>simp [Aw,h]
   | succ j=>simpa [Aw,h] using ih.2 j (by simpa [mix,h] using hj)
theorem J9 {m:List (α×β)} {a:α} {b:β}:(Aw m a b).length=max m.length (mix m a+1)∧mix m a≤m.length:=by
 induction m with
 | nil=>simp [Aw,mix]
 | cons p r ih=>
  obtain ⟨k,b'⟩:=p
  by_cases h:a=k
  ·subst h;simp [Aw,mix]
  ·simp only [Aw,mix,h,if_false,ψo];omega
theorem FF {m:List (α×β)} {a:α}:Mv m a=true↔a∈m.map Prod.fst:=by
 induction m with
 | nil=>simp [Mv]
 | cons p r ih=>obtain ⟨k,b⟩:=p;simp [Mv,ih]
theorem Ki {m:List (α×β)} {a:α} {b:β}:(Aw m a b).map Prod.fst=if a∈m.map Prod.fst then m.map Prod.fst else m.map Prod.fst++ [a]:=by
 induction m with
 | nil=>simp [Aw]
 | cons p r ih=>
  obtain ⟨k,b'⟩:=p
  by_cases h:a=k
  ·subst h;simp [Aw]
  ·simp only [Aw,h,if_false,ωm,Ψ,false_or,ih]
   split<;>simp
theorem Mu {m:List (α×β)} {a:α} {b:β} (h:(m.map Prod.fst).Nodup):((Aw m a b).map Prod.fst).Nodup:=by
 rw [Ki]
 split
 ·exact h
 ·rename_i hn
  rw [χn];exact ⟨h,by simp,fun x hx y hy=>by simp at hy;subst hy;rintro rfl;exact hn hx⟩
theorem DJ {m:List (α×β)} {a:α} {b z:β} (hn:(m.map Prod.fst).Nodup) (h:(a,b)∈m):A7 m a z=b:=by
 induction m with
 | nil=>cases h
 | cons p r ih=>
  obtain ⟨k,b'⟩:=p;simp only [ωm,φc] at hn;simp only [A7];rcases Ψ.1 h with h' | h'
  ·injection h' with h1 h2;subst h1 h2;simp
  ·have hne:a≠k:=fun e=>by subst e;exact hn.1 (χj (f:=Prod.fst) h')
   rw [ϑ hne];exact ih hn.2 h'
theorem IQ {m:List (α×β)} {a:α} {z:β} (h:a∉m.map Prod.fst):A7 m a z=z:=by
 induction m with
 | nil=>rfl
 | cons p r ih=>
  obtain ⟨k,b'⟩:=p;simp only [ωm,Ψ,not_or] at h;simp only [A7,h.1,if_false];exact ih h.2
theorem Hf {m:List (α×β)} {a:α} {z:β} (h:a∈m.map Prod.fst):(a,A7 m a z)∈m:=by
 induction m with
 | nil=>simp at h
 | cons p r ih=>
  obtain ⟨k,b'⟩:=p
  by_cases e:a=k
  ·subst e;simp [A7]
  ·simp only [ωm,Ψ,e,false_or] at h;simp only [A7,e,if_false];exact ωn _ (ih h)
def Bt (m:List (α×β)) (B seen:List Nat):List (α×β):=((m.zip B).filter fun p=>!(seen.contains p.2)).map Prod.fst
omit [DecidableEq α] in
theorem DK {m:List (α×β)} {B:List Nat} (h:B.length=m.length):Bt m B []=m:=by
 unfold Bt;rw [List.filter_eq_self.2 (by simp)];exact List.map_fst_zip (by omega)
omit [DecidableEq α] in
theorem SI:∀{m:List (α×β)} {B seen:List Nat} {j b:Nat} {x:α×β},B.Nodup ->m[j]? =some x ->B[j]? =some b ->b∉seen ->(Bt m B seen).Perm (x::Bt m B (seen++ [b]))
 | [],_,_,_,_,_,_,h,_,_=>by simp at h
 | y::m,[],_,_,_,_,_,_,h,_=>by simp at h
 | y::m,c::B,seen,j,b,x,hn,hx,hb,hs=>by
  simp only [φc] at hn
  cases j with
  | zero=>
   simp at hx hb;subst hx hb
   have e:∀(m:List (α×β)) (B:List Nat),c∉B ->Bt m B (seen++ [c])=Bt m B seen:=fun m B h=>by
    unfold Bt
    congr 1
    refine χp fun p hp=>?_;have:p.2≠c:=fun e=>h (by rw [←e];exact (List.of_mem_zip hp).2)
    simp [this]
   have h1:Bt (y::m) (c::B) seen=y::Bt m B seen:=by simp [Bt,hs]
   have h2:Bt (y::m) (c::B) (seen++ [c])=Bt m B (seen++ [c]):=by simp [Bt]
   rw [h1,h2,e m B hn.1]
  | succ j=>
   have ih:=SI (seen:=seen) hn.2 (by simpa using hx) (by simpa using hb) hs;have hbB:b∈B:=ζ (by simpa using hb);have hcb:c≠b:=fun e=>hn.1 (by rw [e];exact hbB)
   by_cases hcs:c∈seen
   ·have h1:Bt (y::m) (c::B) seen=Bt m B seen:=by simp [Bt,hcs]
    have h2:Bt (y::m) (c::B) (seen++ [b])=Bt m B (seen++ [b]):=by simp [Bt,hcs]
    rw [h1,h2];exact ih
   ·have h1:Bt (y::m) (c::B) seen=y::Bt m B seen:=by simp [Bt,hcs]
    have h2:Bt (y::m) (c::B) (seen++ [b])=y::Bt m B (seen++ [b]):=by simp [Bt,hcs,hcb]
    rw [h1,h2];exact (List.Perm.cons _ ih).trans (List.Perm.swap _ _ _)
end
def Yc:Value ->Option AV
 | .agg cs=>match Gt cs.toList with
  | none=>none
  | some l=>Is l
 | v=>Hr v
def Ce (P:Program) (T:TypeId):Option AV:=match P.info? T with
 | none=>none
 | some i=>match i.zero with
  | none=>none
  | some z=>Yc z
theorem Tp {v:Value} {a:AV} (h:Yc v=some a) (w:World) (O:Nat ->Prop) (ρ:Nat ->Nat ->Value):AW w O ρ a v:=by
 unfold Yc at h
 split at h
 ·rename_i cs
  split at h
  ·cases h
  ·rename_i l hl
   obtain ⟨h1,h2⟩:=Ca hl w O ρ;have:=F8 (w:=w) (O:=O) (ρ:=ρ) h h1 h2
   simpa using this
 ·exact (K6 h).1
theorem ED {P:Program} {T:TypeId} {a:AV} (h:Ce P T=some a) (w:World):∃z,(zeroValue T).run P w= .ok z w∧∀(w':World) O ρ,AW w' O ρ a z:=by
 unfold Ce at h
 split at h
 ·cases h
 ·rename_i i hi
  split at h
  ·cases h
  ·rename_i z hz
   exact ⟨z,by simp [zeroValue,typeInfo,hi,hz],fun w' O ρ=>Tp h w' O ρ⟩
def B8 (P:Program) (T K E:TypeId):Bool:=match P.underlying T with
 | some (.map k e)=>Nat.beq k K && Nat.beq e E
 | _=>false
theorem VA {P:Program} {T K E:TypeId} (h:B8 P T K E=true):P.underlying T=some (.map K E):=by
 unfold B8 at h
 split at h
 ·rename_i k e hk
  simp only [ωa] at h;rw [hk,ωf h.1,ωf h.2]
 ·cases h
section
variable {α β:Type} [DecidableEq α]
def BO (eK:α ->D) (eV:β ->D) (m:List (α×β)):List (D×D):=m.map fun x=>(eK x.1,eV x.2)
def BL (eK:α ->D) (eV:β ->D) (m:List (α×β)):AL:= .map (some (List.range m.length,m.length)) (BO eK eV m)
variable {P:Program} {F:Fr} {s:AS} {K:TypeId} {eK:α ->D} {kv:α ->Value} {eV:β ->D}
theorem Wb (KT:Ba P K eK kv) {w:World} {O:Nat ->Prop} {m:List (α×β)} {arr:Array MapEntry} (hz:arr.size=(BO eK eV m).length)
  (h:∀(i:Nat) e x,arr[i]? =some e ->(BO eK eV m)[i]? =some x ->AQ w O x.1 e.key∧AQ w O x.2 e.val):arr.toList.map (·.key)=(m.map Prod.fst).map kv:=by
 simp only [BO,ψ] at hz;refine χq fun i=>?_;simp only [η,ψm]
 cases ha:arr[i]? with
 | none=>
  have:arr.size≤i:=Array.getElem?_eq_none_iff.1 ha;rw [ωw (by omega)];rfl
 | some e=>
  have hlt:i<m.length:=by have:=(ωr.1 ha).1;omega
  rw [ω hlt];have h1:=(h i e (eK m[i].1,eV m[i].2) ha (by simp [BO,hlt])).1;simp only [ψz,Option.some.injEq];exact h1.val (KT.val _)
theorem hit_get (KT:Ba P K eK kv) {w:World} {O:Nat ->Prop} {m:List (α×β)} {arr:Array MapEntry} (hz:arr.size=(BO eK eV m).length)
  (h:∀(i:Nat) e x,arr[i]? =some e ->(BO eK eV m)[i]? =some x ->AQ w O x.1 e.key∧AQ w O x.2 e.val) (a:α) (z:β):
  (I9 a (m.map Prod.fst) arr.toList 0=none∧Mv m a=false∧A7 m a z=z∧mix m a=m.length)∨∃i e,I9 a (m.map Prod.fst) arr.toList 0=some (i,e.val)∧arr[i]? =some e∧e.key=kv a∧Mv m a=true∧mix m a=i∧i<m.length∧AQ w O (eV (A7 m a z)) e.val:=by
 have hlen:arr.toList.length=(m.map Prod.fst).length:=by simpa [BO] using hz
 cases hh:I9 a (m.map Prod.fst) arr.toList 0 with
 | none=>
  have hn:=PS hlen hh;refine .inl ⟨Z,?_,IQ hn,?_⟩
  ·cases hm:Mv m a with
   | false=>rfl
   | true=>exact absurd (FF.1 hm) hn
  ·clear hh hlen hz h
   induction m with
   | nil=>rfl
   | cons p r ih=>
    obtain ⟨k,b⟩:=p;simp only [ωm,Ψ,not_or] at hn
    simp [mix,hn.1,ih hn.2]
 | some q=>
  obtain ⟨i,v⟩:=q;obtain ⟨_,h2,⟨e,h3,h4⟩,h5⟩:=PR hh;simp only [Nat.sub_zero,ψm] at h2 h3 h5;rw [η] at h2
  have hi:i<m.length:=by
   cases hm:m[i]? with
   | none=>rw [hm] at h2;cases h2
   | some x=>exact (χ.1 hm).1
  have hx:(m[i]).1=a:=by rw [ω hi] at h2;simpa using h2
  have hkey:mix m a=i∧A7 m a z=(m[i]).2:=by
   clear hh hlen hz h h3 h4
   induction m generalizing i with
   | nil=>simp at hi
   | cons p r ih=>
    obtain ⟨k,b⟩:=p
    cases i with
    | zero=>simp at hx;subst hx;simp [mix,A7]
    | succ i=>
     have hne:a≠k:=fun e=>h5 0 (by omega) (by simp [e]);have h5':∀k',k'<i ->(r.map Prod.fst)[k']?≠some a:=fun k' hk'=>by simpa using h5 (k'+1) (by omega)
     have:=ih i (ς _) (by rw [χw] at h2;exact h2) h5' (by simpa using hi) (by simpa using hx)
     simp [mix,A7,hne,this]
  obtain ⟨g1,g2⟩:=h i e (eK m[i].1,eV m[i].2) h3 (by simp [BO,hi]);refine .inr ⟨i,e,by rw [←h4],h3,?_,FF.2 (by rw [←hx];exact χj (κ hi)),hkey.1,hi,by rw [hkey.2];exact g2⟩;have:=g1.val (KT.val _);rw [this,hx]
variable {d:Nat} {ty T E:TypeId} {pos:String} {aft:Array Edge} {g:Option (Nat×Bool)} {x y z:Operand} {bs:Option (List Nat×Nat)}
def Ja:AL ->Option (Option (List Nat×Nat)×List (D×D))
 | .map bs es=>some (bs,es)
 | .nm _ bs es=>some (bs,es)
 | _=>none
theorem An.mapO {w:World} {O:Nat ->Prop} {ρ:Nat ->Nat ->Value} {o:AL} {v:Value} {es:List (D×D)} (h:An w O ρ o v) (ho:Ja o=some (bs,es)):
  ∃(mb:Nat) (arr:Array MapEntry) (c:Nat),v= .map (some mb)∧w.heap[mb]? =some (.map arr c)∧arr.size=es.length∧(∀(i:Nat) e x,arr[i]? =some e ->es[i]? =some x ->AQ w O x.1 e.key∧AQ w O x.2 e.val)∧
   (arr.toList.map (·.born)).Nodup∧(∀e∈arr.toList,e.born<c)∧∀B c',bs=some (B,c') ->B=arr.toList.map (·.born)∧c'=c:=by
 cases o with
 | map _ _=>simp only [Ja,Option.some.injEq,Prod.mk.injEq] at ho;obtain ⟨rfl,rfl⟩:=ho;exact h
 | nm b _ _=>simp only [Ja,Option.some.injEq,Prod.mk.injEq] at ho;obtain ⟨rfl,rfl⟩:=ho;exact ⟨b,h.2.choose,h.2.choose_spec.choose,h.1,h.2.choose_spec.choose_spec⟩
 | _=>cases ho
theorem SR.mapV {ρ:Nat ->Nat ->Value} {act:Act} {w:World} (hs:SR F s ρ act w) {f i:Nat} (hx:s.ev x=some (.map f i)):act.eval x=ρ f i:=by
 have hrx:=hs.ev hx
 generalize act.eval x=vx at hrx
 cases hrx with
 | map h=>exact h.symm
theorem SR.mapAt0 {ρ:Nat ->Nat ->Value} {act:Act} {w:World} (hs:SR F s ρ act w) {f i:Nat} {o:AL} {es:List (D×D)} (hx:act.eval x=ρ f i) (ho:hget s.hp f i=some o) (hmo:Ja o=some (bs,es)):
  ∃(mb:Nat) (arr:Array MapEntry) (c:Nat),act.eval x= .map (some mb)∧ρ f i= .map (some mb)∧w.heap[mb]? =some (.map arr c)∧arr.size=es.length∧(∀(i:Nat) e x,arr[i]? =some e ->es[i]? =some x ->AQ w (F.O ρ s.hp) x.1 e.key∧AQ w (F.O ρ s.hp) x.2 e.val)∧
   (arr.toList.map (·.born)).Nodup∧(∀e∈arr.toList,e.born<c)∧∀B c',bs=some (B,c') ->B=arr.toList.map (·.born)∧c'=c:=by
 obtain ⟨mb,arr,c,h1,h2⟩:=(hs.heap.sim f i _ ho).mapO hmo;exact ⟨mb,arr,c,hx.trans h1,h1,h2⟩
theorem SR.mapAt {ρ:Nat ->Nat ->Value} {act:Act} {w:World} (hs:SR F s ρ act w) {f i:Nat} {es:List (D×D)} (hx:s.ev x=some (.map f i)) (ho:hget s.hp f i=some (.map bs es)):
  ∃(mb:Nat) (arr:Array MapEntry) (c:Nat),act.eval x= .map (some mb)∧ρ f i= .map (some mb)∧w.heap[mb]? =some (.map arr c)∧arr.size=es.length∧(∀(i:Nat) e x,arr[i]? =some e ->es[i]? =some x ->AQ w (F.O ρ s.hp) x.1 e.key∧AQ w (F.O ρ s.hp) x.2 e.val)∧
   (arr.toList.map (·.born)).Nodup∧(∀e∈arr.toList,e.born<c)∧∀B c',bs=some (B,c') ->B=arr.toList.map (·.born)∧c'=c:=
 hs.mapAt0 (hs.mapV hx) ho rfl
theorem RO (m:List (α×β)) (a:α) (b0 v:β) {f i:Nat} {o:AL} (hx:∀ρ act w,SR F s ρ act w ->act.eval x=ρ f i) (ho:hget s.hp f i=some o) (hmo:Ja o=some (bs,BO eK eV m)) (hy:s.ev y=some (.d (eK a))) (hT:B8 P T K E=true) (KT:Ba P K eK kv) (hz:Ce P E=some (.d (eV b0))) (hv:A7 m a b0=v) (hd:Nat.blt d s.n=true):
  AA P F ⟨some d,.lookup T x y false,ty,pos,aft,g⟩ s d (.d (eV v)):=
 Cj _ hd fun ρ act w hs=>by
  obtain ⟨mb,arr,c,e1,_,h1,h2,h3,_⟩:=hs.mapAt0 (hx _ _ _ hs) ho hmo;have hk:act.eval y=kv a:=(hs.repD hy).val (KT.val a);obtain ⟨zv,hz1,hz2⟩:=ED hz w;subst hv;rcases hit_get KT h2 h3 a b0 with ⟨g1,_,g3,_⟩ | ⟨j,e,g1,g2,_,_,_,_,g7⟩
  ·refine ⟨zv,?_,by rw [g3];exact hz2 _ _ _⟩
   simp [execOp,Instr.lookup,run_underlying (VA hT),e1,hk,MapKept.run_getObj_map h1,KT.check,KT.find w a _ _ (Wb KT h2 h3),g1,hz1,Result.andThen]
  ·refine ⟨e.val,?_,.d g7⟩
   simp [execOp,Instr.lookup,run_underlying (VA hT),e1,hk,MapKept.run_getObj_map h1,KT.check,KT.find w a _ _ (Wb KT h2 h3),g1,Result.andThen]
theorem HQ (m:List (α×β)) (a:α) (b0 v:β) {f i:Nat} (hx:s.ev x=some (.map f i)) (ho:hget s.hp f i=some (.map bs (BO eK eV m))) (hy:s.ev y=some (.d (eK a))) (hT:B8 P T K E=true) (KT:Ba P K eK kv) (hz:Ce P E=some (.d (eV b0))) (hv:A7 m a b0=v) (hd:Nat.blt d s.n=true):
  AA P F ⟨some d,.lookup T x y false,ty,pos,aft,g⟩ s d (.d (eV v)):=
 RO m a b0 v (fun _ _ _ hs=>hs.mapV hx) ho Z hy hT KT hz hv hd
theorem Tx (m:List (α×β)) (a:α) (b0:β) {f i:Nat} {o:AL} (hx:∀ρ act w,SR F s ρ act w ->act.eval x=ρ f i) (ho:hget s.hp f i=some o) (hmo:Ja o=some (bs,BO eK eV m)) (hy:s.ev y=some (.d (eK a))) (hT:B8 P T K E=true) (KT:Ba P K eK kv) (hz:Ce P E=some (.d (eV b0))) (hd:Nat.blt d s.n=true):
  AA P F ⟨some d,.lookup T x y true,ty,pos,aft,g⟩ s d (.tup [.d (eV (A7 m a b0)),.d (.raw (.bool (Mv m a)))]):=
 Cj _ hd fun ρ act w hs=>by
  obtain ⟨mb,arr,c,e1,_,h1,h2,h3,_⟩:=hs.mapAt0 (hx _ _ _ hs) ho hmo;have hk:act.eval y=kv a:=(hs.repD hy).val (KT.val a);obtain ⟨zv,hz1,hz2⟩:=ED hz w
  have tup2:∀{v1 v2:Value} {a1 a2:AV},AW w (F.O ρ s.hp) ρ a1 v1 ->AW w (F.O ρ s.hp) ρ a2 v2 ->AW w (F.O ρ s.hp) ρ (.tup [a1,a2]) (.tuple #[v1,v2]):=fun {v1 v2 a1 a2} h1 h2=>by
   refine .tup (vs:=[v1,v2]) Z fun i a v ha hv=>?_;rcases i with _ | _ | i
   ·simp at ha hv;subst ha hv;exact h1
   ·simp at ha hv;subst ha hv;exact h2
   ·simp at ha
  rcases hit_get KT h2 h3 a b0 with ⟨g1,g2,g3,_⟩ | ⟨j,e,g1,g2,_,g4,_,_,g7⟩
  ·refine ⟨.tuple #[zv,.bool false],?_,tup2 (by rw [g3];exact hz2 _ _ _) (by rw [g2];exact .d (.raw Z))⟩
   simp [execOp,Instr.lookup,run_underlying (VA hT),e1,hk,MapKept.run_getObj_map h1,KT.check,KT.find w a _ _ (Wb KT h2 h3),g1,hz1,Result.andThen]
  ·refine ⟨.tuple #[e.val,.bool true],?_,tup2 (.d g7) (by rw [g4];exact .d (.raw Z))⟩
   simp [execOp,Instr.lookup,run_underlying (VA hT),e1,hk,MapKept.run_getObj_map h1,KT.check,KT.find w a _ _ (Wb KT h2 h3),g1,Result.andThen]
theorem Oa (m:List (α×β)) (a:α) (b0:β) {f i:Nat} (hx:s.ev x=some (.map f i)) (ho:hget s.hp f i=some (.map bs (BO eK eV m))) (hy:s.ev y=some (.d (eK a))) (hT:B8 P T K E=true) (KT:Ba P K eK kv) (hz:Ce P E=some (.d (eV b0))) (hd:Nat.blt d s.n=true):
  AA P F ⟨some d,.lookup T x y true,ty,pos,aft,g⟩ s d (.tup [.d (eV (A7 m a b0)),.d (.raw (.bool (Mv m a)))]):=
 Tx m a b0 (fun _ _ _ hs=>hs.mapV hx) ho Z hy hT KT hz hd
theorem Pb (f:Nat) {env':List (Nat×AV)} {hp1 hp':List (Nat×List AL)} (hE:AZ f s.env=some env') (hH:AX f s.hp=some hp1) (hn:CX hp1 f (.map (some ([],0)) [])=some hp') (hd:Nat.blt d s.n=true):
  AI P F ⟨some d,.makeMap T none,ty,pos,aft,g⟩ s ⟨s.n,(d,.map f 0)::env',hp'⟩ (BX f):=fun ρ act w hs=>by
 have hrun:(execOp act.eval ⟨some d,.makeMap T none,ty,pos,aft,g⟩).run P w= .ok (.value (.map (some w.heap.size))) (w.alloc (.map #[] 0)):=by
  simp [execOp,run_makeMap,Result.andThen]
 unfold Oper.wp;rw [hrun];have hsr:=hs.new f (.map (some ([],0)) []) (.map (some w.heap.size)) (.map #[] 0) hE hH hn Z (fun hrep=>⟨w.heap.size, #[],0,Z,heap_alloc_new w _,Z,by simp,by simp,by simp,fun B c' e=>by injection e with e;injection e with e1 e2;subst e1 e2;simp⟩);exact ⟨_,hsr.put (IB hd) (.map OW),fun f i h=>MN fun e=>Qc h e.1⟩
end
end Go.Proofs.YteifpcnphnhaoaaGreat
namespace Go.Proofs.YteifpcnphnhaoaaGreat
open Go.RowKit Go.ChangeMaps
section
variable {α β:Type} [DecidableEq α]
variable {P:Program} {F:Fr} {s:AS} {K:TypeId} {eK:α ->D} {kv:α ->Value} {eV:β ->D}
variable {d:Nat} {ty T E:TypeId} {pos:String} {aft:Array Edge} {g:Option (Nat×Bool)} {x y z:Operand} {bs:Option (List Nat×Nat)}
def Nh (m:List (α×β)) (a:α):Option (List Nat×Nat) ->Option (List Nat×Nat)
 | none=>none
 | some (B,c)=>if mix m a<m.length then some (B,c) else some (B++ [c],c+1)
theorem Hv (m:List (α×β)) (a:α) (b:β):Nh m a (some (List.range m.length,m.length))=some (List.range (Aw m a b).length,(Aw m a b).length):=by
 obtain ⟨h1,h2⟩:=J9 (m:=m) (a:=a) (b:=b);unfold Nh
 by_cases h:mix m a<m.length
 ·simp only [h,if_true,show (Aw m a b).length=m.length by omega]
 ·simp only [h,if_false,show (Aw m a b).length=m.length+1 by omega,ψj]
theorem G2 (_:Ba P K eK kv) {w w':World} {O O':Nat ->Prop} {ρ:Nat ->Nat ->Value} {m:List (α×β)} {a:α} {b:β} {arr arr':Array MapEntry} {c c' mb:Nat} {v:Value}
  (hz:arr.size=(BO eK eV m).length) (h:∀(i:Nat) e x,arr[i]? =some e ->(BO eK eV m)[i]? =some x ->AQ w O x.1 e.key∧AQ w O x.2 e.val)
  (hn:(arr.toList.map (·.born)).Nodup) (hb:∀e∈arr.toList,e.born<c) (hbs:∀B c',bs=some (B,c') ->B=arr.toList.map (·.born)∧c'=c)
  (hrep:∀A v,AW w O ρ A v ->AW w' O' ρ A v) (hv:AQ w' O' (eV b) v) (hkr:AQ w' O' (eK a) (kv a))
  (hcase:(mix m a=m.length∧arr'=arr.push {key:=kv a,val:=v,born:=c}∧c'=c+1)∨∃e,arr[mix m a]? =some e∧mix m a<m.length∧arr'=(arr.modify (mix m a) fun e=>{e with key:=kv a,val:=v})∧c'=c)
  (hblk:w'.heap[mb]? =some (.map arr' c')):An w' O' ρ (.map (Nh m a bs) (BO eK eV (Aw m a b))) (.map (some mb)):=by
 have hzm:arr.size=m.length:=by simpa [BO] using hz
 obtain ⟨l1,l2⟩:=J9 (m:=m) (a:=a) (b:=b);obtain ⟨p1,p2⟩:=Ly (m:=m) (a:=a) (b:=b)
 have hrepD:∀x v,AQ w O x v ->AQ w' O' x v:=fun x v hx=>by
  have:=hrep (.d x) v (.d hx)
  cases this with | d h=>exact h
 rcases hcase with ⟨hm,rfl,rfl⟩ | ⟨e0,he0,hlt,rfl,rfl⟩
 ·refine ⟨mb,_,_,Z,hblk,?_,fun i e x he hx=>?_,?_,fun e he=>?_,fun B c' hB=>?_⟩
  ·simp [BO];omega
  ·have hi:i<(Aw m a b).length:=by have:=(χ.1 hx).1;simpa [BO] using this
   by_cases hie:i=m.length
   ·subst hie;rw [Array.getElem?_push,θ hzm.symm] at he;injection he with he;subst he
    have:(BO eK eV (Aw m a b))[m.length]? =some (eK a,eV b):=by
     have:=p1;rw [hm] at this;simp [BO,this]
    rw [this] at hx;injection hx with hx;subst hx
    exact ⟨hkr,hv⟩
   ·rw [Array.getElem?_push,ϑ (by omega)] at he
    have hx':(BO eK eV m)[i]? =some x:=by
     have:=p2 i (by omega);simp only [BO,η,this] at hx⊢;exact hx
    obtain ⟨g1,g2⟩:=h i e x he hx';exact ⟨hrepD _ _ g1,hrepD _ _ g2⟩
  ·simp only [Array.toList_push,ωc,ωm,List.map_nil];rw [χn];refine ⟨hn,by simp,fun u hu v' hv'=>?_⟩
   simp at hv';subst hv'
   obtain ⟨e,he,rfl⟩:=ϱ.1 hu;have:=hb e he;omega
  ·simp only [Array.toList_push,υ,Ψ,List.not_mem_nil,or_false] at he;rcases he with he | rfl
   ·have:=hb e he;omega
   ·show c<c+1;omega
  ·cases bs with
   | none=>cases hB
   | some q=>
    obtain ⟨B0,c0⟩:=q;obtain ⟨rfl,rfl⟩:=hbs B0 c0 rfl;simp only [Nh,hm,χx,if_false,Option.some.injEq,Prod.mk.injEq] at hB;obtain ⟨rfl,rfl⟩:=hB
    simp
 ·have hie:∀(i:Nat) e,(arr.modify (mix m a) fun e=>{e with key:=kv a,val:=v})[i]? =some e ->∃e1,arr[i]? =some e1∧e=if i=mix m a then {e1 with key:=kv a,val:=v} else e1:=fun i e he=>by
   rw [ψv] at he
   split at he
   ·rename_i hh;subst hh
    rw [he0] at he;simp at he;subst he;exact ⟨e0,he0,by simp⟩
   ·rename_i hh;exact ⟨e,he,by rw [ϑ (fun hh'=>hh hh'.symm)]⟩
  have hborn:(arr.modify (mix m a) fun e=>{e with key:=kv a,val:=v}).toList.map (·.born)=arr.toList.map (·.born):=by
   refine χq fun i=>?_;simp only [η,ψm,ψv]
   split
   ·rename_i hh;subst hh;rw [he0];rfl
   ·rfl
  refine ⟨mb,_,_,Z,hblk,?_,fun i e x he hx=>?_,by rw [hborn];exact hn,fun e he=>?_,fun B c' hB=>?_⟩
  ·simp [BO];omega
  ·obtain ⟨e1,h1,rfl⟩:=hie i e he
   by_cases hii:i=mix m a
   ·subst hii;rw [θ rfl];have:(BO eK eV (Aw m a b))[mix m a]? =some (eK a,eV b):=by simp [BO,p1]
    rw [this] at hx;injection hx with hx;subst hx
    exact ⟨hkr,hv⟩
   ·rw [ϑ hii]
    have hx':(BO eK eV m)[i]? =some x:=by
     have:=p2 i hii;simp only [BO,η,this] at hx⊢;exact hx
    obtain ⟨g1,g2⟩:=h i e1 x h1 hx';exact ⟨hrepD _ _ g1,hrepD _ _ g2⟩
  ·have:e.born∈(arr.modify (mix m a) fun e=>{e with key:=kv a,val:=v}).toList.map (·.born):=χj (f:=(·.born)) he;rw [hborn] at this;obtain ⟨e1,h1,h2⟩:=ϱ.1 this;rw [←h2];exact hb e1 h1
  ·cases bs with
   | none=>cases hB
   | some q=>
    obtain ⟨B0,c0⟩:=q;simp only [Nh,hlt,if_true,Option.some.injEq,Prod.mk.injEq] at hB;obtain ⟨rfl,rfl⟩:=hB;rw [hborn];exact hbs _ _ rfl
theorem Zb8 {w:World} {b:Nat} {o:Obj} {i:Nat} (h:i≠b):(setBlock w b o).heap[i]? =w.heap[i]?:=by
 simp [setBlock,Ne.symm h]
theorem Zcw {w:World} {b:Nat} {o o':Obj} (h:w.heap[b]? =some o'):(setBlock w b o).heap[b]? =some o:=by
 have:=(ωr.1 h).1
 simp [setBlock,this]
theorem Zb5 {w:World} {b:Nat} {o:Obj}:(setBlock w b o).heap.size=w.heap.size:=by simp [setBlock]
theorem ZG (m:List (α×β)) (a:α) (b:β) {f i:Nat} {hp':List (Nat×List AL)} (hx:s.ev x=some (.map f i)) (ho:hget s.hp f i=some (.map bs (BO eK eV m))) (hy:s.ev y=some (.d (eK a))) (hT:B8 P T K E=true) (KT:Ba P K eK kv) (hz:s.ev z=some (.d (eV b)))
  (hh:BN s.hp f i (.map (Nh m a bs) (BO eK eV (Aw m a b)))=some hp'):AI P F ⟨none,.mapUpdate T x y z,ty,pos,aft,g⟩ s ⟨s.n,s.env,hp'⟩ (fun _ _=>true):=fun ρ act w hs=>by
 obtain ⟨mb,arr,c,e1,e2,h1,h2,h3,h4,h5,h6⟩:=hs.mapAt hx ho;have hk:act.eval y=kv a:=(hs.repD hy).val (KT.val a);have hkr:AQ w (F.O ρ s.hp) (eK a) (kv a):=hk▸hs.repD hy;have hvr:=hs.ev hz
 have fin:∀arr' c',(execOp act.eval ⟨none,.mapUpdate T x y z,ty,pos,aft,g⟩).run P w= .ok .skip (setBlock w mb (.map arr' c')) ->((mix m a=m.length∧arr'=arr.push {key:=kv a,val:=act.eval z,born:=c}∧c'=c+1)∨∃e,arr[mix m a]? =some e∧mix m a<m.length∧arr'=(arr.modify (mix m a) fun e=>{e with key:=kv a,val:=act.eval z})∧c'=c)→
   (⟨none,.mapUpdate T x y z,ty,pos,aft,g⟩:Oper).wp P act w (fun act' w'=>∃ρ',SR F ⟨s.n,s.env,hp'⟩ ρ' act' w'∧∀f i,(fun _ _=>true) f i=true ->ρ' f i=ρ f i) (fun _ _ _=>False):=fun arr' c' hrun hcase=>by
  unfold Oper.wp;rw [hrun];refine ⟨ρ,hs.write f i _ (.map (Nh m a bs) (BO eK eV (Aw m a b))) ho (Am hh) Z Z Z Zb5 (fun b' hb'=>Zb8 fun e=>hb' (by rw [e2,e];rfl)) (fun _ _ e=>by cases e) fun hrep=>?_,fun _ _ _=>rfl⟩;rw [e2];refine G2 KT h2 h3 h4 h5 h6 hrep (by have:=hrep _ _ hvr;cases this with | d h=>exact h) ?_ hcase (Zcw h1);have:=hrep (.d (eK a)) _ (.d hkr)
  cases this with | d h=>exact h
 rcases hit_get KT h2 h3 a b with ⟨g1,_,_,g4⟩ | ⟨j,e,g1,g2,g3,_,g5,g6,_⟩
 ·refine fin _ _ ?_ (.inl ⟨g4,Z,Z⟩)
  simp [execOp,Instr.mapUpdate,run_underlying (VA hT),e1,hk,MapKept.run_getObj_map h1,KT.check,KT.find w a _ _ (Wb KT h2 h3),g1,Result.andThen,MapKept.run_setObj_map _ h1,setBlock]
 ·refine fin _ _ ?_ (.inr ⟨e,by rw [g5];exact g2,by rw [g5];exact g6,Z,Z⟩)
  simp [execOp,Instr.mapUpdate,run_underlying (VA hT),e1,hk,MapKept.run_getObj_map h1,KT.check,KT.find w a _ _ (Wb KT h2 h3),g1,g2,g3,g5,Result.andThen,MapKept.run_setObj_map _ h1,setBlock,KT.stays]
theorem Tj {n:Nat} {env:List (Nat×AV)} {hp hp':List (Nat×List AL)} (m:List (α×β)) (a:α) (b:β) {f i:Nat} (hx:AS.ev ⟨n,env,hp⟩ x=some (.map f i)) (ho:hget hp f i=some (BL eK eV m)) (hy:AS.ev ⟨n,env,hp⟩ y=some (.d (eK a))) (hT:B8 P T K E=true) (KT:Ba P K eK kv) (hz:AS.ev ⟨n,env,hp⟩ z=some (.d (eV b)))
  (hh:BN hp f i (BL eK eV (Aw m a b))=some hp'):AI P F ⟨none,.mapUpdate T x y z,ty,pos,aft,g⟩ ⟨n,env,hp⟩ ⟨n,env,hp'⟩ (fun _ _=>true):=
 ZG (s:=⟨n,env,hp⟩) m a b hx ho hy hT KT hz (by rw [Hv (b:=b)];exact hh)
theorem GX {n:Nat} {env:List (Nat×AV)} {hp hp':List (Nat×List AL)} (m:List (α×β)) (a:α) (b0:β) {f i:Nat} (hx:AS.ev ⟨n,env,hp⟩ x=some (.map f i)) (ho:hget hp f i=some (BL eK eV m)) (hy:AS.ev ⟨n,env,hp⟩ y=some (.d (eK a))) (hT:B8 P T K E=true) (KT:Ba P K eK kv) (hz:Ce P E=some (.d (eV b0)))
  (hh:BN hp f i (BL eK eV (BY m a b0))=some hp') (hd:Nat.blt d n=true):AI P F ⟨some d,.mapEntry T x y,ty,pos,aft,g⟩ ⟨n,env,hp⟩ ⟨n,(d,.tup [.d (eV (A7 m a b0)),.d (.raw (.int .i64 (mix m a:Int)))])::env,hp'⟩ (fun _ _=>true):=fun ρ act w hs=>by
 obtain ⟨mb,arr,c,e1,e2,h1,h2,h3,h4,h5,h6⟩:=hs.mapAt hx ho;have hk:act.eval y=kv a:=(hs.repD hy).val (KT.val a);have hkr:AQ w (F.O ρ hp) (eK a) (kv a):=hk▸hs.repD hy;obtain ⟨zv,hz1,hz2⟩:=ED hz w;obtain ⟨hB,hc⟩:=h6 _ _ rfl;subst hc;have hzm:arr.size=m.length:=by simpa [BO] using h2
 have fin:∀arr' c' v,(execOp act.eval ⟨some d,.mapEntry T x y,ty,pos,aft,g⟩).run P w= .ok (.value (.tuple #[v,.int .i64 (mix m a:Int)])) (setBlock w mb (.map arr' c')) ->AQ w (F.O ρ hp) (eV (A7 m a b0)) v ->((mix m a=m.length∧arr'=arr.push {key:=kv a,val:=v,born:=m.length}∧c'=m.length+1)∨∃e,arr[mix m a]? =some e∧mix m a<m.length∧arr'=(arr.modify (mix m a) fun e=>{e with key:=kv a,val:=v})∧c'=m.length)→
   (⟨some d,.mapEntry T x y,ty,pos,aft,g⟩:Oper).wp P act w (fun act' w'=>∃ρ',SR F ⟨n,(d,.tup [.d (eV (A7 m a b0)),.d (.raw (.int .i64 (mix m a:Int)))])::env,hp'⟩ ρ' act' w'∧∀f i,(fun _ _=>true) f i=true ->ρ' f i=ρ f i) (fun _ _ _=>False):=fun arr' c' v hrun hvr hcase=>by
  unfold Oper.wp;rw [hrun]
  have hw:=hs.write f i _ (BL eK eV (BY m a b0)) (w':=setBlock w mb (.map arr' c')) ho (Am hh) Z Z Z Zb5 (fun b' hb'=>Zb8 fun e=>hb' (by rw [e2,e];rfl)) (fun _ _ e=>by cases e) fun hrep=>by
   rw [e2]
   have:=G2 (b:=A7 m a b0) KT h2 h3 h4 h5 h6 hrep (by have:=hrep (.d _) _ (.d hvr);cases this with | d h=>exact h) (by
    have:=hrep (.d (eK a)) _ (.d hkr)
    cases this with | d h=>exact h) hcase (Zcw h1)
   rw [Hv (b:=A7 m a b0)] at this;exact this
  have hrep:AQ (setBlock w mb (.map arr' c')) (F.O ρ hp') (eV (A7 m a b0)) v:=by
   have hO:∀b,F.O ρ hp' b ->F.O ρ hp b:=fun b hh'=>by
    rcases hh' with hh' | ⟨f',i',o1,g1,g2⟩
    ·exact .inl hh'
    ·refine .inr ?_
     by_cases e:f'=f∧i'=i
     ·obtain ⟨rfl,rfl⟩:=e;exact ⟨f',i',_,ho,g2⟩
     ·rw [Am hh,ϑ e] at g1;exact ⟨f',i',o1,g1,g2⟩
   exact hvr.mono (Nat.le_of_eq Zb5.symm) (fun b _ hn=>Zb8 fun e=>hn (.inr ⟨f,i,_,ho,by rw [e2,e];rfl⟩)) (fun b _=>hO b)
  refine ⟨ρ,hw.put (IB hd) (.tup (vs:=[v,.int .i64 (mix m a:Int)]) Z fun i a v ha hv=>?_),fun _ _ _=>rfl⟩;rcases i with _ | _ | i
  ·simp at ha hv;subst ha hv;exact .d hrep
  ·simp at ha hv;subst ha hv;exact .d (.raw Z)
  ·simp at ha
 rcases hit_get KT h2 h3 a b0 with ⟨g1,_,g3,g4⟩ | ⟨j,e,g1,g2,g3,_,g5,g6,g7⟩
 ·refine fin _ _ zv ?_ (by rw [g3];have:=hz2 w (F.O ρ hp) ρ;cases this with | d h=>exact h) (.inl ⟨g4,rfl,rfl⟩)
  simp [execOp,Instr.mapEntry,run_underlying (VA hT),e1,hk,MapKept.run_getObj_map h1,KT.check,KT.find w a _ _ (Wb KT h2 h3),g1,g4,hz1,Result.andThen,MapKept.run_setObj_map _ h1,setBlock,goInt]
 ·have hborn:e.born=j:=by
   have hj:j<arr.size:=(ωr.1 g2).1;have:=Γ (·[j]?) hB;simp only [η,ψm,g2,ψz] at this;rw [ψt (by omega)] at this;injection this with this;exact this.symm
  refine fin _ _ e.val ?_ g7 (.inr ⟨e,by rw [g5];exact g2,by rw [g5];exact g6,Z,Z⟩)
  have hmod:(arr.modify (mix m a) fun e=>{e with key:=kv a})=arr.modify (mix m a) fun e'=>{e' with key:=kv a,val:=e.val}:=by
   refine Array.ext_getElem? fun i=>?_;rw [ψv,ψv]
   split
   ·rename_i hh;subst hh;rw [g5,g2];rfl
   ·rfl
  rw [←hmod]
  simp [execOp,Instr.mapEntry,run_underlying (VA hT),e1,hk,MapKept.run_getObj_map h1,KT.check,KT.find w a _ _ (Wb KT h2 h3),g1,g2,g3,g5,hborn,Result.andThen,MapKept.run_setObj_map _ h1,setBlock,KT.stays,goInt]
theorem GZ {n:Nat} {env:List (Nat×AV)} {hp hp':List (Nat×List AL)} (m:List (α×β)) (a:α) (b0 b:β) {f i:Nat} (hx:AS.ev ⟨n,env,hp⟩ x=some (.map f i)) (ho:hget hp f i=some (BL eK eV (BY m a b0))) (hy:AS.ev ⟨n,env,hp⟩ y=some (.d (.raw (.int .i64 (mix m a:Int))))) (KT:Ba P K eK kv) (hz:AS.ev ⟨n,env,hp⟩ z=some (.d (eV b)))
  (hh:BN hp f i (BL eK eV (Aw m a b))=some hp'):AI P F ⟨none,.entryStore T x y z,ty,pos,aft,g⟩ ⟨n,env,hp⟩ ⟨n,env,hp'⟩ (fun _ _=>true):=fun ρ act w hs=>by
 obtain ⟨mb,arr,c,e1,e2,h1,h2,h3,h4,h5,h6⟩:=hs.mapAt hx ho;have hy':act.eval y= .int .i64 (mix m a:Int):=hs.raw hy;have hvr:=hs.ev hz;obtain ⟨hB,hc⟩:=h6 _ _ rfl;have hzm:arr.size=(BY m a b0).length:=by simpa [BO] using h2
 obtain ⟨l1,l2⟩:=J9 (m:=m) (a:=a) (b:=A7 m a b0);have hlt:mix m a<(BY m a b0).length:=by unfold BY;omega
 have hborn:∀(i:Nat) e,arr[i]? =some e ->e.born=i:=fun i e he=>by
  have hi:i<arr.size:=(ωr.1 he).1;have:=Γ (·[i]?) hB;simp only [η,ψm,he,ψz] at this;rw [ψt (by omega)] at this;injection this with this;exact this.symm
 obtain ⟨e0,he0⟩:∃e,arr[mix m a]? =some e:=⟨_,ωl (by omega)⟩
 have hidx:arr.findIdx? (fun e=>(e.born:Int)==(mix m a:Int))=some (mix m a):=by
  rw [Array.findIdx?_eq_some_iff_getElem];refine ⟨by omega,?_,fun j hj=>?_⟩
  ·have:=hborn _ _ (ωl (show mix m a<arr.size by omega))
   simp [this]
  ·have:=hborn _ _ (ωl (show j<arr.size by omega))
   simp [this];omega
 have hrun:(execOp act.eval ⟨none,.entryStore T x y z,ty,pos,aft,g⟩).run P w= .ok .skip (setBlock w mb (.map (arr.modify (mix m a) fun e=>{e with val:=act.eval z}) c)):=by
  simp [execOp,Instr.entryStore,e1,hy',MapKept.run_getObj_map h1,asInt,asIntOf,hidx,Result.andThen,MapKept.run_setObj_map _ h1,setBlock]
 unfold Oper.wp;rw [hrun]
 have hkey:e0.key=kv a:=by
  have hp:=(Ly (m:=m) (a:=a) (b:=A7 m a b0)).1;have:=(h3 _ e0 (eK a,eV (A7 m a b0)) he0 (by simp only [BO,η];unfold BY;rw [hp];rfl)).1;exact this.val (KT.val a)
 have hmod:(arr.modify (mix m a) fun e=>{e with val:=act.eval z})=arr.modify (mix (BY m a b0) a) fun e=>{e with key:=kv a,val:=act.eval z}:=by
  rw [Kj];refine Array.ext_getElem? fun i=>?_;rw [ψv,ψv]
  split
  ·rename_i hh;subst hh;rw [he0];simp [hkey]
  ·rfl
 have hkr:AQ w (F.O ρ hp) (eK a) (kv a):=by
  have hp:=(Ly (m:=m) (a:=a) (b:=A7 m a b0)).1;have:=(h3 _ e0 (eK a,eV (A7 m a b0)) he0 (by simp only [BO,η];unfold BY;rw [hp];rfl)).1;rw [hkey] at this;exact this
 refine ⟨ρ,hs.write f i _ (BL eK eV (Aw m a b)) ho (Am hh) Z Z Z Zb5 (fun b' hb'=>Zb8 fun e=>hb' (by rw [e2,e];rfl)) (fun _ _ e=>by cases e) fun hrep=>?_,fun _ _ _=>rfl⟩;rw [e2]
 have:=G2 (b:=b) (a:=a) (m:=BY m a b0) (c':=c) (mb:=mb) KT h2 h3 h4 h5 h6 hrep (by have:=hrep _ _ hvr;cases this with | d h=>exact h) (by
  have:=hrep (.d (eK a)) _ (.d hkr)
  cases this with | d h=>exact h) (.inr ⟨e0,by rw [Kj];exact he0,by rw [Kj];exact hlt,hmod,Z⟩) (Zcw h1)
 rw [Hv (b:=b),UW] at this;exact this
theorem O9 (gf:Nat) {f i c:Nat} {B:List Nat} {es:List (D×D)} {env':List (Nat×AV)} {hp1 hp':List (Nat×List AL)} {o:AL} (hx:∀ρ act w,SR F s ρ act w ->act.eval x=ρ f i) (ho:hget s.hp f i=some o) (hmo:Ja o=some (some (B,c),es)) (hne:Nat.beq f gf=false) (hT:B8 P T K E=true)
  (hE:AZ gf s.env=some env') (hH:AX gf s.hp=some hp1) (hn:CX hp1 gf (.iter f i c [])=some hp') (hd:Nat.blt d s.n=true):
  AI P F ⟨some d,.range T x,ty,pos,aft,g⟩ s ⟨s.n,(d,.ptr gf 0 0)::env',hp'⟩ (BX gf):=fun ρ act w hs=>by
 obtain ⟨mb,arr,c',e1,e2,h1,h2,h3,h4,h5,h6⟩:=hs.mapAt0 (hx _ _ _ hs) ho hmo;obtain ⟨_,rfl⟩:=h6 _ _ rfl
 have hrun:(execOp act.eval ⟨some d,.range T x,ty,pos,aft,g⟩).run P w= .ok (.value (.pointer (some ⟨w.heap.size,0,none⟩))) (w.alloc (.mapIter (some mb) c #[] c)):=by
  simp [execOp,Instr.range,run_underlying (VA hT),e1,MapKept.run_getObj_map h1,Result.andThen]
 unfold Oper.wp;rw [hrun];have hsr:=hs.new gf (.iter f i c []) (.pointer (some ⟨w.heap.size,0,none⟩)) (.mapIter (some mb) c #[] c) hE hH hn Z (fun hrep=>⟨w.heap.size,mb, #[],Z,by rw [MN (fun e=>(ψg hne) e.1)];exact e2,heap_alloc_new w _,Z⟩);exact ⟨_,hsr.put (IB hd) (.ptr OW),fun f i h=>MN fun e=>Qc h e.1⟩
theorem Fy (gf:Nat) {f i c:Nat} {B:List Nat} {es:List (D×D)} {env':List (Nat×AV)} {hp1 hp':List (Nat×List AL)} (hx:s.ev x=some (.map f i)) (ho:hget s.hp f i=some (.map (some (B,c)) es)) (hne:Nat.beq f gf=false) (hT:B8 P T K E=true)
  (hE:AZ gf s.env=some env') (hH:AX gf s.hp=some hp1) (hn:CX hp1 gf (.iter f i c [])=some hp') (hd:Nat.blt d s.n=true):
  AI P F ⟨some d,.range T x,ty,pos,aft,g⟩ s ⟨s.n,(d,.ptr gf 0 0)::env',hp'⟩ (BX gf):=
 O9 gf (fun _ _ _ hs=>hs.mapV hx) ho Z hne hT hE hH hn hd
omit [DecidableEq α] in
theorem Vp {Q:Exit ->AS ->Prop} {ops:Array Oper} {rest:List Oper} {n:Nat} {env:List (Nat×AV)} {hp:List (Nat×List AL)} (m:List (α×β)) {gf f i c:Nat} {o:AL} {B seen:List Nat} (hx:AS.ev ⟨n,env,hp⟩ x=some (.ptr gf 0 0)) (hi:hget hp gf 0=some (.iter f i c seen)) (ho:hget hp f i=some o) (hmo:Ja o=some (some (B,c),BO eK eV m)) (hd:Nat.blt d n=true)
  (h0:Bt m B seen=[] ->Ab P F ops rest Q ⟨n,(d,.tup [.d (.raw (.bool false))])::env,hp⟩)
  (h1:∀(j b:Nat) (k:α) (v:β),m[j]? =some (k,v) ->B[j]? =some b ->B.Nodup ->(Bt m B seen).Perm ((k,v)::Bt m B (seen++ [b])) ->∃hp',BN hp gf 0 (.iter f i c (seen++ [b]))=some hp'∧Ab P F ops rest Q ⟨n,(d,.tup [.d (.raw (.bool true)),.d (eK k),.d (eV v)])::env,hp'⟩):
  Ab P F ops (⟨some d,.next x false,ty,pos,aft,none⟩::rest) Q ⟨n,env,hp⟩:=fun ρ act w hs=>by
 obtain ⟨r,mb,sn,q1,q2,q3,q4⟩:=hs.heap.sim gf 0 _ hi;obtain ⟨mb',arr,c',p1,p2,p3,p4,p5,p6,p7⟩:=(hs.heap.sim f i _ ho).mapO hmo;obtain ⟨hB,hc⟩:=p7 _ _ rfl;subst hc;have:mb'=mb:=by rw [p1] at q2;injection q2 with q2;injection q2 with q2
 subst this
 have hxv:act.eval x= .pointer (some ⟨r,0,none⟩):=by
  have hr:=hs.ev hx
  generalize act.eval x=vx at hr
  cases hr with
  | ptr h=>rw [q1] at h;injection h with h;injection h with h;injection h with h;subst h;rfl
 have hzm:arr.size=m.length:=by simpa [BO] using p3
 have hBn:B.Nodup:=hB▸p5;have hBl:B.length=m.length:=by rw [hB];simp [hzm]
 refine wpListIn_plain Z fun Kk hk=>En Z ?_;rcases run_next_at (P:=P) w ty r mb' c c sn arr c q3 p2 (fun e he=>p6 e he) (ν _) with ⟨hz,hrun⟩ | ⟨e,he,w1,hw1,hrun⟩
 ·have hl0:Bt m B seen=[]:=by
   have hz':arr.filter (fun e=>!sn.contains e.born)= #[]:=Array.eq_empty_of_size_eq_zero hz;rw [Array.filter_eq_empty_iff] at hz';unfold Bt;rw [List.map_eq_nil_iff,List.filter_eq_nil_iff];intro q hq hs';obtain ⟨j,hj,rfl⟩:=ωz hq;rw [List.length_zip] at hj;have hja:j<arr.size:=by omega
   have h2:=hz' arr[j] (by simp);rw [List.getElem_zip] at hs'
   have h3:B[j]'(by omega)=arr[j].born:=by
    have:=Γ (·[j]?) hB;simp only [η,ψm,ωl hja,ψz] at this;rw [ω (by omega)] at this;injection this
   simp only [h3,←q4] at hs';simp only [Array.contains_toList] at hs';exact absurd hs' (by simpa using h2)
  have hex:(execOp act.eval ⟨some d,.next x false,ty,pos,aft,none⟩).run P w= .ok (.value (.tuple #[.bool false])) w:=by
   simp [execOp,hxv,hrun,Result.andThen]
  unfold Oper.wp;rw [hex]
  exact hk _ _ (h0 hl0 ρ _ w (hs.put (IB hd) (.tup (vs:=[.bool false]) Z fun i a v ha hv=>by
   rcases i with _ | i
   ·simp at ha hv;subst ha hv;exact .d (.raw Z)
   ·simp at ha)))
 ·have he':e∈arr∧(!sn.contains e.born)=true:=by
   have:e∈arr.filter (fun e=>!sn.contains e.born):=by simpa [leftOf] using he
   rwa [Array.mem_filter] at this
  obtain ⟨j,hj,rfl⟩:=Array.getElem_of_mem he'.1;have hjm:j<m.length:=by omega
  have hBj:B[j]? =some arr[j].born:=by rw [hB];simp [hj]
  obtain ⟨g1,g2⟩:=p4 j arr[j] (eK m[j].1,eV m[j].2) (ωl hj) (by simp [BO,hjm])
  have hns:arr[j].born∉seen:=by
   rw [←q4];have:=he'.2
   simpa using this
  have hperm:=SI hBn (ω hjm) hBj hns;obtain ⟨hp',hh,hA⟩:=h1 j _ m[j].1 m[j].2 (ω hjm) hBj hBn hperm
  have hex:(execOp act.eval ⟨some d,.next x false,ty,pos,aft,none⟩).run P w= .ok (.value (.tuple #[.bool true,arr[j].key,arr[j].val])) (setBlock w1 r (.mapIter (some mb') c (sn.push arr[j].born) c)):=by
   simp [execOp,hxv,hrun,Result.andThen]
  unfold Oper.wp;rw [hex]
  have hs1:SR F ⟨n,env,hp⟩ ρ act w1:=by
   rcases hw1 with rfl | rfl
   ·exact hs
   ·exact hs.drew Z Z Z Z
  have q3':w1.heap[r]? =some (.mapIter (some mb') c sn c):=by rcases hw1 with rfl | rfl<;>exact q3
  have hr1:AQ w1 (F.O ρ hp) (eK m[j].1) arr[j].key∧AQ w1 (F.O ρ hp) (eV m[j].2) arr[j].val:=by
   rcases hw1 with rfl | rfl
   ·exact ⟨g1,g2⟩
   ·exact ⟨g1.mono (w:=w) (w':=w.drew) (ν _) (fun _ _ _=>rfl) (fun _ _ h=>h),g2.mono (w:=w) (w':=w.drew) (ν _) (fun _ _ _=>rfl) (fun _ _ h=>h)⟩
  have hw:=hs1.write gf 0 _ (.iter f i c (seen++ [arr[j].born])) (w':=setBlock w1 r (.mapIter (some mb') c (sn.push arr[j].born) c)) hi (Am hh) Z Z Z Zb5 (fun b' hb'=>Zb8 fun e=>hb' (by rw [q1,e];rfl)) (fun _ _ e=>by cases e) fun hrep=>by
   exact ⟨r,mb',sn.push arr[j].born,q1,q2,Zcw q3',by simp [q4]⟩
  have hO:∀b,F.O ρ hp' b ->F.O ρ hp b:=fun b hh'=>by
   rcases hh' with hh' | ⟨f',i',o1,k1,k2⟩
   ·exact .inl hh'
   ·refine .inr ?_
    by_cases e:f'=gf∧i'=0
    ·obtain ⟨rfl,rfl⟩:=e;exact ⟨f',0,_,hi,k2⟩
    ·rw [Am hh,ϑ e] at k1;exact ⟨f',i',o1,k1,k2⟩
  have hbb:∀b,b<w1.heap.size ->¬F.O ρ hp b ->(setBlock w1 r (.mapIter (some mb') c (sn.push arr[j].born) c)).heap[b]? =w1.heap[b]?:=fun b _ hn=>Zb8 fun e=>hn (.inr ⟨gf,0,_,hi,by rw [q1,e];rfl⟩);refine hk _ _ (hA ρ _ _ (hw.put (IB hd) (.tup (vs:=[.bool true,arr[j].key,arr[j].val]) Z fun i a v ha hv=>?_)));rcases i with _ | _ | _ | i
  ·simp at ha hv;subst ha hv;exact .d (.raw Z)
  ·simp at ha hv;subst ha hv;exact .d (hr1.1.mono (Nat.le_of_eq Zb5.symm) hbb (fun b _=>hO b))
  ·simp at ha hv;subst ha hv;exact .d (hr1.2.mono (Nat.le_of_eq Zb5.symm) hbb (fun b _=>hO b))
  ·simp at ha
omit [DecidableEq α] in
theorem Kf {Q:Exit ->AS ->Prop} {ops:Array Oper} {rest:List Oper} {n:Nat} {env:List (Nat×AV)} {hp:List (Nat×List AL)} (m:List (α×β)) {gf f i c:Nat} {B seen:List Nat} (hx:AS.ev ⟨n,env,hp⟩ x=some (.ptr gf 0 0)) (hi:hget hp gf 0=some (.iter f i c seen)) (ho:hget hp f i=some (.map (some (B,c)) (BO eK eV m))) (hd:Nat.blt d n=true)
  (h0:Bt m B seen=[] ->Ab P F ops rest Q ⟨n,(d,.tup [.d (.raw (.bool false))])::env,hp⟩)
  (h1:∀(j b:Nat) (k:α) (v:β),m[j]? =some (k,v) ->B[j]? =some b ->B.Nodup ->(Bt m B seen).Perm ((k,v)::Bt m B (seen++ [b])) ->∃hp',BN hp gf 0 (.iter f i c (seen++ [b]))=some hp'∧Ab P F ops rest Q ⟨n,(d,.tup [.d (.raw (.bool true)),.d (eK k),.d (eV v)])::env,hp'⟩):
  Ab P F ops (⟨some d,.next x false,ty,pos,aft,none⟩::rest) Q ⟨n,env,hp⟩:=
 Vp m hx hi ho Z hd h0 h1
omit [DecidableEq α] in
theorem Od (m:List (α×β)) (j b:Nat) {k:α} {v:β} {gf f i c:Nat} {o:AL} {B seen:List Nat} (hx:s.ev x=some (.ptr gf 0 0)) (hi:hget s.hp gf 0=some (.iter f i c (seen++ [b]))) (ho:hget s.hp f i=some o) (hmo:Ja o=some (some (B,c),BO eK eV m)) (hm:m[j]? =some (k,v)) (hb:B[j]? =some b) (hd:Nat.blt d s.n=true):
  AA P F ⟨some d,.entry x,ty,pos,aft,g⟩ s d (.tup [.d (eK k),.d (eV v)]):=
 Cj _ hd fun ρ act w hs=>by
  obtain ⟨r,mb,sn,q1,q2,q3,q4⟩:=hs.heap.sim gf 0 _ hi;obtain ⟨mb',arr,c',p1,p2,p3,p4,p5,p6,p7⟩:=(hs.heap.sim f i _ ho).mapO hmo;obtain ⟨hB,hc⟩:=p7 _ _ rfl;subst hc;have:mb'=mb:=by rw [p1] at q2;injection q2 with q2;injection q2 with q2
  subst this
  have hxv:act.eval x= .pointer (some ⟨r,0,none⟩):=by
   have hr:=hs.ev hx
   generalize act.eval x=vx at hr
   cases hr with
   | ptr h=>rw [q1] at h;injection h with h;injection h with h;injection h with h;subst h;rfl
  have hjm:j<m.length:=(χ.1 hm).1;have hzm:arr.size=m.length:=by simpa [BO] using p3
  have hbe:arr[j].born=b:=by
   rw [hB] at hb;simpa [show j<arr.size by omega] using hb
  have hsn:sn=(⟨seen⟩:Array Nat).push arr[j].born:=by
   apply Array.ext'
   rw [q4,Array.toList_push,hbe]
  rw [hsn] at q3;have hrun:=run_entry_at (P:=P) w r mb' c ⟨seen⟩ arr c arr[j] q3 p2 (by simp) p5;obtain ⟨g1,g2⟩:=p4 j arr[j] (eK k,eV v) (ωl (by omega)) (by simp [BO,hm]);refine ⟨.tuple #[arr[j].key,arr[j].val],by simp [execOp,hxv,hrun,Result.andThen],.tup (vs:=[arr[j].key,arr[j].val]) Z fun i a v ha hv=>?_⟩;rcases i with _ | _ | i
  ·simp at ha hv;subst ha hv;exact .d g1
  ·simp at ha hv;subst ha hv;exact .d g2
  ·simp at ha
omit [DecidableEq α] in
theorem Fz (m:List (α×β)) (j b:Nat) {k:α} {v:β} {gf f i c:Nat} {B seen:List Nat} (hx:s.ev x=some (.ptr gf 0 0)) (hi:hget s.hp gf 0=some (.iter f i c (seen++ [b]))) (ho:hget s.hp f i=some (.map (some (B,c)) (BO eK eV m))) (hm:m[j]? =some (k,v)) (hb:B[j]? =some b) (hd:Nat.blt d s.n=true):
  AA P F ⟨some d,.entry x,ty,pos,aft,g⟩ s d (.tup [.d (eK k),.d (eV v)]):=
 Od m j b hx hi ho Z hm hb hd
end
end Go.Proofs.YteifpcnphnhaoaaGreat
namespace Go.Proofs.YteifpcnphnhaoaaGreat
open Go.RowKit
theorem Ba.int {P:Program} {K:TypeId} (hK:P.underlying K=some (.int .i64)):Ba P K (fun z:Int=> .raw (.int .i64 z)) (fun z=> .int .i64 z):=
 Ba.plain hK (fun _=>rfl) (fun _=>rfl) fun a b=>by simp [Instr.sameNow];rfl
def La (l:List UInt8):Value:= .string ⟨l.toArray⟩
theorem P8 (a b:List UInt8):((⟨a.toArray⟩:ByteArray)==⟨b.toArray⟩)=decide (a=b):=by
 rw [beq_toListBytes,ByteArray.toList_eq,ByteArray.toList_eq]
 by_cases h:a=b
 ·subst h;simp
 ·simp [h]
theorem Ba.str {P:Program} {K:TypeId} (hK:P.underlying K=some .string):Ba P K Ao La:=
 Ba.plain hK (fun _=>rfl) (fun _=>trivial) fun a b=>by simp only [Instr.sameNow,La,P8]
def JA (rec:TypeId ->Option (List TypeDesc)):Nat ->List Field ->Option (List TypeDesc)
 | _,[]=>some []
 | off,f::fs=>match rec f.type with
  | none=>none
  | some ds=>match JA rec (off+ds.length) fs with
   | none=>none
   | some r=>match Nat.beq f.offset off && f.name != "_" with
    | true=>some (ds++r)
    | false=>none
def Do (P:Program):Nat ->TypeId ->Option (List TypeDesc)
 | 0,_=>none
 | m+1,T=>match P.underlying T with
  | some (.int k)=>some [.int k]
  | some .string=>some [.string]
  | some .bool=>some [.bool]
  | some (.struct fs)=>match JA (Do P m) 0 fs.toList with
   | none=>none
   | some ds=>match AY P T ds.length && !P.stoodInHeld T with
    | true=>some ds
    | false=>none
  | _=>none
def BS (ds:List TypeDesc) (us:List Value):Prop:=us.length=ds.length∧∀(i:Nat) d u,ds[i]? =some d ->us[i]? =some u ->MapKept.IsKey d u
def Hk (P:Program) (T:TypeId):Bool:=match P.underlying T with
 | some (.struct _)=>true
 | _=>false
def PE (P:Program) (T:TypeId) (us:List Value):Value:=match Hk P T with
 | true=> .agg us.toArray
 | false=>us.headD undef
def NZ:Value ->Value ->Bool
 | .int _ a,.int _ b=>a==b
 | .string a,.string b=>a.toList==b.toList
 | .bool a,.bool b=>a==b
 | _,_=>false
def Bd:List Value ->List Value ->Bool
 | [],[]=>true
 | a::r,b::s=>NZ a b && Bd r s
 | _,_=>false
theorem NW {a a' b b':List Value} (h:a.length=b.length):Bd (a++a') (b++b')=(Bd a b && Bd a' b'):=by
 induction a generalizing b with
 | nil=>
  cases b with
  | nil=>simp [Bd]
  | cons _ _=>simp at h
 | cons x r ih=>
  cases b with
  | nil=>simp at h
  | cons y s=>simp only [φi,Bd,ih (show r.length=s.length by simpa using h),Bool.and_assoc]
theorem BS.split {ds ds':List TypeDesc} {us:List Value} (h:BS (ds++ds') us):BS ds (us.take ds.length)∧BS ds' (us.drop ds.length):=by
 obtain ⟨h1,h2⟩:=h;rw [Δ] at h1;refine ⟨⟨by simp;omega,fun i d u hd hu=>?_⟩,⟨by simp;omega,fun i d u hd hu=>?_⟩⟩
 ·have hi:i<ds.length:=(χ.1 hd).1;rw [ψf hi] at hu;exact h2 i d u (by rw [ψb hi];exact hd) hu
 ·rw [χd] at hu;refine h2 (ds.length+i) d u ?_ hu;rw [ωq (by omega),show ds.length+i - ds.length=i by omega];exact hd
section
variable {P:Program}
theorem Gk {m:Nat} {T:TypeId} {ds:List TypeDesc} (h:Do P m T=some ds) (hs:Hk P T=false):∃d,ds=[d]∧P.underlying T=some d∧((∃k,d= .int k)∨d= .string∨d= .bool):=by
 cases m with
 | zero=>cases h
 | succ m=>
  unfold Do at h;unfold Hk at hs
  split at h
  ·rename_i k hk;injection h with h;subst h;exact ⟨_,Z,hk,.inl ⟨k,Z⟩⟩
  ·rename_i hk;injection h with h;subst h;exact ⟨_,Z,hk,.inr (.inl Z)⟩
  ·rename_i hk;injection h with h;subst h;exact ⟨_,Z,hk,.inr (.inr Z)⟩
  ·rename_i fs hk;rw [hk] at hs;cases hs
  ·cases h
theorem Gj {m:Nat} {T:TypeId} {ds:List TypeDesc} (h:Do P m T=some ds) (hs:Hk P T=true):∃m' fs,m=m'+1∧P.underlying T=some (.struct fs)∧JA (Do P m') 0 fs.toList=some ds∧AY P T ds.length=true∧P.stoodInHeld T=false:=by
 cases m with
 | zero=>cases h
 | succ m=>
  unfold Do at h;unfold Hk at hs
  split at h
  ·rename_i k hk;rw [hk] at hs;cases hs
  ·rename_i hk;rw [hk] at hs;cases hs
  ·rename_i hk;rw [hk] at hs;cases hs
  ·rename_i fs hk
   split at h
   ·cases h
   ·rename_i ds' hds
    split at h
    ·rename_i hb
     injection h with h;subst h
     simp only [ωa,Bool.not_eq_true'] at hb;exact ⟨m,fs,Z,hk,hds,hb.1,hb.2⟩
    ·cases h
  ·cases h
theorem Fl {m:Nat} {T:TypeId} {ds:List TypeDesc} (h:Do P m T=some ds) (w:World) (us:List Value) (off:Nat) (hl:off+ds.length≤us.length):(part T us.toArray off).run P w= .ok (PE P T ((us.drop off).take ds.length)) w:=by
 cases hs:Hk P T with
 | false=>
  obtain ⟨d,rfl,hd,hk⟩:=Gk h hs
  have ha:(isAgg T).run P w= .ok false w:=by
   rcases hk with ⟨k,rfl⟩ | rfl | rfl<;>simp [isAgg,run_underlying hd,Result.andThen]
  have hlt:off<us.length:=by simp at hl;omega
  simp only [part,Sem.run_bind,ha,Result.andThen_ok,Bool.false_eq_true,if_false,PE,hs];rw [List.getElem?_toArray,ω hlt];simp only [Sem.run_pure,ψo,φo];rw [χf hlt];rfl
 | true=>
  obtain ⟨m',fs,rfl,hd,_,hz,_⟩:=Gj h hs;have ha:(isAgg T).run P w= .ok true w:=by simp [isAgg,run_underlying hd,Result.andThen]
  have hz':=Zcg (P:=P) (YX hz) w;simp only [part,Sem.run_bind,ha,Result.andThen_ok,if_true,hz',Sem.run_pure,PE,hs]
  congr 2
  apply Array.ext'
  simp
theorem Gr:∀(m:Nat) (T:TypeId) (ds:List TypeDesc),Do P m T=some ds ->∀(d:Nat) (us vs:List Value),BS ds us ->BS ds vs ->∀w,(Op.equalIn (d+m) T (PE P T us) (PE P T vs)).run P w= .ok (Bd us vs) w
 | 0,_,_,h=>by cases h
 | m+1,T,ds,h=>fun d us vs hu hv w=>by
  cases hs:Hk P T with
  | false=>
   obtain ⟨d',rfl,hd,hk⟩:=Gk h hs;obtain ⟨u,rfl⟩:=List.length_eq_one_iff.1 hu.1;obtain ⟨v,rfl⟩:=List.length_eq_one_iff.1 hv.1;have k1:=hu.2 0 d' u Z Z;have k2:=hv.2 0 d' v Z Z;simp only [PE,hs,List.headD_cons,Bd,Bool.and_true];rcases hk with ⟨k,rfl⟩ | rfl | rfl
   ·cases u<;>cases v<;>simp only [MapKept.IsKey] at k1 k2
    subst k1 k2;exact run_equalIn_int w (d+m) T _ _ _ _ hd
   ·cases u<;>cases v<;>simp only [MapKept.IsKey] at k1 k2
    exact run_equalIn_string w (d+m) T _ _ hd
   ·cases u<;>cases v<;>simp only [MapKept.IsKey] at k1 k2
    exact run_equalIn_bool' w (d+m) T _ _ hd
  | true=>
   obtain ⟨m',fs,hm,hd,hfl,hz,hst⟩:=Gj h hs;injection hm with hm;subst hm
   have hf:P.fieldsOf T=fs:=by simp [Program.fieldsOf,hd]
   simp only [PE,hs];rw [←Nat.add_assoc,run_equalIn_struct w (d+m) T _ _ (by rw [hf];exact hd) hst,hf]
   -- along the fields
   have key:∀(fs:List Field) (off:Nat) (ds:List TypeDesc) (us vs:List Value),JA (Do P m) off fs=some ds ->BS ds (us.drop off) ->BS ds (vs.drop off) ->off≤us.length ->off≤vs.length ->(Op.eqFields (d+m) us.toArray vs.toArray fs).run P w= .ok (Bd (us.drop off) (vs.drop off)) w:=by
    intro fs
    induction fs with
    | nil=>
     intro off ds us vs h hu hv _ _;simp only [JA,Option.some.injEq] at h;subst h;rw [ωt hu.1,ωt hv.1];rfl
    | cons f fs ih=>
     intro off ds us vs h hu hv hou hov;simp only [JA] at h
     split at h
     ·cases h
     ·rename_i d1 h1
      split at h
      ·cases h
      ·rename_i r hr
       split at h
       ·rename_i hb
        injection h with h;subst h
        simp only [ωa] at hb;have hoff:=ωf hb.1;have hname:f.name≠ "_" :=by simpa using hb.2
        have lu:=hu.1;have lv:=hv.1;rw [Δ,φm] at lu lv;have hl1:off+d1.length≤us.length:=by omega
        have hl2:off+d1.length≤vs.length:=by omega
        obtain ⟨u1,u2⟩:=hu.split;obtain ⟨v1,v2⟩:=hv.split;rw [List.drop_drop] at u2 v2;have e1:=Fl h1 w us off hl1;have e2:=Fl h1 w vs off hl2;have e3:=Gr m f.type d1 h1 d _ _ u1 v1 w;have e4:=ih (off+d1.length) r us vs hr u2 v2 hl1 hl2;simp only [Op.eqFields,hname,ne_eq,not_false_eq_true,if_true,hoff,Sem.run_bind,e1,e2,e3,Result.andThen_ok]
        have hsplit:Bd (us.drop off) (vs.drop off)=(Bd ((us.drop off).take d1.length) ((vs.drop off).take d1.length) && Bd (us.drop (off+d1.length)) (vs.drop (off+d1.length))):=by
         rw [←List.drop_drop,←List.drop_drop,←NW (by simp;omega),φa,φa]
        rw [hsplit]
        cases hc:Bd ((us.drop off).take d1.length) ((vs.drop off).take d1.length) with
        | false=>simp
        | true=>simp only [Bool.not_true,Bool.false_eq_true,if_false,Bool.true_and];exact e4
       ·cases h
   have:=key fs.toList 0 ds us vs hfl (by simpa using hu) (by simpa using hv) (ς _) (ς _)
   simpa using this
theorem Ih (em:Bool):∀(m:Nat) (T:TypeId) (ds:List TypeDesc),Do P m T=some ds ->∀(d:Nat) (us:List Value),BS ds us ->∀w,(Instr.checkKey em (d+m) T (PE P T us)).run P w= .ok () w
 | 0,_,_,h=>by cases h
 | m+1,T,ds,h=>fun d us hu w=>by
  cases hs:Hk P T with
  | false=>
   obtain ⟨d',rfl,hd,hk⟩:=Gk h hs;obtain ⟨u,rfl⟩:=List.length_eq_one_iff.1 hu.1;have k1:=hu.2 0 d' u Z Z;simp only [PE,hs,List.headD_cons];exact MapKept.run_checkKey hd k1 em (d+m)
  | true=>
   obtain ⟨m',fs,hm,hd,hfl,hz,hst⟩:=Gj h hs;injection hm with hm;subst hm
   simp only [PE,hs];rw [←Nat.add_assoc];simp only [Instr.checkKey,Sem.run_bind,run_underlying hd,Result.andThen_ok];rw [←Array.forIn_toList];have h0:BS ds (us.drop 0):=by simpa using hu
   have hou:0≤us.length:=ς _
   clear h hs hz hu hd hst
   generalize fs.toList=fl at hfl⊢
   generalize (0:Nat)=off at hfl h0 hou
   induction fl generalizing off ds with
   | nil=>rfl
   | cons f fl ih=>
    simp only [JA] at hfl
    split at hfl
    ·cases hfl
    ·rename_i d1 h1
     split at hfl
     ·cases hfl
     ·rename_i r hr
      split at hfl
      ·rename_i hb
       injection hfl with hfl;subst hfl
       simp only [ωa] at hb;have hoff:=ωf hb.1;have hname:f.name≠ "_" :=by simpa using hb.2
       have lu:=h0.1;rw [Δ,φm] at lu;have hl1:off+d1.length≤us.length:=by omega
       obtain ⟨u1,u2⟩:=h0.split;rw [List.drop_drop] at u2;have e1:=Fl h1 w us off hl1;have e3:=Ih em m f.type d1 h1 d _ u1 w;have e4:=ih r (off+d1.length) hr u2 hl1;rw [List.forIn_cons];simp only [hname,ne_eq,not_false_eq_true,if_true,hoff,Sem.run_bind,e1,e3,Result.andThen_ok,Sem.run_pure] at e4⊢;exact e4
      ·cases hfl
theorem H1 {d:TypeDesc} {u:Value} (h:MapKept.IsKey d u) (n:Nat):Instr.sameBits n u u=true:=by
 cases d<;>cases u<;>simp only [MapKept.IsKey] at h<;>cases n<;>simp [Instr.sameBits]<;>exact (beq_toListBytes _ _).trans (by simp)
theorem Tu {m:Nat} {T:TypeId} {ds:List TypeDesc} (h:Do P m T=some ds) {us:List Value} (hu:BS ds us) (w:World):(Instr.keyThatStays (PE P T us) (PE P T us)).run P w= .ok (PE P T us) w:=by
 have:Instr.sameBits 10000 (PE P T us) (PE P T us)=true:=by
  cases hs:Hk P T with
  | false=>
   obtain ⟨d',rfl,hd,hk⟩:=Gk h hs;obtain ⟨u,rfl⟩:=List.length_eq_one_iff.1 hu.1;simp only [PE,hs,List.headD_cons];exact H1 (hu.2 0 d' u Z Z) _
  | true=>
   simp only [PE,hs];show Instr.sameBits (9999+1) _ _=true;simp only [Instr.sameBits,beq_self_eq_true,Bool.true_and,χy];intro p hp;obtain ⟨i,hi,e⟩:=ωz hp;rw [List.getElem_zip] at e;rw [←e]
   simp only
   have hi':i<us.length:=by simpa using hi
   have hd:i<ds.length:=by rw [←hu.1];exact hi'
   exact H1 (hu.2 i ds[i] us[i] (ω hd) (ω hi')) _
 simp [Instr.keyThatStays,this]
theorem Ba.flat {α:Type} [DecidableEq α] {K:TypeId} {eK:α ->D} {cl:α ->List Value} {ds:List TypeDesc} (hf:Do P 8 K=some ds) (hs:Hk P K=true) (hv:∀a,(eK a).val? =some (.agg (cl a).toArray)) (hp:∀a,BS ds (cl a)) (he:∀a b,Bd (cl a) (cl b)=decide (a=b)):Ba P K eK fun a=> .agg (cl a).toArray:=by
 have hm:∀a,PE P K (cl a)= .agg (cl a).toArray:=fun a=>by simp only [PE,hs]
 obtain ⟨m',fs,_,hd,_⟩:=Gj hf hs;refine Ba.asking hd hv (fun w em a=>?_) (fun w a b=>?_) (fun a b=>by simp [Instr.sameNow]) (fun w a=>?_)
 ·have:=Ih em 8 K ds hf 9992 (cl a) (hp a) w
  rwa [hm] at this
 ·have:=Gr 8 K ds hf 9992 (cl a) (cl b) (hp a) (hp b) w;rw [hm,hm,he] at this;exact this
 ·have:=Tu hf (hp a) w
  rwa [hm] at this
end
theorem IR:∀a b:List UInt8,Op.bytesLess b a=(!Op.bytesLess a b && !a==b)
 | [],[]=>rfl
 | [],_::_=>rfl
 | _::_,[]=>rfl
 | x::a,y::b=>by
  have ih:=IR a b;rcases Nat.lt_trichotomy x.toNat y.toNat with h | h | h
  ·have h1:x<y:=UInt8.lt_iff_toNat_lt.2 h;have h2:¬y<x:=fun h'=>by have:=UInt8.lt_iff_toNat_lt.1 h';omega
   have h3:y≠x:=fun e=>by subst e;omega
   simp [Op.bytesLess,h1,h2,h3]
  ·have h1:x=y:=UInt8.toNat_inj.1 h;subst h1;have h2:¬x<x:=fun h'=>by have:=UInt8.lt_iff_toNat_lt.1 h';omega
   simp [Op.bytesLess,h2,ih]
  ·have h1:y<x:=UInt8.lt_iff_toNat_lt.2 h;have h2:¬x<y:=fun h'=>by have:=UInt8.lt_iff_toNat_lt.1 h';omega
   have h3:x≠y:=fun e=>by subst e;omega
   simp [Op.bytesLess,h1,h2,h3]
section
variable {P:Program} {F:Fr} {s:AS} {d:Nat} {ty T T':TypeId} {pos:String} {aft:Array Edge} {g:Option (Nat×Bool)} {x y:Operand}
theorem st_gtrS {a b:ByteArray} (hx:s.ev x=some (.d (.raw (.string a)))) (hy:s.ev y=some (.d (.raw (.string b)))) (hd:Nat.blt d s.n=true):AA P F ⟨some d,.binOp .gtr T x y T',ty,pos,aft,g⟩ s d (.d (.raw (.bool (Op.bytesLess b.toList a.toList)))):=
 Cj _ hd fun _ act _ hs=>⟨.bool (Op.bytesLess b.toList a.toList),by simp [execOp,eqGuard,binOp,Op.stringOp,hs.raw hx,hs.raw hy,IR a.toList b.toList],.d (.raw Z)⟩
theorem RP {a b:D} {la lb:List Value} {ds:List TypeDesc} {t:Bool} (hf:Do P 8 T=some ds) (hs:Hk P T=true) (hg:P.eqGuardType P.depth T=false) (hx:s.ev x=some (.d a)) (hy:s.ev y=some (.d b)) (ha:a.val? =some (.agg la.toArray)) (hb:b.val? =some (.agg lb.toArray)) (p1:BS ds la) (p2:BS ds lb) (ht:Bd la lb=t) (hd:Nat.blt d s.n=true):
  AA P F ⟨some d,.binOp .eql T x y T',ty,pos,aft,g⟩ s d (.d (.raw (.bool t))):=
 Cj _ hd fun ρ act w hs'=>by
  have e1:=(hs'.repD hx).val ha;have e2:=(hs'.repD hy).val hb;have:=Gr 8 T ds hf 9992 la lb p1 p2 w;simp only [PE,hs,ht] at this;exact ⟨.bool t,by simp [execOp,e1,e2,run_eqGuard_agg w .eql T x y _ _ hg,run_eql_struct,this,Result.andThen],.d (.raw Z)⟩
end
end Go.Proofs.YteifpcnphnhaoaaGreat
