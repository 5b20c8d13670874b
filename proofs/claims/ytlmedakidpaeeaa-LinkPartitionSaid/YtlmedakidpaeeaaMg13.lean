/- What the walk wants of the types of this program. -/
import Derived.Test.YtlmedakidpaeeaaMg12
import Derived.Test.YtlmedakidpaeeaaRows
namespace Go.Proofs.Ytlmedakidpaeeaa
open Go.RowKit
theorem mixed:Try.prog.follows .mixedOrders=true:=by kernel_rfl
theorem D5:Ad Try.prog 3 1=true:=by kernel_rfl
theorem Ba:Bh Try.prog 3=true:=by kernel_rfl
theorem zd3:HP Try.prog 3=some (.raw (.int .i64 0)):=by kernel_rfl
theorem L5:Ad Try.prog 4 1=true:=by kernel_rfl
theorem PX:Bh Try.prog 4=true:=by kernel_rfl
theorem zd4:HP Try.prog 4=some (.raw (.bool false)):=by kernel_rfl
theorem DE:Ad Try.prog 9 1=true:=by kernel_rfl
theorem AW:Bh Try.prog 9=true:=by kernel_rfl
theorem BE:Bh Try.prog 23=true:=by kernel_rfl
theorem HR:Ad Try.prog 25 1=true:=by kernel_rfl
theorem on25:Bh Try.prog 25=true:=by kernel_rfl
theorem zl25:B9 Try.prog 25=some [.d (.raw (.int .i64 0))]:=by kernel_rfl
theorem Bl:Ad Try.prog 32 1=true:=by kernel_rfl
theorem AK:Bh Try.prog 32=true:=by kernel_rfl
theorem B7:SlTy Try.prog 32 9 1 16:=Di (by kernel_rfl)
theorem sz33:Ad Try.prog 33 1=true:=by kernel_rfl
theorem Ay:Bh Try.prog 33=true:=by kernel_rfl
theorem FC:SlTy Try.prog 33 71 3 40:=Di (by kernel_rfl)
theorem Bd:Ad Try.prog 35 2=true:=by kernel_rfl
theorem AR:Dk Try.prog 35 2=true:=by kernel_rfl
theorem A7:Aa Try.prog 35 0=some (0,1,false):=by kernel_rfl
theorem Ag:Aa Try.prog 35 1=some (1,1,false):=by kernel_rfl
theorem Lt:Cy Try.prog 35=some [(0,1),(1,1)]:=by kernel_rfl
theorem EN:B9 Try.prog 35=some [.d (.sl (some true) []),.d (.sl (some true) [])]:=by kernel_rfl
theorem sz39:Ad Try.prog 39 2=true:=by kernel_rfl
theorem Aq:Dk Try.prog 39 2=true:=by kernel_rfl
theorem IL:Aa Try.prog 39 0=some (0,1,false):=by kernel_rfl
theorem CF:Aa Try.prog 39 1=some (1,1,false):=by kernel_rfl
theorem Py:Cy Try.prog 39=some [(0,1),(1,1)]:=by kernel_rfl
theorem Mt:B9 Try.prog 39=some [.d (.raw (.int .i64 0)),.d (.raw (.string ⟨#[]⟩))]:=by kernel_rfl
theorem L4:Ad Try.prog 41 4=true:=by kernel_rfl
theorem Ki:Dk Try.prog 41 4=true:=by kernel_rfl
theorem EE:Aa Try.prog 41 0=some (0,1,false):=by kernel_rfl
theorem F6:Aa Try.prog 41 1=some (1,1,false):=by kernel_rfl
theorem K4:Aa Try.prog 41 2=some (2,2,true):=by kernel_rfl
theorem sl47:SlTy Try.prog 47 51 2 48:=Di (by kernel_rfl)
theorem Bk:Ad Try.prog 49 1=true:=by kernel_rfl
theorem Af:Bh Try.prog 49=true:=by kernel_rfl
theorem zl49:B9 Try.prog 49=some [.d (.sl (some true) [])]:=by kernel_rfl
theorem zd49:HP Try.prog 49=some (.sl (some true) []):=by kernel_rfl
theorem Du:SlTy Try.prog 49 3 1 8:=Di (by kernel_rfl)
theorem Cb:Ad Try.prog 51 2=true:=by kernel_rfl
theorem rw51:Dk Try.prog 51 2=true:=by kernel_rfl
theorem E8:Aa Try.prog 51 0=some (0,1,false):=by kernel_rfl
theorem Da:Aa Try.prog 51 1=some (1,1,false):=by kernel_rfl
theorem pl51:Cy Try.prog 51=some [(0,1),(1,1)]:=by kernel_rfl
theorem zl51:B9 Try.prog 51=some [.d (.sl (some true) []),.d (.sl (some true) [])]:=by kernel_rfl
theorem sz66:Ad Try.prog 66 1=true:=by kernel_rfl
theorem Br:Bh Try.prog 66=true:=by kernel_rfl
theorem A8:Aa Try.prog 68 0=some (0,1,false):=by kernel_rfl
theorem pl68:Cy Try.prog 68=some [(0,1)]:=by kernel_rfl
theorem zl68:B9 Try.prog 68=some [.d (.raw (.map none))]:=by kernel_rfl
theorem Ca:Ad Try.prog 71 3=true:=by kernel_rfl
theorem At:Dk Try.prog 71 3=true:=by kernel_rfl
theorem CG:Aa Try.prog 71 0=some (0,1,false):=by kernel_rfl
theorem K5:Aa Try.prog 71 1=some (1,1,false):=by kernel_rfl
theorem Cn:Aa Try.prog 71 2=some (2,1,false):=by kernel_rfl
theorem pl71:Cy Try.prog 71=some [(0,1),(1,1),(2,1)]:=by kernel_rfl
theorem zl71:B9 Try.prog 71=some [.d (.raw (.string ⟨#[]⟩)),.d (.raw (.int .i64 0)),.d (.raw (.string ⟨#[]⟩))]:=by kernel_rfl
theorem sl73:SlTy Try.prog 73 76 2 48:=Di (by kernel_rfl)
theorem sz76:Ad Try.prog 76 2=true:=by kernel_rfl
theorem rw76:Dk Try.prog 76 2=true:=by kernel_rfl
theorem ED:Aa Try.prog 76 1=some (1,1,false):=by kernel_rfl
theorem pl76:Cy Try.prog 76=some [(0,1),(1,1)]:=by kernel_rfl
theorem zl76:B9 Try.prog 76=some [.d (.sl (some true) []),.d (.sl (some true) [])]:=by kernel_rfl
theorem sz79:Ad Try.prog 79 1=true:=by kernel_rfl
theorem Dz:Bh Try.prog 79=true:=by kernel_rfl
theorem zl79:B9 Try.prog 79=some [.d (.sl (some true) [])]:=by kernel_rfl
theorem ND:SlTy Try.prog 79 32 1 24:=Di (by kernel_rfl)
theorem sz80:Ad Try.prog 80 1=true:=by kernel_rfl
theorem FD:Bh Try.prog 80=true:=by kernel_rfl
theorem zl80:B9 Try.prog 80=some [.d (.raw (.map none))]:=by kernel_rfl
theorem sl99:SlTy Try.prog 99 4 1 1:=Di (by kernel_rfl)
theorem sl101:SlTy Try.prog 101 49 1 24:=Di (by kernel_rfl)
theorem sz106:Ad Try.prog 106 1=true:=by kernel_rfl
theorem QM:Bh Try.prog 106=true:=by kernel_rfl
theorem zl106:B9 Try.prog 106=some [.d (.raw (.map none))]:=by kernel_rfl
theorem sz108:Ad Try.prog 108 1=true:=by kernel_rfl
theorem KB:Bh Try.prog 108=true:=by kernel_rfl
theorem zl108:B9 Try.prog 108=some [.d (.raw .nilFunc)]:=by kernel_rfl
theorem C3:BO Try.prog 66 9 69=true:=by kernel_rfl
theorem EX:BK Try.prog 9 AU Kb:=BK.str Try.underlying9
theorem E9:CV Try.prog 69=some (.d (.raw (.map none))):=by kernel_rfl
theorem H7:BO Try.prog 69 39 4=true:=by kernel_rfl
theorem za4:CV Try.prog 4=some (.d (.raw (.bool false))):=by kernel_rfl
theorem Gz:BO Try.prog 80 9 3=true:=by kernel_rfl
theorem PW:CV Try.prog 3=some (.d (.raw (.int .i64 0))):=by kernel_rfl
theorem ML:BO Try.prog 106 9 32=true:=by kernel_rfl
theorem za32:CV Try.prog 32=some (.d (.sl (some true) [])):=by kernel_rfl
abbrev Bw (n:Int):D:= .raw (.int .i64 n)
abbrev Ar (b:Bool):D:= .raw (.bool b)
abbrev natD (n:Nat):D:=Bw (n:Int)
abbrev natsD (l:List Nat):D:= .sl none (l.map natD)
theorem EC {l:List Nat} {k:Nat} (h:k<l.length):(l.map natD)[k]?=some (natD (By l k)):=by rw [PF h,C2 h]
theorem AT.top {P:Program} {f:FuncId} {args:List AV} {CH H0:Hp} (h:AT P f args CH fun r H'=>(∃b:Bool,r= .d (Ar b))∧H'=H0):AT P f args CH fun r H'=>r= .top∧H'=H0:=
 ⟨h.1,fun F ρ vs h1 h2 h2' h3 h4 h5=>(h.2 F ρ vs h1 h2 h2' h3 h4 h5).mono fun e w' ⟨v,r,H',ρ',e1,⟨_,e3⟩,_,hh⟩=>⟨v,.top,H',ρ',e1,⟨rfl,e3⟩,.top,hh⟩⟩
abbrev grD (g:List (List Nat)):D:= .sl none (g.map natsD)
structure GB (g:List (List Nat)):Prop where
 n:g.length≤65536
 e:∀l∈g,l.length≤1048576
 lt:∀l∈g,∀x∈l,x<g.length
theorem Gd {g:List (List Nat)} {i:Nat} (h:i<g.length):Bv g i=g[i]:=by simp [Bv,h]
theorem getg {g:List (List Nat)} {i:Nat} (h:i<g.length):(g.map natsD)[i]?=some (natsD (Bv g i)):=by rw [PF h,Gd h]
theorem GB.len {g:List (List Nat)} (h:GB g) {i:Nat} (hi:i<g.length):(Bv g i).length≤1048576:=by rw [Gd hi];exact h.e _ (List.getElem_mem hi)
theorem GB.suc {g:List (List Nat)} (h:GB g) {i x:Nat} (hi:i<g.length) (hx:x∈Bv g i):x<g.length:=by rw [Gd hi] at hx;exact h.lt _ (List.getElem_mem hi) x hx
def cntT (g:List (List Nat)) (i j:Nat):Nat:=((List.range i).map fun a=>(Bv g a).count j).sum
theorem I7 {l:List Nat} {k:Nat} (h:k<l.length) (j:Nat):(l.take (k+1)).count j=(l.take k).count j+if By l k=j then 1 else 0:=by
 rw [List.take_succ_eq_append_getElem h,List.count_append,C2 h]
 by_cases e:l[k]=j
 ·subst e;simp
 ·rw [if_neg e,List.count_cons_of_ne e];rfl
structure FI (K:Nat ->Nat) (w:List Nat) (i:Nat) (l:List Nat):Prop where
 nd:l.Nodup
 mem:∀x,x∈l↔x<i∧By w x=0
 hp:Heap2 K l
theorem FI.le {K:Nat ->Nat} {w:List Nat} {i:Nat} {l:List Nat} (h:FI K w i l):l.length≤i:=by
 have:=QW h.nd (m:=List.range i) fun x hx=>List.mem_range.2 ((h.mem x).1 hx).1
 rwa [List.length_range] at this
structure CW (g:List (List Nat)) (i k:Nat) (w:List Nat):Prop where
 len:w.length=g.length
 val:∀j,j<g.length ->By w j=cntT g i j+((Bv g i).take k).count j
abbrev rowN (n:Nat) (f:Nat ->Nat):List D:=(List.range n).map fun v=>natD (f v)
abbrev Ll (n:Nat) (f:Nat ->Int):List D:=(List.range n).map fun v=>Bw (f v)
theorem Ii {n i:Nat} {f:Nat ->Int} (h:i<n):(Ll n f)[i]?=some (Bw (f i)):=by simp [h]
theorem IT {n i:Nat} {f h:Nat ->D} (he:∀j,j<n ->j≠i ->f j=h j) {x:D} (hx:x=h i):((List.range n).map f).set i x=(List.range n).map h:=by
 refine List.ext_getElem (by simp) fun j h1 h2=>?_;rw [List.getElem_set];simp only [List.length_map,List.length_range] at h2;simp only [List.getElem_map,List.getElem_range]
 by_cases e:i=j
 ·subst e;rw [if_pos rfl];exact hx
 ·rw [if_neg e];exact he j h2 fun e'=>e e'.symm
theorem Li {n i:Nat} {x:Int} {f:Nat ->Int}:(Ll n f).set i (Bw x)=Ll n (Ak f i x):=
 IT (fun j _ hne=>by rw [EM hne]) (by rw [Db])
theorem Lj (n:Nat) (f:Nat ->Int):(Ll n f).length=n:=by simp
theorem repI (n:Nat):List.replicate n (D.raw (.int .i64 0))=Ll n (fun _=>0):=by
 refine List.ext_getElem (by simp) fun j h1 h2=>?_
 simp
def pend:Option Nat ->List (Nat×Nat)
 | none=> []
 | some v=> [(v,0)]
structure TH (n:Nat) (suc:Nat ->List Nat) (r:Nat) (S:TS) (p:Option Nat):Prop where
 ti:TI n suc S p
 k1:∀f∈S.cs,1≤f.2
 old:∀v,v<r ->S.idx v≠0
 rt:S.idx r≠0∨p=some r
structure TB (n:Nat) (suc:Nat ->List Nat) (r:Nat) (S:TS) (cs0:List (Nat×Nat)) (v k:Nat):Prop where
 ti:TI n suc S none
 hcs:S.cs=cs0++ [(v,k)]
 k1:∀f∈cs0,1≤f.2
 old:∀v,v<r ->S.idx v≠0
 rt:S.idx r≠0
structure F9 (M:MF) (n:Nat) (hs:Nat ->Hd) (ls:Nat ->List Nat):Prop where
 at_:∀j,j<n ->Ju M (hs j) 3 1 ((ls j).map natD)
 inj:∀j k b c c',j<n ->k<n ->hs j=some (b,c) ->hs k=some (b,c') ->j=k
abbrev rowH (n:Nat) (hs:Nat ->Hd) (ls:Nat ->List Nat):List D:=(List.range n).map fun j=>hdr (hs j) (ls j).length
theorem FO {n j:Nat} {hs:Nat ->Hd} {ls:Nat ->List Nat} (h:j<n):(rowH n hs ls)[j]?=some (hdr (hs j) (ls j).length):=by simp [h]
theorem CZ (n:Nat) (hs:Nat ->Hd) (ls:Nat ->List Nat):(rowH n hs ls).length=n:=by simp
theorem Gi {n j:Nat} {hs:Nat ->Hd} {ls:Nat ->List Nat} {h:Hd} {l:List Nat}:(rowH n hs ls).set j (hdr h l.length)=rowH n (Ak hs j h) (Ak ls j l):=
 IT (fun i _ hne=>by rw [EM hne,EM hne]) (by rw [Db,Db])
theorem F9.zero (n:Nat):F9 (fun _=>none) n (fun _=>none) (fun _=> []):=⟨fun _ _=>rfl,fun _ _ _ _ _ _ _ h=>by cases h⟩
theorem F9.app {M:MF} {n j:Nat} {hs:Nat ->Hd} {ls:Nat ->List Nat} (h:F9 M n hs ls) (hj:j<n) {l:List Nat} {b c:Nat} (hb:DB M (hs j) b=none) (hc:(l.map natD).length≤c):
  F9 (BN (DB M (hs j)) b (.row 3 1 c (l.map natD))) n (Ak hs j (some (b,c))) (Ak ls j l):=by
 have hne:∀k,k<n ->k≠j ->∀b' c',hs k=some (b',c') ->b'≠b∧BN (DB M (hs j)) b (.row 3 1 c (l.map natD)) b'=M b':=by
  intro k hk hkj b' c' e;have h1:=h.at_ k hk;rw [e] at h1;have h2:∀c'',hs j≠some (b',c''):=fun c'' e2=>hkj (h.inj k j b' c' c'' hk hj e e2);refine ⟨fun e3=>?_,?_⟩
  ·subst e3;have:=Ei h1.2 h2;rw [hb] at this;cases this
  ·rw [Qb hb h1.2 h2,h1.2]
 refine ⟨fun k hk=>?_,fun k k' b1 c1 c2 hk hk' e1 e2=>?_⟩
 ·by_cases e:k=j
  ·subst e;rw [Db,Db];exact ⟨hc,D6 _ _ _⟩
  ·rw [EM e,EM e];have h1:=h.at_ k hk
   match hh:hs k,h1 with
   | none,h1=>exact h1
   | some (b',c'),h1=>exact ⟨h1.1,by rw [(hne k hk e b' c' hh).2];exact h1.2⟩
 ·by_cases ek:k=j<;>by_cases ek':k'=j
  ·rw [ek,ek']
  ·subst ek;rw [Db] at e1;rw [EM ek'] at e2;injection e1 with e1;injection e1 with e1 _;subst e1
   exact ((hne k' hk' ek' _ _ e2).1 rfl).elim
  ·subst ek';rw [Db] at e2;rw [EM ek] at e1;injection e2 with e2;injection e2 with e2 _;subst e2
   exact ((hne k hk ek _ _ e1).1 rfl).elim
  ·rw [EM ek] at e1;rw [EM ek'] at e2;exact h.inj k k' b1 c1 c2 hk hk' e1 e2
def grF (n:Nat) (ls:Nat ->List Nat):List (List Nat):=(List.range n).map ls
theorem Fn (n:Nat) (ls:Nat ->List Nat):(grF n ls).length=n:=by simp [grF]
theorem Ma {n i:Nat} {ls:Nat ->List Nat} (h:i<n):Bv (grF n ls) i=ls i:=by
 rw [Gd (by rw [Fn];exact h)];simp [grF]
theorem F9.melt {M:MF} {n:Nat} {hs:Nat ->Hd} {ls:Nat ->List Nat} (h:F9 M n hs ls):∀(j:Nat) x y,(rowH n hs ls)[j]?=some x ->((grF n ls).map natsD)[j]?=some y ->Ms M x y:=by
 intro j x y hx hy;have hj:j<n:=by have:=(List.getElem?_eq_some_iff.1 hx).1;rwa [CZ] at this
 rw [FO hj] at hx;injection hx with hx
 rw [getg (by rw [Fn];exact hj),Ma hj] at hy;injection hy with hy
 subst hx hy;exact .inr ⟨hs j,3,(ls j).map natD,by rw [List.length_map],h.at_ j hj,fun z hz=>by obtain ⟨a,_,rfl⟩:=List.mem_map.1 hz;rfl,rfl⟩
theorem Gs (n:Nat) (hs:Nat ->Hd) (ls:Nat ->List Nat):∀x∈rowH n hs ls,x.one=true:=fun x hx=>by
 obtain ⟨a,_,rfl⟩:=List.mem_map.1 hx;rfl
theorem QL (g:List (List Nat)):∀x∈g.map natsD,x.one=true:=fun x hx=>by
 obtain ⟨a,_,rfl⟩:=List.mem_map.1 hx;rfl
theorem MI (n:Nat):∀(j:Nat) x y,(List.replicate n (D.sl (some true) []))[j]?=some x ->(rowH n (fun _=>none) (fun _=> []))[j]?=some y ->∀w O v,AP w O x v ->AP w O y v:=by
 intro j x y hx hy w O v hr;have hj:j<n:=by have:=(List.getElem?_eq_some_iff.1 hx).1;rwa [List.length_replicate] at this
 rw [FO hj] at hy;injection hy with hy
 have hx':x=D.sl (some true) []:=by rw [List.getElem?_replicate,if_pos hj] at hx;injection hx with hx;exact hx.symm
 subst hx' hy;exact hr.nrm1
theorem Nx (n:Nat):∀x∈List.replicate n (D.sl (some true) []),x.one=true:=fun x hx=>by rw [(List.mem_replicate.1 hx).2];rfl
def Dx (g:List (List Nat)) (i k j:Nat):List Nat:=((List.range i).flatMap fun a=>List.replicate ((Bv g a).count j) a)++List.replicate (((Bv g i).take k).count j) i
def revL (g:List (List Nat)) (j:Nat):List Nat:=(List.range g.length).flatMap fun a=>List.replicate ((Bv g a).count j) a
def Oe (g:List (List Nat)):List (List Nat):=grF g.length (revL g)
theorem Oc (g:List (List Nat)):Dx g 0 0=fun _=> []:=by funext j;simp [Dx]
theorem Lo (g:List (List Nat)) (i:Nat):Dx g i (Bv g i).length=Dx g (i+1) 0:=by
 funext j
 unfold Dx;rw [List.take_length,List.range_succ,List.flatMap_append]
 simp
theorem Od {g:List (List Nat)} {i k:Nat} (hk:k<(Bv g i).length):Ak (Dx g i k) (By (Bv g i) k) (Dx g i k (By (Bv g i) k)++ [i])=Dx g i (k+1):=by
 funext j
 by_cases e:j=By (Bv g i) k
 ·subst e;rw [Db];unfold Dx;rw [I7 hk,if_pos rfl,List.replicate_succ',List.append_assoc]
 ·rw [EM e];unfold Dx;rw [I7 hk,if_neg fun h=>e h.symm,Nat.add_zero]
theorem Pk (g:List (List Nat)):Dx g g.length 0=revL g:=by funext j;simp [Dx,revL]
theorem Pj {g:List (List Nat)} (hg:GB g) {i:Nat} (hi:i<g.length) (k j:Nat):(Dx g i k j).length≤69000000000:=by
 have key:∀m,m≤g.length ->((List.range m).flatMap fun a=>List.replicate ((Bv g a).count j) a).length≤m*1048576:=by
  intro m
  induction m with
  | zero=>intro _;exact Nat.zero_le _
  | succ m ih=>
   intro hm;have h1:=ih (by omega);have h2:=List.count_le_length (a:=j) (l:=Bv g m);have h3:=hg.len (i:=m) (by omega);rw [List.range_succ,List.flatMap_append,List.length_append,Nat.succ_mul];refine Nat.add_le_add h1 ?_
   simp;omega
 have h1:=key i (by omega);have h2:=List.count_le_length (a:=j) (l:=(Bv g i).take k);have h3:=hg.len hi;have h4:=hg.n;rw [List.length_take] at h2;unfold Dx;rw [List.length_append,List.length_replicate];omega
end Go.Proofs.Ytlmedakidpaeeaa
