/- What the walk wants of the types of this program. -/
import Derived.Test.YtlmedakidpaeeaaGreatMg12
import Derived.Test.YtlmedakidpaeeaaGreatRows
namespace Go.Proofs.YtlmedakidpaeeaaGreat
open Go.RowKit
theorem mixed:Tryz.prog.follows .mixedOrders=true:=by kernel_rfl
theorem Dn:Aj Tryz.prog 3 1=true:=by kernel_rfl
theorem BV:Bj Tryz.prog 3=true:=by kernel_rfl
theorem zd3:H5 Tryz.prog 3=some (.raw (.int .i64 0)):=by kernel_rfl
theorem MG:Aj Tryz.prog 4 1=true:=by kernel_rfl
theorem QN:Bj Tryz.prog 4=true:=by kernel_rfl
theorem zd4:H5 Tryz.prog 4=some (.raw (.bool false)):=by kernel_rfl
theorem DW:Aj Tryz.prog 9 1=true:=by kernel_rfl
theorem AR:Bj Tryz.prog 9=true:=by kernel_rfl
theorem BL:Bj Tryz.prog 24=true:=by kernel_rfl
theorem Bw:Aj Tryz.prog 25 1=true:=by kernel_rfl
theorem AW:Bj Tryz.prog 25=true:=by kernel_rfl
theorem Ba:SlTy Tryz.prog 25 9 1 16:=DN (by kernel_rfl)
theorem sz26:Aj Tryz.prog 26 1=true:=by kernel_rfl
theorem A6:Bj Tryz.prog 26=true:=by kernel_rfl
theorem De:SlTy Tryz.prog 26 44 3 40:=DN (by kernel_rfl)
theorem Bp:Aj Tryz.prog 28 2=true:=by kernel_rfl
theorem AL:Dr Tryz.prog 28 2=true:=by kernel_rfl
theorem Ag:Af Tryz.prog 28 0=some (0,1,false):=by kernel_rfl
theorem A0:Af Tryz.prog 28 1=some (1,1,false):=by kernel_rfl
theorem M9:Cz Tryz.prog 28=some [(0,1),(1,1)]:=by kernel_rfl
theorem EW:Bl Tryz.prog 28=some [.d (.sl (some true) []),.d (.sl (some true) [])]:=by kernel_rfl
theorem sz32:Aj Tryz.prog 32 1=true:=by kernel_rfl
theorem Ph:Bj Tryz.prog 32=true:=by kernel_rfl
theorem sl32:SlTy Tryz.prog 32 42 2 24:=DN (by kernel_rfl)
theorem ME:Aj Tryz.prog 42 2=true:=by kernel_rfl
theorem Am:Dr Tryz.prog 42 2=true:=by kernel_rfl
theorem Dh:Af Tryz.prog 42 0=some (0,1,false):=by kernel_rfl
theorem Bd:Af Tryz.prog 42 1=some (1,1,false):=by kernel_rfl
theorem Ns:Cz Tryz.prog 42=some [(0,1),(1,1)]:=by kernel_rfl
theorem Iw:Bl Tryz.prog 42=some [.d (.raw (.int .i64 0)),.d (.raw (.string ⟨#[]⟩))]:=by kernel_rfl
theorem BB:Aj Tryz.prog 44 3=true:=by kernel_rfl
theorem Au:Dr Tryz.prog 44 3=true:=by kernel_rfl
theorem Be:Af Tryz.prog 44 0=some (0,1,false):=by kernel_rfl
theorem Eh:Af Tryz.prog 44 1=some (1,1,false):=by kernel_rfl
theorem Bf:Af Tryz.prog 44 2=some (2,1,false):=by kernel_rfl
theorem pl44:Cz Tryz.prog 44=some [(0,1),(1,1),(2,1)]:=by kernel_rfl
theorem Oz:Bl Tryz.prog 44=some [.d (.raw (.string ⟨#[]⟩)),.d (.raw (.int .i64 0)),.d (.raw (.string ⟨#[]⟩))]:=by kernel_rfl
theorem H7:Aj Tryz.prog 47 1=true:=by kernel_rfl
theorem on47:Bj Tryz.prog 47=true:=by kernel_rfl
theorem zl47:Bl Tryz.prog 47=some [.d (.raw (.int .i64 0))]:=by kernel_rfl
theorem sl50:SlTy Tryz.prog 50 54 2 48:=DN (by kernel_rfl)
theorem Bv:Aj Tryz.prog 52 1=true:=by kernel_rfl
theorem Av:Bj Tryz.prog 52=true:=by kernel_rfl
theorem zl52:Bl Tryz.prog 52=some [.d (.sl (some true) [])]:=by kernel_rfl
theorem zd52:H5 Tryz.prog 52=some (.sl (some true) []):=by kernel_rfl
theorem Dc:SlTy Tryz.prog 52 3 1 8:=DN (by kernel_rfl)
theorem LH:Aj Tryz.prog 54 2=true:=by kernel_rfl
theorem rw54:Dr Tryz.prog 54 2=true:=by kernel_rfl
theorem EM:Af Tryz.prog 54 0=some (0,1,false):=by kernel_rfl
theorem Gk:Af Tryz.prog 54 1=some (1,1,false):=by kernel_rfl
theorem pl54:Cz Tryz.prog 54=some [(0,1),(1,1)]:=by kernel_rfl
theorem zl54:Bl Tryz.prog 54=some [.d (.sl (some true) []),.d (.sl (some true) [])]:=by kernel_rfl
theorem MD:Aj Tryz.prog 57 4=true:=by kernel_rfl
theorem LO:Dr Tryz.prog 57 4=true:=by kernel_rfl
theorem EL:Af Tryz.prog 57 0=some (0,1,false):=by kernel_rfl
theorem Fp:Af Tryz.prog 57 1=some (1,1,false):=by kernel_rfl
theorem LA:Af Tryz.prog 57 2=some (2,2,true):=by kernel_rfl
theorem Pg:Bj Tryz.prog 64=true:=by kernel_rfl
theorem sz65:Aj Tryz.prog 65 1=true:=by kernel_rfl
theorem CB:Bj Tryz.prog 65=true:=by kernel_rfl
theorem Ac:Af Tryz.prog 67 0=some (0,1,false):=by kernel_rfl
theorem pl67:Cz Tryz.prog 67=some [(0,1)]:=by kernel_rfl
theorem zl67:Bl Tryz.prog 67=some [.d (.raw (.map none))]:=by kernel_rfl
theorem sz74:Aj Tryz.prog 74 1=true:=by kernel_rfl
theorem EH:Bj Tryz.prog 74=true:=by kernel_rfl
theorem zl74:Bl Tryz.prog 74=some [.d (.sl (some true) [])]:=by kernel_rfl
theorem Nh:SlTy Tryz.prog 74 25 1 24:=DN (by kernel_rfl)
theorem sz75:Aj Tryz.prog 75 1=true:=by kernel_rfl
theorem FM:Bj Tryz.prog 75=true:=by kernel_rfl
theorem zl75:Bl Tryz.prog 75=some [.d (.raw (.map none))]:=by kernel_rfl
theorem sz88:Aj Tryz.prog 88 1=true:=by kernel_rfl
theorem on88:Bj Tryz.prog 88=true:=by kernel_rfl
theorem zl88:Bl Tryz.prog 88=some [.d (.raw (.map none))]:=by kernel_rfl
theorem sz90:Aj Tryz.prog 90 1=true:=by kernel_rfl
theorem Pf:Bj Tryz.prog 90=true:=by kernel_rfl
theorem zl90:Bl Tryz.prog 90=some [.d (.raw .nilFunc)]:=by kernel_rfl
theorem sl97:SlTy Tryz.prog 97 52 1 24:=DN (by kernel_rfl)
theorem sl99:SlTy Tryz.prog 99 4 1 1:=DN (by kernel_rfl)
theorem O1:SlTy Tryz.prog 102 116 2 48:=DN (by kernel_rfl)
theorem sz116:Aj Tryz.prog 116 2=true:=by kernel_rfl
theorem Qa:Dr Tryz.prog 116 2=true:=by kernel_rfl
theorem Cs:Af Tryz.prog 116 1=some (1,1,false):=by kernel_rfl
theorem pl116:Cz Tryz.prog 116=some [(0,1),(1,1)]:=by kernel_rfl
theorem zl116:Bl Tryz.prog 116=some [.d (.sl (some true) []),.d (.sl (some true) [])]:=by kernel_rfl
theorem G8:BW Tryz.prog 64 42 4=true:=by kernel_rfl
theorem za4:C6 Tryz.prog 4=some (.d (.raw (.bool false))):=by kernel_rfl
theorem Cc:BW Tryz.prog 65 9 64=true:=by kernel_rfl
theorem EU:BT Tryz.prog 9 AU LI:=BT.str Tryz.underlying9
theorem EX:C6 Tryz.prog 64=some (.d (.raw (.map none))):=by kernel_rfl
theorem HM:BW Tryz.prog 75 9 3=true:=by kernel_rfl
theorem QM:C6 Tryz.prog 3=some (.d (.raw (.int .i64 0))):=by kernel_rfl
theorem RY:BW Tryz.prog 88 9 25=true:=by kernel_rfl
theorem za25:C6 Tryz.prog 25=some (.d (.sl (some true) [])):=by kernel_rfl
abbrev B7 (n:Int):D:= .raw (.int .i64 n)
abbrev Ad (b:Bool):D:= .raw (.bool b)
abbrev natD (n:Nat):D:=B7 (n:Int)
abbrev natsD (l:List Nat):D:= .sl none (l.map natD)
theorem Fc {l:List Nat} {k:Nat} (h:k<l.length):(l.map natD)[k]? =some (natD (CO l k)):=by rw [NK h,Cb h]
theorem eqv {a b:D} (h:a=b):AV.d a=AV.d b:=by rw [h]
theorem AQ.top {P:Program} {f:FuncId} {args:List AV} {CH H0:Hp} (h:AQ P f args CH fun r H'=>(∃b:Bool,r= .d (Ad b))∧H'=H0):AQ P f args CH fun r H'=>r= .top∧H'=H0:=
 ⟨h.1,fun F ρ vs h1 h2 h2' h3 h4 h5=>(h.2 F ρ vs h1 h2 h2' h3 h4 h5).mono fun e w' ⟨v,r,H',ρ',e1,⟨_,e3⟩,_,hh⟩=>⟨v,.top,H',ρ',e1,⟨rfl,e3⟩,.top,hh⟩⟩
abbrev grD (g:List (List Nat)):D:= .sl none (g.map natsD)
structure GB (g:List (List Nat)):Prop where
 n:g.length≤65536
 e:∀l∈g,l.length≤1048576
 lt:∀l∈g,∀x∈l,x<g.length
theorem Gp {g:List (List Nat)} {i:Nat} (h:i<g.length):CF g i=g[i]:=by simp [CF,h]
theorem getg {g:List (List Nat)} {i:Nat} (h:i<g.length):(g.map natsD)[i]? =some (natsD (CF g i)):=by rw [NK h,Gp h]
theorem GB.len {g:List (List Nat)} (h:GB g) {i:Nat} (hi:i<g.length):(CF g i).length≤1048576:=by rw [Gp hi];exact h.e _ (List.getElem_mem hi)
theorem GB.suc {g:List (List Nat)} (h:GB g) {i x:Nat} (hi:i<g.length) (hx:x∈CF g i):x<g.length:=by rw [Gp hi] at hx;exact h.lt _ (List.getElem_mem hi) x hx
def cntT (g:List (List Nat)) (i j:Nat):Nat:=((List.range i).map fun a=>(CF g a).count j).sum
theorem JA {l:List Nat} {k:Nat} (h:k<l.length) (j:Nat):(l.take (k+1)).count j=(l.take k).count j+if CO l k=j then 1 else 0:=by
 rw [List.take_succ_eq_append_getElem h,List.count_append,Cb h]
 by_cases e:l[k]=j
 ·subst e;simp
 ·rw [if_neg e,List.count_cons_of_ne e];rfl
structure FI (K:Nat ->Nat) (w:List Nat) (i:Nat) (l:List Nat):Prop where
 nd:l.Nodup
 mem:∀x,x∈l↔x<i∧CO w x=0
 hp:Heap2 K l
theorem FI.le {K:Nat ->Nat} {w:List Nat} {i:Nat} {l:List Nat} (h:FI K w i l):l.length≤i:=by
 have:=RT h.nd (m:=List.range i) fun x hx=>List.mem_range.2 ((h.mem x).1 hx).1
 rwa [List.length_range] at this
structure CW (g:List (List Nat)) (i k:Nat) (w:List Nat):Prop where
 len:w.length=g.length
 val:∀j,j<g.length ->CO w j=cntT g i j+((CF g i).take k).count j
abbrev rowN (n:Nat) (f:Nat ->Nat):List D:=(List.range n).map fun v=>natD (f v)
abbrev MS (n:Nat) (f:Nat ->Int):List D:=(List.range n).map fun v=>B7 (f v)
theorem JL {n i:Nat} {f:Nat ->Int} (h:i<n):(MS n f)[i]? =some (B7 (f i)):=by simp [h]
theorem Ij {n i:Nat} {f h:Nat ->D} (he:∀j,j<n ->j≠i ->f j=h j) {x:D} (hx:x=h i):((List.range n).map f).set i x=(List.range n).map h:=by
 refine List.ext_getElem (by simp) fun j h1 h2=>?_;rw [List.getElem_set];simp only [List.length_map,List.length_range] at h2;simp only [List.getElem_map,List.getElem_range]
 by_cases e:i=j
 ·subst e;rw [if_pos rfl];exact hx
 ·rw [if_neg e];exact he j h2 fun e'=>e e'.symm
theorem MQ {n i:Nat} {x:Int} {f:Nat ->Int}:(MS n f).set i (B7 x)=MS n (Ap f i x):=
 Ij (fun j _ hne=>by rw [EV hne]) (by rw [Di])
theorem MR (n:Nat) (f:Nat ->Int):(MS n f).length=n:=by simp
theorem repI (n:Nat):List.replicate n (D.raw (.int .i64 0))=MS n (fun _=>0):=by
 refine List.ext_getElem (by simp) fun j h1 h2=>?_
 simp
def pend:Option Nat ->List (Nat×Nat)
 | none=> []
 | some v=> [(v,0)]
structure TH (n:Nat) (suc:Nat ->List Nat) (r:Nat) (S:TS) (p:Option Nat):Prop where
 ti:TI n suc S p
 k1:∀f∈S.cs,1≤f.2
 old:∀v,v<r ->S.idx v≠0
 rt:S.idx r≠0∨p=some r
structure TB (n:Nat) (suc:Nat ->List Nat) (r:Nat) (S:TS) (cs0:List (Nat×Nat)) (v k:Nat):Prop where
 ti:TI n suc S none
 hcs:S.cs=cs0++ [(v,k)]
 k1:∀f∈cs0,1≤f.2
 old:∀v,v<r ->S.idx v≠0
 rt:S.idx r≠0
structure Fv (M:MF) (n:Nat) (hs:Nat ->Hd) (ls:Nat ->List Nat):Prop where
 at_:∀j,j<n ->K4 M (hs j) 3 1 ((ls j).map natD)
 inj:∀j k b c c',j<n ->k<n ->hs j=some (b,c) ->hs k=some (b,c') ->j=k
abbrev rowH (n:Nat) (hs:Nat ->Hd) (ls:Nat ->List Nat):List D:=(List.range n).map fun j=>hdr (hs j) (ls j).length
theorem F6 {n j:Nat} {hs:Nat ->Hd} {ls:Nat ->List Nat} (h:j<n):(rowH n hs ls)[j]? =some (hdr (hs j) (ls j).length):=by simp [h]
theorem C9 (n:Nat) (hs:Nat ->Hd) (ls:Nat ->List Nat):(rowH n hs ls).length=n:=by simp
theorem Gu {n j:Nat} {hs:Nat ->Hd} {ls:Nat ->List Nat} {h:Hd} {l:List Nat}:(rowH n hs ls).set j (hdr h l.length)=rowH n (Ap hs j h) (Ap ls j l):=
 Ij (fun i _ hne=>by rw [EV hne,EV hne]) (by rw [Di,Di])
theorem Fv.zero (n:Nat):Fv (fun _=>none) n (fun _=>none) (fun _=> []):=⟨fun _ _=>rfl,fun _ _ _ _ _ _ _ h=>by cases h⟩
theorem Fv.app {M:MF} {n j:Nat} {hs:Nat ->Hd} {ls:Nat ->List Nat} (h:Fv M n hs ls) (hj:j<n) {l:List Nat} {b c:Nat} (hb:DC M (hs j) b=none) (hc:(l.map natD).length≤c):
  Fv (BU (DC M (hs j)) b (.row 3 1 c (l.map natD))) n (Ap hs j (some (b,c))) (Ap ls j l):=by
 have hne:∀k,k<n ->k≠j ->∀b' c',hs k=some (b',c') ->b'≠b∧BU (DC M (hs j)) b (.row 3 1 c (l.map natD)) b'=M b':=by
  intro k hk hkj b' c' e;have h1:=h.at_ k hk;rw [e] at h1;have h2:∀c'',hs j≠some (b',c''):=fun c'' e2=>hkj (h.inj k j b' c' c'' hk hj e e2);refine ⟨fun e3=>?_,?_⟩
  ·subst e3;have:=Et h1.2 h2;rw [hb] at this;cases this
  ·rw [Rf hb h1.2 h2,h1.2]
 refine ⟨fun k hk=>?_,fun k k' b1 c1 c2 hk hk' e1 e2=>?_⟩
 ·by_cases e:k=j
  ·subst e;rw [Di,Di];exact ⟨hc,D9 _ _ _⟩
  ·rw [EV e,EV e];have h1:=h.at_ k hk
   match hh:hs k,h1 with
   | none,h1=>exact h1
   | some (b',c'),h1=>exact ⟨h1.1,by rw [(hne k hk e b' c' hh).2];exact h1.2⟩
 ·by_cases ek:k=j<;>by_cases ek':k'=j
  ·rw [ek,ek']
  ·subst ek;rw [Di] at e1;rw [EV ek'] at e2;injection e1 with e1;injection e1 with e1 _;subst e1
   exact ((hne k' hk' ek' _ _ e2).1 rfl).elim
  ·subst ek';rw [Di] at e2;rw [EV ek] at e1;injection e2 with e2;injection e2 with e2 _;subst e2
   exact ((hne k hk ek _ _ e1).1 rfl).elim
  ·rw [EV ek] at e1;rw [EV ek'] at e2;exact h.inj k k' b1 c1 c2 hk hk' e1 e2
def grF (n:Nat) (ls:Nat ->List Nat):List (List Nat):=(List.range n).map ls
theorem GI (n:Nat) (ls:Nat ->List Nat):(grF n ls).length=n:=by simp [grF]
theorem NJ {n i:Nat} {ls:Nat ->List Nat} (h:i<n):CF (grF n ls) i=ls i:=by
 rw [Gp (by rw [GI];exact h)];simp [grF]
theorem Fv.melt {M:MF} {n:Nat} {hs:Nat ->Hd} {ls:Nat ->List Nat} (h:Fv M n hs ls):∀(j:Nat) x y,(rowH n hs ls)[j]? =some x ->((grF n ls).map natsD)[j]? =some y ->N5 M x y:=by
 intro j x y hx hy;have hj:j<n:=by have:=(List.getElem?_eq_some_iff.1 hx).1;rwa [C9] at this
 rw [F6 hj] at hx;injection hx with hx
 rw [getg (by rw [GI];exact hj),NJ hj] at hy;injection hy with hy
 subst hx hy;exact .inr ⟨hs j,3,(ls j).map natD,by rw [List.length_map],h.at_ j hj,fun z hz=>by obtain ⟨a,_,rfl⟩:=List.mem_map.1 hz;rfl,rfl⟩
theorem HF (n:Nat) (hs:Nat ->Hd) (ls:Nat ->List Nat):∀x∈rowH n hs ls,x.one=true:=fun x hx=>by
 obtain ⟨a,_,rfl⟩:=List.mem_map.1 hx;rfl
theorem RI (g:List (List Nat)):∀x∈g.map natsD,x.one=true:=fun x hx=>by
 obtain ⟨a,_,rfl⟩:=List.mem_map.1 hx;rfl
theorem Mn (n:Nat):∀(j:Nat) x y,(List.replicate n (D.sl (some true) []))[j]? =some x ->(rowH n (fun _=>none) (fun _=> []))[j]? =some y ->∀w O v,AM w O x v ->AM w O y v:=by
 intro j x y hx hy w O v hr;have hj:j<n:=by have:=(List.getElem?_eq_some_iff.1 hx).1;rwa [List.length_replicate] at this
 rw [F6 hj] at hy;injection hy with hy
 have hx':x=D.sl (some true) []:=by rw [List.getElem?_replicate,if_pos hj] at hx;injection hx with hx;exact hx.symm
 subst hx' hy;exact hr.nrm1
theorem Oc (n:Nat):∀x∈List.replicate n (D.sl (some true) []),x.one=true:=fun x hx=>by rw [(List.mem_replicate.1 hx).2];rfl
def EF (g:List (List Nat)) (i k j:Nat):List Nat:=((List.range i).flatMap fun a=>List.replicate ((CF g a).count j) a)++List.replicate (((CF g i).take k).count j) i
def revL (g:List (List Nat)) (j:Nat):List Nat:=(List.range g.length).flatMap fun a=>List.replicate ((CF g a).count j) a
def P1 (g:List (List Nat)):List (List Nat):=grF g.length (revL g)
theorem PZ (g:List (List Nat)):EF g 0 0=fun _=> []:=by funext j;simp [EF]
theorem MV (g:List (List Nat)) (i:Nat):EF g i (CF g i).length=EF g (i+1) 0:=by
 funext j
 unfold EF;rw [List.take_length,List.range_succ,List.flatMap_append]
 simp
theorem P0 {g:List (List Nat)} {i k:Nat} (hk:k<(CF g i).length):Ap (EF g i k) (CO (CF g i) k) (EF g i k (CO (CF g i) k)++ [i])=EF g i (k+1):=by
 funext j
 by_cases e:j=CO (CF g i) k
 ·subst e;rw [Di];unfold EF;rw [JA hk,if_pos rfl,List.replicate_succ',List.append_assoc]
 ·rw [EV e];unfold EF;rw [JA hk,if_neg fun h=>e h.symm,Nat.add_zero]
theorem Qh (g:List (List Nat)):EF g g.length 0=revL g:=by funext j;simp [EF,revL]
theorem Qg {g:List (List Nat)} (hg:GB g) {i:Nat} (hi:i<g.length) (k j:Nat):(EF g i k j).length≤69000000000:=by
 have key:∀m,m≤g.length ->((List.range m).flatMap fun a=>List.replicate ((CF g a).count j) a).length≤m*1048576:=by
  intro m
  induction m with
  | zero=>intro _;exact Nat.zero_le _
  | succ m ih=>
   intro hm;have h1:=ih (by omega);have h2:=List.count_le_length (a:=j) (l:=CF g m);have h3:=hg.len (i:=m) (by omega);rw [List.range_succ,List.flatMap_append,List.length_append,Nat.succ_mul];refine Nat.add_le_add h1 ?_
   simp;omega
 have h1:=key i (by omega);have h2:=List.count_le_length (a:=j) (l:=(CF g i).take k);have h3:=hg.len hi;have h4:=hg.n;rw [List.length_take] at h2;unfold EF;rw [List.length_append,List.length_replicate];omega
end Go.Proofs.YtlmedakidpaeeaaGreat
