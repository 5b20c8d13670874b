/- What the walk wants of the types of this program. -/
import Derived.Test.YtlmedakidpaeeaaMg12
import Derived.Test.YtlmedakidpaeeaaRows
namespace Go.Proofs.Ytlmedakidpaeeaa
open Go.RowKit
theorem mixed:Try.prog.follows .mixedOrders=true:=by kernel_rfl
theorem D7:Ag Try.prog 3 1=true:=by kernel_rfl
theorem Bf:Bj Try.prog 3=true:=by kernel_rfl
theorem zd3:HH Try.prog 3=some (.raw (.int .i64 0)):=by kernel_rfl
theorem PL:Ag Try.prog 4 1=true:=by kernel_rfl
theorem on4:Bj Try.prog 4=true:=by kernel_rfl
theorem zd4:HH Try.prog 4=some (.raw (.bool false)):=by kernel_rfl
theorem DO:Ag Try.prog 9 1=true:=by kernel_rfl
theorem AY:Bj Try.prog 9=true:=by kernel_rfl
theorem BG:Bj Try.prog 23=true:=by kernel_rfl
theorem HK:Ag Try.prog 25 1=true:=by kernel_rfl
theorem on25:Bj Try.prog 25=true:=by kernel_rfl
theorem zl25:Be Try.prog 25=some [.d (.raw (.int .i64 0))]:=by kernel_rfl
theorem CG:Ag Try.prog 32 1=true:=by kernel_rfl
theorem AL:Bj Try.prog 32=true:=by kernel_rfl
theorem Bg:SlTy Try.prog 32 9 1 16:=Df (by kernel_rfl)
theorem sz33:Ag Try.prog 33 1=true:=by kernel_rfl
theorem Al:Bj Try.prog 33=true:=by kernel_rfl
theorem FD:SlTy Try.prog 33 71 3 40:=Df (by kernel_rfl)
theorem Bd:Ag Try.prog 35 2=true:=by kernel_rfl
theorem AK:Di Try.prog 35 2=true:=by kernel_rfl
theorem A7:Ac Try.prog 35 0=some (0,1,false):=by kernel_rfl
theorem Ab:Ac Try.prog 35 1=some (1,1,false):=by kernel_rfl
theorem Lq:Cv Try.prog 35=some [(0,1),(1,1)]:=by kernel_rfl
theorem D6:Be Try.prog 35=some [.d (.sl (some true) []),.d (.sl (some true) [])]:=by kernel_rfl
theorem sz39:Ag Try.prog 39 2=true:=by kernel_rfl
theorem As:Di Try.prog 39 2=true:=by kernel_rfl
theorem IF:Ac Try.prog 39 0=some (0,1,false):=by kernel_rfl
theorem CC:Ac Try.prog 39 1=some (1,1,false):=by kernel_rfl
theorem Pu:Cv Try.prog 39=some [(0,1),(1,1)]:=by kernel_rfl
theorem LV:Be Try.prog 39=some [.d (.raw (.int .i64 0)),.d (.raw (.string ⟨#[]⟩))]:=by kernel_rfl
theorem G8:Ag Try.prog 41 4=true:=by kernel_rfl
theorem FE:Di Try.prog 41 4=true:=by kernel_rfl
theorem Dz:Ac Try.prog 41 0=some (0,1,false):=by kernel_rfl
theorem F7:Ac Try.prog 41 1=some (1,1,false):=by kernel_rfl
theorem K6:Ac Try.prog 41 2=some (2,2,true):=by kernel_rfl
theorem sl47:SlTy Try.prog 47 51 2 48:=Df (by kernel_rfl)
theorem Cn:Ag Try.prog 49 1=true:=by kernel_rfl
theorem Ae:Bj Try.prog 49=true:=by kernel_rfl
theorem zl49:Be Try.prog 49=some [.d (.sl (some true) [])]:=by kernel_rfl
theorem zd49:HH Try.prog 49=some (.sl (some true) []):=by kernel_rfl
theorem FP:SlTy Try.prog 49 3 1 8:=Df (by kernel_rfl)
theorem DV:Ag Try.prog 51 2=true:=by kernel_rfl
theorem rw51:Di Try.prog 51 2=true:=by kernel_rfl
theorem K7:Ac Try.prog 51 0=some (0,1,false):=by kernel_rfl
theorem Cf:Ac Try.prog 51 1=some (1,1,false):=by kernel_rfl
theorem pl51:Cv Try.prog 51=some [(0,1),(1,1)]:=by kernel_rfl
theorem zl51:Be Try.prog 51=some [.d (.sl (some true) []),.d (.sl (some true) [])]:=by kernel_rfl
theorem sz66:Ag Try.prog 66 1=true:=by kernel_rfl
theorem Bk:Bj Try.prog 66=true:=by kernel_rfl
theorem A5:Ac Try.prog 68 0=some (0,1,false):=by kernel_rfl
theorem pl68:Cv Try.prog 68=some [(0,1)]:=by kernel_rfl
theorem zl68:Be Try.prog 68=some [.d (.raw (.map none))]:=by kernel_rfl
theorem CF:Ag Try.prog 71 3=true:=by kernel_rfl
theorem Ar:Di Try.prog 71 3=true:=by kernel_rfl
theorem CD:Ac Try.prog 71 0=some (0,1,false):=by kernel_rfl
theorem K8:Ac Try.prog 71 1=some (1,1,false):=by kernel_rfl
theorem Cg:Ac Try.prog 71 2=some (2,1,false):=by kernel_rfl
theorem pl71:Cv Try.prog 71=some [(0,1),(1,1),(2,1)]:=by kernel_rfl
theorem zl71:Be Try.prog 71=some [.d (.raw (.string ⟨#[]⟩)),.d (.raw (.int .i64 0)),.d (.raw (.string ⟨#[]⟩))]:=by kernel_rfl
theorem sl73:SlTy Try.prog 73 76 2 48:=Df (by kernel_rfl)
theorem HJ:Ag Try.prog 76 2=true:=by kernel_rfl
theorem rw76:Di Try.prog 76 2=true:=by kernel_rfl
theorem Dy:Ac Try.prog 76 0=some (0,1,false):=by kernel_rfl
theorem G2:Ac Try.prog 76 1=some (1,1,false):=by kernel_rfl
theorem pl76:Cv Try.prog 76=some [(0,1),(1,1)]:=by kernel_rfl
theorem zl76:Be Try.prog 76=some [.d (.sl (some true) []),.d (.sl (some true) [])]:=by kernel_rfl
theorem sz79:Ag Try.prog 79 1=true:=by kernel_rfl
theorem Dv:Bj Try.prog 79=true:=by kernel_rfl
theorem zl79:Be Try.prog 79=some [.d (.sl (some true) [])]:=by kernel_rfl
theorem Mw:SlTy Try.prog 79 32 1 24:=Df (by kernel_rfl)
theorem sz80:Ag Try.prog 80 1=true:=by kernel_rfl
theorem FF:Bj Try.prog 80=true:=by kernel_rfl
theorem zl80:Be Try.prog 80=some [.d (.raw (.map none))]:=by kernel_rfl
theorem sl99:SlTy Try.prog 99 4 1 1:=Df (by kernel_rfl)
theorem sl101:SlTy Try.prog 101 49 1 24:=Df (by kernel_rfl)
theorem sz106:Ag Try.prog 106 1=true:=by kernel_rfl
theorem QH:Bj Try.prog 106=true:=by kernel_rfl
theorem zl106:Be Try.prog 106=some [.d (.raw (.map none))]:=by kernel_rfl
theorem sz108:Ag Try.prog 108 1=true:=by kernel_rfl
theorem KC:Bj Try.prog 108=true:=by kernel_rfl
theorem zl108:Be Try.prog 108=some [.d (.raw .nilFunc)]:=by kernel_rfl
theorem Bu:BZ Try.prog 66 9 69=true:=by kernel_rfl
theorem Ec:BS Try.prog 9 AZ Ke:=BS.str Try.underlying9
theorem EH:C9 Try.prog 69=some (.d (.raw (.map none))):=by kernel_rfl
theorem FT:BZ Try.prog 69 39 4=true:=by kernel_rfl
theorem za4:C9 Try.prog 4=some (.d (.raw (.bool false))):=by kernel_rfl
theorem Hu:BZ Try.prog 80 9 3=true:=by kernel_rfl
theorem za3:C9 Try.prog 3=some (.d (.raw (.int .i64 0))):=by kernel_rfl
theorem MH:BZ Try.prog 106 9 32=true:=by kernel_rfl
theorem za32:C9 Try.prog 32=some (.d (.sl (some true) [])):=by kernel_rfl
abbrev Bv (n:Int):D:= .raw (.int .i64 n)
abbrev Ak (b:Bool):D:= .raw (.bool b)
abbrev natD (n:Nat):D:=Bv (n:Int)
abbrev natsD (l:List Nat):D:= .sl none (l.map natD)
theorem D0 {l:List Nat} {k:Nat} (h:k<l.length):(l.map natD)[k]?=some (natD (C6 l k)):=by rw [Ox h,Cj h]
theorem AR.top {P:Program} {f:FuncId} {args:List AV} {CH H0:Hp} (h:AR P f args CH fun r H'=>(∃b:Bool,r= .d (Ak b))∧H'=H0):AR P f args CH fun r H'=>r= .top∧H'=H0:=
 ⟨h.1,fun F ρ vs h1 h2 h2' h3 h4 h5=>(h.2 F ρ vs h1 h2 h2' h3 h4 h5).mono fun e w' ⟨v,r,H',ρ',e1,⟨_,e3⟩,_,hh⟩=>⟨v,.top,H',ρ',e1,⟨rfl,e3⟩,.top,hh⟩⟩
abbrev grD (g:List (List Nat)):D:= .sl none (g.map natsD)
structure GB (g:List (List Nat)):Prop where
 n:g.length≤65536
 e:∀l∈g,l.length≤1048576
 lt:∀l∈g,∀x∈l,x<g.length
theorem G9 {g:List (List Nat)} {i:Nat} (h:i<g.length):J2 g i=g[i]:=by simp [J2,h]
theorem getg {g:List (List Nat)} {i:Nat} (h:i<g.length):(g.map natsD)[i]?=some (natsD (J2 g i)):=by rw [Ox h,G9 h]
theorem GB.len {g:List (List Nat)} (h:GB g) {i:Nat} (hi:i<g.length):(J2 g i).length≤1048576:=by rw [G9 hi];exact h.e _ (List.getElem_mem hi)
theorem GB.suc {g:List (List Nat)} (h:GB g) {i x:Nat} (hi:i<g.length) (hx:x∈J2 g i):x<g.length:=by rw [G9 hi] at hx;exact h.lt _ (List.getElem_mem hi) x hx
def cntT (g:List (List Nat)) (i j:Nat):Nat:=((List.range i).map fun a=>(J2 g a).count j).sum
structure FI (K:Nat ->Nat) (w:List Nat) (i:Nat) (l:List Nat):Prop where
 nd:l.Nodup
 mem:∀x,x∈l↔x<i∧C6 w x=0
 hp:Heap2 K l
theorem FI.le {K:Nat ->Nat} {w:List Nat} {i:Nat} {l:List Nat} (h:FI K w i l):l.length≤i:=by
 have:=QT h.nd (m:=List.range i) fun x hx=>List.mem_range.2 ((h.mem x).1 hx).1
 rwa [List.length_range] at this
structure CW (g:List (List Nat)) (i k:Nat) (w:List Nat):Prop where
 len:w.length=g.length
 val:∀j,j<g.length ->C6 w j=cntT g i j+((J2 g i).take k).count j
abbrev rowN (n:Nat) (f:Nat ->Nat):List D:=(List.range n).map fun v=>natD (f v)
abbrev Lg (n:Nat) (f:Nat ->Int):List D:=(List.range n).map fun v=>Bv (f v)
theorem Ic {n i:Nat} {f:Nat ->Int} (h:i<n):(Lg n f)[i]?=some (Bv (f i)):=by simp [h]
theorem IL {n i:Nat} {f h:Nat ->D} (he:∀j,j<n ->j≠i ->f j=h j) {x:D} (hx:x=h i):((List.range n).map f).set i x=(List.range n).map h:=by
 refine List.ext_getElem (by simp) fun j h1 h2=>?_;rw [List.getElem_set];simp only [List.length_map,List.length_range] at h2;simp only [List.getElem_map,List.getElem_range]
 by_cases e:i=j
 ·subst e;rw [if_pos rfl];exact hx
 ·rw [if_neg e];exact he j h2 fun e'=>e e'.symm
theorem Lc {n i:Nat} {x:Int} {f:Nat ->Int}:(Lg n f).set i (Bv x)=Lg n (An f i x):=
 IL (fun j _ hne=>by rw [E6 hne]) (by rw [Ds])
theorem Ld (n:Nat) (f:Nat ->Int):(Lg n f).length=n:=by simp
theorem repI (n:Nat):List.replicate n (D.raw (.int .i64 0))=Lg n (fun _=>0):=by
 refine List.ext_getElem (by simp) fun j h1 h2=>?_
 simp
def pend:Option Nat ->List (Nat×Nat)
 | none=> []
 | some v=> [(v,0)]
structure TH (n:Nat) (suc:Nat ->List Nat) (r:Nat) (S:TS) (p:Option Nat):Prop where
 ti:TI n suc S p
 k1:∀f∈S.cs,1≤f.2
 old:∀v,v<r ->S.idx v≠0
 rt:S.idx r≠0∨p=some r
structure TB (n:Nat) (suc:Nat ->List Nat) (r:Nat) (S:TS) (cs0:List (Nat×Nat)) (v k:Nat):Prop where
 ti:TI n suc S none
 hcs:S.cs=cs0++ [(v,k)]
 k1:∀f∈cs0,1≤f.2
 old:∀v,v<r ->S.idx v≠0
 rt:S.idx r≠0
structure HE (M:MF) (n:Nat) (hs:Nat ->Hd) (ls:Nat ->List Nat):Prop where
 at_:∀j,j<n ->Ju M (hs j) 3 1 ((ls j).map natD)
 inj:∀j k b c c',j<n ->k<n ->hs j=some (b,c) ->hs k=some (b,c') ->j=k
abbrev rowH (n:Nat) (hs:Nat ->Hd) (ls:Nat ->List Nat):List D:=(List.range n).map fun j=>hdr (hs j) (ls j).length
theorem Gd {n j:Nat} {hs:Nat ->Hd} {ls:Nat ->List Nat} (h:j<n):(rowH n hs ls)[j]?=some (hdr (hs j) (ls j).length):=by simp [h]
theorem ER (n:Nat) (hs:Nat ->Hd) (ls:Nat ->List Nat):(rowH n hs ls).length=n:=by simp
theorem Id {n j:Nat} {hs:Nat ->Hd} {ls:Nat ->List Nat} {h:Hd} {l:List Nat}:(rowH n hs ls).set j (hdr h l.length)=rowH n (An hs j h) (An ls j l):=
 IL (fun i _ hne=>by rw [E6 hne,E6 hne]) (by rw [Ds,Ds])
theorem HE.zero (n:Nat):HE (fun _=>none) n (fun _=>none) (fun _=> []):=⟨fun _ _=>rfl,fun _ _ _ _ _ _ _ h=>by cases h⟩
theorem HE.app {M:MF} {n j:Nat} {hs:Nat ->Hd} {ls:Nat ->List Nat} (h:HE M n hs ls) (hj:j<n) {l:List Nat} {b c:Nat} (hb:DF M (hs j) b=none) (hc:(l.map natD).length≤c):
  HE (BD (DF M (hs j)) b (.row 3 1 c (l.map natD))) n (An hs j (some (b,c))) (An ls j l):=by
 have hne:∀k,k<n ->k≠j ->∀b' c',hs k=some (b',c') ->b'≠b∧BD (DF M (hs j)) b (.row 3 1 c (l.map natD)) b'=M b':=by
  intro k hk hkj b' c' e;have h1:=h.at_ k hk;rw [e] at h1;have h2:∀c'',hs j≠some (b',c''):=fun c'' e2=>hkj (h.inj k j b' c' c'' hk hj e e2);refine ⟨fun e3=>?_,?_⟩
  ·subst e3;have:=En h1.2 h2;rw [hb] at this;cases this
  ·rw [Qa hb h1.2 h2,h1.2]
 refine ⟨fun k hk=>?_,fun k k' b1 c1 c2 hk hk' e1 e2=>?_⟩
 ·by_cases e:k=j
  ·subst e;rw [Ds,Ds];exact ⟨hc,D3 _ _ _⟩
  ·rw [E6 e,E6 e];have h1:=h.at_ k hk
   match hh:hs k,h1 with
   | none,h1=>exact h1
   | some (b',c'),h1=>exact ⟨h1.1,by rw [(hne k hk e b' c' hh).2];exact h1.2⟩
 ·by_cases ek:k=j<;>by_cases ek':k'=j
  ·rw [ek,ek']
  ·subst ek;rw [Ds] at e1;rw [E6 ek'] at e2;injection e1 with e1;injection e1 with e1 _;subst e1
   exact ((hne k' hk' ek' _ _ e2).1 rfl).elim
  ·subst ek';rw [Ds] at e2;rw [E6 ek] at e1;injection e2 with e2;injection e2 with e2 _;subst e2
   exact ((hne k hk ek _ _ e1).1 rfl).elim
  ·rw [E6 ek] at e1;rw [E6 ek'] at e2;exact h.inj k k' b1 c1 c2 hk hk' e1 e2
def grF (n:Nat) (ls:Nat ->List Nat):List (List Nat):=(List.range n).map ls
theorem IT (n:Nat) (ls:Nat ->List Nat):(grF n ls).length=n:=by simp [grF]
theorem Ql {n i:Nat} {ls:Nat ->List Nat} (h:i<n):J2 (grF n ls) i=ls i:=by
 rw [G9 (by rw [IT];exact h)];simp [grF]
theorem HE.melt {M:MF} {n:Nat} {hs:Nat ->Hd} {ls:Nat ->List Nat} (h:HE M n hs ls):∀(j:Nat) x y,(rowH n hs ls)[j]?=some x ->((grF n ls).map natsD)[j]?=some y ->Mm M x y:=by
 intro j x y hx hy;have hj:j<n:=by have:=(List.getElem?_eq_some_iff.1 hx).1;rwa [ER] at this
 rw [Gd hj] at hx;injection hx with hx
 rw [getg (by rw [IT];exact hj),Ql hj] at hy;injection hy with hy
 subst hx hy;exact .inr ⟨hs j,3,(ls j).map natD,by rw [List.length_map],h.at_ j hj,fun z hz=>by obtain ⟨a,_,rfl⟩:=List.mem_map.1 hz;rfl,rfl⟩
theorem Lu (n:Nat) (hs:Nat ->Hd) (ls:Nat ->List Nat):∀x∈rowH n hs ls,x.one=true:=fun x hx=>by
 obtain ⟨a,_,rfl⟩:=List.mem_map.1 hx;rfl
theorem one_gr (g:List (List Nat)):∀x∈g.map natsD,x.one=true:=fun x hx=>by
 obtain ⟨a,_,rfl⟩:=List.mem_map.1 hx;rfl
theorem QU (n:Nat):∀(j:Nat) x y,(List.replicate n (D.sl (some true) []))[j]?=some x ->(rowH n (fun _=>none) (fun _=> []))[j]?=some y ->∀w O v,AQ w O x v ->AQ w O y v:=by
 intro j x y hx hy w O v hr;have hj:j<n:=by have:=(List.getElem?_eq_some_iff.1 hx).1;rwa [List.length_replicate] at this
 rw [Gd hj] at hy;injection hy with hy
 have hx':x=D.sl (some true) []:=by rw [List.getElem?_replicate,if_pos hj] at hx;injection hx with hx;exact hx.symm
 subst hx' hy;exact hr.nrm1
theorem one_nil (n:Nat):∀x∈List.replicate n (D.sl (some true) []),x.one=true:=fun x hx=>by rw [(List.mem_replicate.1 hx).2];rfl
end Go.Proofs.Ytlmedakidpaeeaa
