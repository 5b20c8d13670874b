/- What the walk wants of the types of this program. -/
import Derived.Test.YtlmedakidpaeeaaMg11
import Derived.Test.YtlmedakidpaeeaaRows
namespace Go.Proofs.Ytlmedakidpaeeaa
open Go.RowKit
theorem mixed:Try.prog.follows .mixedOrders=true:=by kernel_rfl
theorem Dn:A1 Try.prog 3 1=true:=by kernel_rfl
theorem Co:BE Try.prog 3=true:=by kernel_rfl
theorem zd3:Fa Try.prog 3=some (.raw (.int .i64 0)):=by kernel_rfl
theorem sz4:A1 Try.prog 4 1=true:=by kernel_rfl
theorem on4:BE Try.prog 4=true:=by kernel_rfl
theorem zd4:Fa Try.prog 4=some (.raw (.bool false)):=by kernel_rfl
theorem Mm:A1 Try.prog 9 1=true:=by kernel_rfl
theorem As:BE Try.prog 9=true:=by kernel_rfl
theorem A8:BE Try.prog 23=true:=by kernel_rfl
theorem Fc:A1 Try.prog 25 1=true:=by kernel_rfl
theorem on25:BE Try.prog 25=true:=by kernel_rfl
theorem zl25:BK Try.prog 25=some [.d (.raw (.int .i64 0))]:=by kernel_rfl
theorem sl27:SlTy Try.prog 27 5 1 1:=DO (by kernel_rfl)
theorem GW:A1 Try.prog 32 1=true:=by kernel_rfl
theorem CG:BE Try.prog 32=true:=by kernel_rfl
theorem EX:SlTy Try.prog 32 9 1 16:=DO (by kernel_rfl)
theorem sz39:A1 Try.prog 39 2=true:=by kernel_rfl
theorem BW:E3 Try.prog 39 2=true:=by kernel_rfl
theorem Ie:Aj Try.prog 39 0=some (0,1,false):=by kernel_rfl
theorem BY:Aj Try.prog 39 1=some (1,1,false):=by kernel_rfl
theorem pl39:Dx Try.prog 39=some [(0,1),(1,1)]:=by kernel_rfl
theorem Mq:BK Try.prog 39=some [.d (.raw (.int .i64 0)),.d (.raw (.string ⟨#[]⟩))]:=by kernel_rfl
theorem sl47:SlTy Try.prog 47 51 2 48:=DO (by kernel_rfl)
theorem CC:A1 Try.prog 49 1=true:=by kernel_rfl
theorem A7:BE Try.prog 49=true:=by kernel_rfl
theorem zl49:BK Try.prog 49=some [.d (.sl (some true) [])]:=by kernel_rfl
theorem zd49:Fa Try.prog 49=some (.sl (some true) []):=by kernel_rfl
theorem Iq:SlTy Try.prog 49 3 1 8:=DO (by kernel_rfl)
theorem Ik:A1 Try.prog 51 2=true:=by kernel_rfl
theorem rw51:E3 Try.prog 51 2=true:=by kernel_rfl
theorem Ck:Aj Try.prog 51 0=some (0,1,false):=by kernel_rfl
theorem Ey:Aj Try.prog 51 1=some (1,1,false):=by kernel_rfl
theorem pl51:Dx Try.prog 51=some [(0,1),(1,1)]:=by kernel_rfl
theorem zl51:BK Try.prog 51=some [.d (.sl (some true) []),.d (.sl (some true) [])]:=by kernel_rfl
theorem Ch:BE Try.prog 66=true:=by kernel_rfl
theorem Ar:Aj Try.prog 68 0=some (0,1,false):=by kernel_rfl
theorem pl68:Dx Try.prog 68=some [(0,1)]:=by kernel_rfl
theorem zl68:BK Try.prog 68=some [.d (.raw (.map none))]:=by kernel_rfl
theorem sz79:A1 Try.prog 79 1=true:=by kernel_rfl
theorem Cg:BE Try.prog 79=true:=by kernel_rfl
theorem zl79:BK Try.prog 79=some [.d (.sl (some true) [])]:=by kernel_rfl
theorem sl79:SlTy Try.prog 79 32 1 24:=DO (by kernel_rfl)
theorem sz80:A1 Try.prog 80 1=true:=by kernel_rfl
theorem Dd:BE Try.prog 80=true:=by kernel_rfl
theorem zl80:BK Try.prog 80=some [.d (.raw (.map none))]:=by kernel_rfl
theorem sl99:SlTy Try.prog 99 4 1 1:=DO (by kernel_rfl)
theorem sl101:SlTy Try.prog 101 49 1 24:=DO (by kernel_rfl)
theorem sz106:A1 Try.prog 106 1=true:=by kernel_rfl
theorem N1:BE Try.prog 106=true:=by kernel_rfl
theorem zl106:BK Try.prog 106=some [.d (.raw (.map none))]:=by kernel_rfl
theorem sz108:A1 Try.prog 108 1=true:=by kernel_rfl
theorem IN:BE Try.prog 108=true:=by kernel_rfl
theorem zl108:BK Try.prog 108=some [.d (.raw .nilFunc)]:=by kernel_rfl
theorem Dy:At Try.prog 66 9 69=true:=by kernel_rfl
theorem FV:Ak Try.prog 9 AP J6:=Ak.str Try.underlying9
theorem Gq:CA Try.prog 69=some (.d (.raw (.map none))):=by kernel_rfl
theorem Kv:At Try.prog 69 39 4=true:=by kernel_rfl
theorem za4:CA Try.prog 4=some (.d (.raw (.bool false))):=by kernel_rfl
theorem GY:At Try.prog 80 9 3=true:=by kernel_rfl
theorem za3:CA Try.prog 3=some (.d (.raw (.int .i64 0))):=by kernel_rfl
theorem Jx:At Try.prog 106 9 32=true:=by kernel_rfl
theorem za32:CA Try.prog 32=some (.d (.sl (some true) [])):=by kernel_rfl
abbrev G1 (n:Int):D:= .raw (.int .i64 n)
abbrev D9 (b:Bool):D:= .raw (.bool b)
abbrev natD (n:Nat):D:=G1 (n:Int)
abbrev natsD (l:List Nat):D:= .sl none (l.map natD)
theorem FZ {l:List Nat} {k:Nat} (h:k<l.length):(l.map natD)[k]?=some (natD (Bz l k)):=by rw [Mb h,Bl h]
theorem AO.top {P:Program} {f:FuncId} {args:List AV} {CH H0:Hp} (h:AO P f args CH fun r H'=>(∃b:Bool,r= .d (D9 b))∧H'=H0):AO P f args CH fun r H'=>r= .top∧H'=H0:=
 ⟨h.1,fun F ρ vs h1 h2 h2' h3 h4 h5=>(h.2 F ρ vs h1 h2 h2' h3 h4 h5).mono fun e w' ⟨v,r,H',ρ',e1,⟨_,e3⟩,_,hh⟩=>⟨v,.top,H',ρ',e1,⟨rfl,e3⟩,.top,hh⟩⟩
abbrev grD (g:List (List Nat)):D:= .sl none (g.map natsD)
structure GB (g:List (List Nat)):Prop where
 n:g.length≤65536
 e:∀l∈g,l.length≤1048576
 lt:∀l∈g,∀x∈l,x<g.length
theorem FB {g:List (List Nat)} {i:Nat} (h:i<g.length):Ho g i=g[i]:=by simp [Ho,h]
theorem getg {g:List (List Nat)} {i:Nat} (h:i<g.length):(g.map natsD)[i]?=some (natsD (Ho g i)):=by rw [Mb h,FB h]
theorem GB.len {g:List (List Nat)} (h:GB g) {i:Nat} (hi:i<g.length):(Ho g i).length≤1048576:=by rw [FB hi];exact h.e _ (List.getElem_mem hi)
theorem GB.suc {g:List (List Nat)} (h:GB g) {i x:Nat} (hi:i<g.length) (hx:x∈Ho g i):x<g.length:=by rw [FB hi] at hx;exact h.lt _ (List.getElem_mem hi) x hx
def cntT (g:List (List Nat)) (i j:Nat):Nat:=((List.range i).map fun a=>(Ho g a).count j).sum
structure FI (K:Nat ->Nat) (w:List Nat) (i:Nat) (l:List Nat):Prop where
 nd:l.Nodup
 mem:∀x,x∈l↔x<i∧Bz w x=0
 hp:Heap2 K l
theorem FI.le {K:Nat ->Nat} {w:List Nat} {i:Nat} {l:List Nat} (h:FI K w i l):l.length≤i:=by
 have:=Nf h.nd (m:=List.range i) fun x hx=>List.mem_range.2 ((h.mem x).1 hx).1
 rwa [List.length_range] at this
structure CW (g:List (List Nat)) (i k:Nat) (w:List Nat):Prop where
 len:w.length=g.length
 val:∀j,j<g.length ->Bz w j=cntT g i j+((Ho g i).take k).count j
abbrev rowN (n:Nat) (f:Nat ->Nat):List D:=(List.range n).map fun v=>natD (f v)
abbrev Jh (n:Nat) (f:Nat ->Int):List D:=(List.range n).map fun v=>G1 (f v)
theorem HD {n i:Nat} {f:Nat ->Int} (h:i<n):(Jh n f)[i]?=some (G1 (f i)):=by simp [h]
theorem Gc {n i:Nat} {f h:Nat ->D} (he:∀j,j<n ->j≠i ->f j=h j) {x:D} (hx:x=h i):((List.range n).map f).set i x=(List.range n).map h:=by
 refine List.ext_getElem (by simp) fun j h1 h2=>?_;rw [List.getElem_set];simp only [List.length_map,List.length_range] at h2;simp only [List.getElem_map,List.getElem_range]
 by_cases e:i=j
 ·subst e;rw [if_pos rfl];exact hx
 ·rw [if_neg e];exact he j h2 fun e'=>e e'.symm
theorem Jf {n i:Nat} {x:Int} {f:Nat ->Int}:(Jh n f).set i (G1 x)=Jh n (A3 f i x):=
 Gc (fun j _ hne=>by rw [Dh hne]) (by rw [D5])
theorem Jg (n:Nat) (f:Nat ->Int):(Jh n f).length=n:=by simp
theorem repI (n:Nat):List.replicate n (D.raw (.int .i64 0))=Jh n (fun _=>0):=by
 refine List.ext_getElem (by simp) fun j h1 h2=>?_
 simp
def pend:Option Nat ->List (Nat×Nat)
 | none=> []
 | some v=> [(v,0)]
structure TH (n:Nat) (suc:Nat ->List Nat) (r:Nat) (S:TS) (p:Option Nat):Prop where
 ti:TI n suc S p
 k1:∀f∈S.cs,1≤f.2
 old:∀v,v<r ->S.idx v≠0
 rt:S.idx r≠0∨p=some r
structure TB (n:Nat) (suc:Nat ->List Nat) (r:Nat) (S:TS) (cs0:List (Nat×Nat)) (v k:Nat):Prop where
 ti:TI n suc S none
 hcs:S.cs=cs0++ [(v,k)]
 k1:∀f∈cs0,1≤f.2
 old:∀v,v<r ->S.idx v≠0
 rt:S.idx r≠0
structure F8 (M:MF) (n:Nat) (hs:Nat ->Hd) (ls:Nat ->List Nat):Prop where
 at_:∀j,j<n ->IH M (hs j) 3 1 ((ls j).map natD)
 inj:∀j k b c c',j<n ->k<n ->hs j=some (b,c) ->hs k=some (b,c') ->j=k
abbrev rowH (n:Nat) (hs:Nat ->Hd) (ls:Nat ->List Nat):List D:=(List.range n).map fun j=>hdr (hs j) (ls j).length
theorem FH {n j:Nat} {hs:Nat ->Hd} {ls:Nat ->List Nat} (h:j<n):(rowH n hs ls)[j]?=some (hdr (hs j) (ls j).length):=by simp [h]
theorem DB (n:Nat) (hs:Nat ->Hd) (ls:Nat ->List Nat):(rowH n hs ls).length=n:=by simp
theorem HE {n j:Nat} {hs:Nat ->Hd} {ls:Nat ->List Nat} {h:Hd} {l:List Nat}:(rowH n hs ls).set j (hdr h l.length)=rowH n (A3 hs j h) (A3 ls j l):=
 Gc (fun i _ hne=>by rw [Dh hne,Dh hne]) (by rw [D5,D5])
theorem F8.zero (n:Nat):F8 (fun _=>none) n (fun _=>none) (fun _=> []):=⟨fun _ _=>rfl,fun _ _ _ _ _ _ _ h=>by cases h⟩
theorem F8.app {M:MF} {n j:Nat} {hs:Nat ->Hd} {ls:Nat ->List Nat} (h:F8 M n hs ls) (hj:j<n) {l:List Nat} {b c:Nat} (hb:CF M (hs j) b=none) (hc:(l.map natD).length≤c):
  F8 (Ax (CF M (hs j)) b (.row 3 1 c (l.map natD))) n (A3 hs j (some (b,c))) (A3 ls j l):=by
 have hne:∀k,k<n ->k≠j ->∀b' c',hs k=some (b',c') ->b'≠b∧Ax (CF M (hs j)) b (.row 3 1 c (l.map natD)) b'=M b':=by
  intro k hk hkj b' c' e;have h1:=h.at_ k hk;rw [e] at h1;have h2:∀c'',hs j≠some (b',c''):=fun c'' e2=>hkj (h.inj k j b' c' c'' hk hj e e2);refine ⟨fun e3=>?_,?_⟩
  ·subst e3;have:=DV h1.2 h2;rw [hb] at this;cases this
  ·rw [Nt hb h1.2 h2,h1.2]
 refine ⟨fun k hk=>?_,fun k k' b1 c1 c2 hk hk' e1 e2=>?_⟩
 ·by_cases e:k=j
  ·subst e;rw [D5,D5];exact ⟨hc,Di _ _ _⟩
  ·rw [Dh e,Dh e];have h1:=h.at_ k hk
   match hh:hs k,h1 with
   | none,h1=>exact h1
   | some (b',c'),h1=>exact ⟨h1.1,by rw [(hne k hk e b' c' hh).2];exact h1.2⟩
 ·by_cases ek:k=j<;>by_cases ek':k'=j
  ·rw [ek,ek']
  ·subst ek;rw [D5] at e1;rw [Dh ek'] at e2;injection e1 with e1;injection e1 with e1 _;subst e1
   exact ((hne k' hk' ek' _ _ e2).1 rfl).elim
  ·subst ek';rw [D5] at e2;rw [Dh ek] at e1;injection e2 with e2;injection e2 with e2 _;subst e2
   exact ((hne k hk ek _ _ e1).1 rfl).elim
  ·rw [Dh ek] at e1;rw [Dh ek'] at e2;exact h.inj k k' b1 c1 c2 hk hk' e1 e2
def grF (n:Nat) (ls:Nat ->List Nat):List (List Nat):=(List.range n).map ls
theorem Gf (n:Nat) (ls:Nat ->List Nat):(grF n ls).length=n:=by simp [grF]
theorem OE {n i:Nat} {ls:Nat ->List Nat} (h:i<n):Ho (grF n ls) i=ls i:=by
 rw [FB (by rw [Gf];exact h)];simp [grF]
theorem F8.melt {M:MF} {n:Nat} {hs:Nat ->Hd} {ls:Nat ->List Nat} (h:F8 M n hs ls):∀(j:Nat) x y,(rowH n hs ls)[j]?=some x ->((grF n ls).map natsD)[j]?=some y ->K5 M x y:=by
 intro j x y hx hy;have hj:j<n:=by have:=(List.getElem?_eq_some_iff.1 hx).1;rwa [DB] at this
 rw [FH hj] at hx;injection hx with hx
 rw [getg (by rw [Gf];exact hj),OE hj] at hy;injection hy with hy
 subst hx hy;exact .inr ⟨hs j,3,(ls j).map natD,by rw [List.length_map],h.at_ j hj,fun z hz=>by obtain ⟨a,_,rfl⟩:=List.mem_map.1 hz;rfl,rfl⟩
theorem Jn (n:Nat) (hs:Nat ->Hd) (ls:Nat ->List Nat):∀x∈rowH n hs ls,x.one=true:=fun x hx=>by
 obtain ⟨a,_,rfl⟩:=List.mem_map.1 hx;rfl
theorem one_gr (g:List (List Nat)):∀x∈g.map natsD,x.one=true:=fun x hx=>by
 obtain ⟨a,_,rfl⟩:=List.mem_map.1 hx;rfl
theorem Ng (n:Nat):∀(j:Nat) x y,(List.replicate n (D.sl (some true) []))[j]?=some x ->(rowH n (fun _=>none) (fun _=> []))[j]?=some y ->∀w O v,AK w O x v ->AK w O y v:=by
 intro j x y hx hy w O v hr;have hj:j<n:=by have:=(List.getElem?_eq_some_iff.1 hx).1;rwa [List.length_replicate] at this
 rw [FH hj] at hy;injection hy with hy
 have hx':x=D.sl (some true) []:=by rw [List.getElem?_replicate,if_pos hj] at hx;injection hx with hx;exact hx.symm
 subst hx' hy;exact hr.nrm1
theorem one_nil (n:Nat):∀x∈List.replicate n (D.sl (some true) []),x.one=true:=fun x hx=>by rw [(List.mem_replicate.1 hx).2];rfl
end Go.Proofs.Ytlmedakidpaeeaa
