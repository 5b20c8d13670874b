/- What the walk wants of the types of this program. -/
import Derived.Test.YtlmedakidpaeeaaMg11
import Derived.Test.YtlmedakidpaeeaaRows
namespace Go.Proofs.Ytlmedakidpaeeaa
open Go.RowKit
theorem mixed:Try.prog.follows .mixedOrders=true:=by kernel_rfl
theorem EC:A2 Try.prog 3 1=true:=by kernel_rfl
theorem Cx:BG Try.prog 3=true:=by kernel_rfl
theorem zd3:Fk Try.prog 3=some (.raw (.int .i64 0)):=by kernel_rfl
theorem sz4:A2 Try.prog 4 1=true:=by kernel_rfl
theorem on4:BG Try.prog 4=true:=by kernel_rfl
theorem zd4:Fk Try.prog 4=some (.raw (.bool false)):=by kernel_rfl
theorem Ma:A2 Try.prog 9 1=true:=by kernel_rfl
theorem A4:BG Try.prog 9=true:=by kernel_rfl
theorem Aa:BG Try.prog 23=true:=by kernel_rfl
theorem FN:A2 Try.prog 25 1=true:=by kernel_rfl
theorem on25:BG Try.prog 25=true:=by kernel_rfl
theorem zl25:BM Try.prog 25=some [.d (.raw (.int .i64 0))]:=by kernel_rfl
theorem GV:A2 Try.prog 32 1=true:=by kernel_rfl
theorem CT:BG Try.prog 32=true:=by kernel_rfl
theorem Ea:SlTy Try.prog 32 9 1 16:=EY (by kernel_rfl)
theorem sz39:A2 Try.prog 39 2=true:=by kernel_rfl
theorem BE:Ei Try.prog 39 2=true:=by kernel_rfl
theorem I2:A6 Try.prog 39 0=some (0,1,false):=by kernel_rfl
theorem B7:A6 Try.prog 39 1=some (1,1,false):=by kernel_rfl
theorem pl39:EK Try.prog 39=some [(0,1),(1,1)]:=by kernel_rfl
theorem Mh:BM Try.prog 39=some [.d (.raw (.int .i64 0)),.d (.raw (.string ⟨#[]⟩))]:=by kernel_rfl
theorem Ca:A6 Try.prog 41 1=some (1,1,false):=by kernel_rfl
theorem Cs:A6 Try.prog 41 2=some (2,2,true):=by kernel_rfl
theorem sl47:SlTy Try.prog 47 51 2 48:=EY (by kernel_rfl)
theorem CM:A2 Try.prog 49 1=true:=by kernel_rfl
theorem Ad:BG Try.prog 49=true:=by kernel_rfl
theorem zl49:BM Try.prog 49=some [.d (.sl (some true) [])]:=by kernel_rfl
theorem zd49:Fk Try.prog 49=some (.sl (some true) []):=by kernel_rfl
theorem Ia:SlTy Try.prog 49 3 1 8:=EY (by kernel_rfl)
theorem I5:A2 Try.prog 51 2=true:=by kernel_rfl
theorem rw51:Ei Try.prog 51 2=true:=by kernel_rfl
theorem Cr:A6 Try.prog 51 0=some (0,1,false):=by kernel_rfl
theorem FK:A6 Try.prog 51 1=some (1,1,false):=by kernel_rfl
theorem pl51:EK Try.prog 51=some [(0,1),(1,1)]:=by kernel_rfl
theorem zl51:BM Try.prog 51=some [.d (.sl (some true) []),.d (.sl (some true) [])]:=by kernel_rfl
theorem DH:BG Try.prog 66=true:=by kernel_rfl
theorem Au:A6 Try.prog 68 0=some (0,1,false):=by kernel_rfl
theorem pl68:EK Try.prog 68=some [(0,1)]:=by kernel_rfl
theorem zl68:BM Try.prog 68=some [.d (.raw (.map none))]:=by kernel_rfl
theorem sz79:A2 Try.prog 79 1=true:=by kernel_rfl
theorem Cp:BG Try.prog 79=true:=by kernel_rfl
theorem zl79:BM Try.prog 79=some [.d (.sl (some true) [])]:=by kernel_rfl
theorem sl79:SlTy Try.prog 79 32 1 24:=EY (by kernel_rfl)
theorem sz80:A2 Try.prog 80 1=true:=by kernel_rfl
theorem Di:BG Try.prog 80=true:=by kernel_rfl
theorem zl80:BM Try.prog 80=some [.d (.raw (.map none))]:=by kernel_rfl
theorem sl99:SlTy Try.prog 99 4 1 1:=EY (by kernel_rfl)
theorem sl101:SlTy Try.prog 101 49 1 24:=EY (by kernel_rfl)
theorem sz106:A2 Try.prog 106 1=true:=by kernel_rfl
theorem NX:BG Try.prog 106=true:=by kernel_rfl
theorem zl106:BM Try.prog 106=some [.d (.raw (.map none))]:=by kernel_rfl
theorem sz108:A2 Try.prog 108 1=true:=by kernel_rfl
theorem IC:BG Try.prog 108=true:=by kernel_rfl
theorem zl108:BM Try.prog 108=some [.d (.raw .nilFunc)]:=by kernel_rfl
theorem Ec:Ar Try.prog 66 9 69=true:=by kernel_rfl
theorem F6:Al Try.prog 9 AP KV:=Al.str Try.underlying9
theorem Gc:CK Try.prog 69=some (.d (.raw (.map none))):=by kernel_rfl
theorem Kf:Ar Try.prog 69 39 4=true:=by kernel_rfl
theorem za4:CK Try.prog 4=some (.d (.raw (.bool false))):=by kernel_rfl
theorem GW:Ar Try.prog 80 9 3=true:=by kernel_rfl
theorem za3:CK Try.prog 3=some (.d (.raw (.int .i64 0))):=by kernel_rfl
theorem Jc:Ar Try.prog 106 9 32=true:=by kernel_rfl
theorem za32:CK Try.prog 32=some (.d (.sl (some true) [])):=by kernel_rfl
abbrev D2 (n:Int):D:= .raw (.int .i64 n)
abbrev CS (b:Bool):D:= .raw (.bool b)
abbrev natD (n:Nat):D:=D2 (n:Int)
abbrev natsD (l:List Nat):D:= .sl none (l.map natD)
theorem Fa {l:List Nat} {k:Nat} (h:k<l.length):(l.map natD)[k]?=some (natD (CC l k)):=by rw [MO h,Bl h]
theorem AO.top {P:Program} {f:FuncId} {args:List AV} {CH H0:Hp} (h:AO P f args CH fun r H'=>(∃b:Bool,r= .d (CS b))∧H'=H0):AO P f args CH fun r H'=>r= .top∧H'=H0:=
 ⟨h.1,fun F ρ vs h1 h2 h2' h3 h4 h5=>(h.2 F ρ vs h1 h2 h2' h3 h4 h5).mono fun e w' ⟨v,r,H',ρ',e1,⟨_,e3⟩,_,hh⟩=>⟨v,.top,H',ρ',e1,⟨rfl,e3⟩,.top,hh⟩⟩
abbrev grD (g:List (List Nat)):D:= .sl none (g.map natsD)
structure GB (g:List (List Nat)):Prop where
 n:g.length≤65536
 e:∀l∈g,l.length≤1048576
 lt:∀l∈g,∀x∈l,x<g.length
theorem FO {g:List (List Nat)} {i:Nat} (h:i<g.length):Hc g i=g[i]:=by simp [Hc,h]
theorem getg {g:List (List Nat)} {i:Nat} (h:i<g.length):(g.map natsD)[i]?=some (natsD (Hc g i)):=by rw [MO h,FO h]
theorem GB.len {g:List (List Nat)} (h:GB g) {i:Nat} (hi:i<g.length):(Hc g i).length≤1048576:=by rw [FO hi];exact h.e _ (List.getElem_mem hi)
theorem GB.suc {g:List (List Nat)} (h:GB g) {i x:Nat} (hi:i<g.length) (hx:x∈Hc g i):x<g.length:=by rw [FO hi] at hx;exact h.lt _ (List.getElem_mem hi) x hx
def cntT (g:List (List Nat)) (i j:Nat):Nat:=((List.range i).map fun a=>(Hc g a).count j).sum
structure FI (K:Nat ->Nat) (w:List Nat) (i:Nat) (l:List Nat):Prop where
 nd:l.Nodup
 mem:∀x,x∈l↔x<i∧CC w x=0
 hp:Heap2 K l
theorem FI.le {K:Nat ->Nat} {w:List Nat} {i:Nat} {l:List Nat} (h:FI K w i l):l.length≤i:=by
 have:=Nb h.nd (m:=List.range i) fun x hx=>List.mem_range.2 ((h.mem x).1 hx).1
 rwa [List.length_range] at this
structure CW (g:List (List Nat)) (i k:Nat) (w:List Nat):Prop where
 len:w.length=g.length
 val:∀j,j<g.length ->CC w j=cntT g i j+((Hc g i).take k).count j
abbrev rowN (n:Nat) (f:Nat ->Nat):List D:=(List.range n).map fun v=>natD (f v)
abbrev JV (n:Nat) (f:Nat ->Int):List D:=(List.range n).map fun v=>D2 (f v)
theorem Gq {n i:Nat} {f:Nat ->Int} (h:i<n):(JV n f)[i]?=some (D2 (f i)):=by simp [h]
theorem G1 {n i:Nat} {f h:Nat ->D} (he:∀j,j<n ->j≠i ->f j=h j) {x:D} (hx:x=h i):((List.range n).map f).set i x=(List.range n).map h:=by
 refine List.ext_getElem (by simp) fun j h1 h2=>?_;rw [List.getElem_set];simp only [List.length_map,List.length_range] at h2;simp only [List.getElem_map,List.getElem_range]
 by_cases e:i=j
 ·subst e;rw [if_pos rfl];exact hx
 ·rw [if_neg e];exact he j h2 fun e'=>e e'.symm
theorem JT {n i:Nat} {x:Int} {f:Nat ->Int}:(JV n f).set i (D2 x)=JV n (A5 f i x):=
 G1 (fun j _ hne=>by rw [Dv hne]) (by rw [Da])
theorem JU (n:Nat) (f:Nat ->Int):(JV n f).length=n:=by simp
theorem repI (n:Nat):List.replicate n (D.raw (.int .i64 0))=JV n (fun _=>0):=by
 refine List.ext_getElem (by simp) fun j h1 h2=>?_
 simp
def pend:Option Nat ->List (Nat×Nat)
 | none=> []
 | some v=> [(v,0)]
structure TH (n:Nat) (suc:Nat ->List Nat) (r:Nat) (S:TS) (p:Option Nat):Prop where
 ti:TI n suc S p
 k1:∀f∈S.cs,1≤f.2
 old:∀v,v<r ->S.idx v≠0
 rt:S.idx r≠0∨p=some r
structure TB (n:Nat) (suc:Nat ->List Nat) (r:Nat) (S:TS) (cs0:List (Nat×Nat)) (v k:Nat):Prop where
 ti:TI n suc S none
 hcs:S.cs=cs0++ [(v,k)]
 k1:∀f∈cs0,1≤f.2
 old:∀v,v<r ->S.idx v≠0
 rt:S.idx r≠0
structure Fh (M:MF) (n:Nat) (hs:Nat ->Hd) (ls:Nat ->List Nat):Prop where
 at_:∀j,j<n ->Hw M (hs j) 3 1 ((ls j).map natD)
 inj:∀j k b c c',j<n ->k<n ->hs j=some (b,c) ->hs k=some (b,c') ->j=k
abbrev rowH (n:Nat) (hs:Nat ->Hd) (ls:Nat ->List Nat):List D:=(List.range n).map fun j=>hdr (hs j) (ls j).length
theorem FT {n j:Nat} {hs:Nat ->Hd} {ls:Nat ->List Nat} (h:j<n):(rowH n hs ls)[j]?=some (hdr (hs j) (ls j).length):=by simp [h]
theorem DF (n:Nat) (hs:Nat ->Hd) (ls:Nat ->List Nat):(rowH n hs ls).length=n:=by simp
theorem Gr {n j:Nat} {hs:Nat ->Hd} {ls:Nat ->List Nat} {h:Hd} {l:List Nat}:(rowH n hs ls).set j (hdr h l.length)=rowH n (A5 hs j h) (A5 ls j l):=
 G1 (fun i _ hne=>by rw [Dv hne,Dv hne]) (by rw [Da,Da])
theorem Fh.zero (n:Nat):Fh (fun _=>none) n (fun _=>none) (fun _=> []):=⟨fun _ _=>rfl,fun _ _ _ _ _ _ _ h=>by cases h⟩
theorem Fh.app {M:MF} {n j:Nat} {hs:Nat ->Hd} {ls:Nat ->List Nat} (h:Fh M n hs ls) (hj:j<n) {l:List Nat} {b c:Nat} (hb:CR M (hs j) b=none) (hc:(l.map natD).length≤c):
  Fh (Ax (CR M (hs j)) b (.row 3 1 c (l.map natD))) n (A5 hs j (some (b,c))) (A5 ls j l):=by
 have hne:∀k,k<n ->k≠j ->∀b' c',hs k=some (b',c') ->b'≠b∧Ax (CR M (hs j)) b (.row 3 1 c (l.map natD)) b'=M b':=by
  intro k hk hkj b' c' e;have h1:=h.at_ k hk;rw [e] at h1;have h2:∀c'',hs j≠some (b',c''):=fun c'' e2=>hkj (h.inj k j b' c' c'' hk hj e e2);refine ⟨fun e3=>?_,?_⟩
  ·subst e3;have:=D0 h1.2 h2;rw [hb] at this;cases this
  ·rw [Nr hb h1.2 h2,h1.2]
 refine ⟨fun k hk=>?_,fun k k' b1 c1 c2 hk hk' e1 e2=>?_⟩
 ·by_cases e:k=j
  ·subst e;rw [Da,Da];exact ⟨hc,Dx _ _ _⟩
  ·rw [Dv e,Dv e];have h1:=h.at_ k hk
   match hh:hs k,h1 with
   | none,h1=>exact h1
   | some (b',c'),h1=>exact ⟨h1.1,by rw [(hne k hk e b' c' hh).2];exact h1.2⟩
 ·by_cases ek:k=j<;>by_cases ek':k'=j
  ·rw [ek,ek']
  ·subst ek;rw [Da] at e1;rw [Dv ek'] at e2;injection e1 with e1;injection e1 with e1 _;subst e1
   exact ((hne k' hk' ek' _ _ e2).1 rfl).elim
  ·subst ek';rw [Da] at e2;rw [Dv ek] at e1;injection e2 with e2;injection e2 with e2 _;subst e2
   exact ((hne k hk ek _ _ e1).1 rfl).elim
  ·rw [Dv ek] at e1;rw [Dv ek'] at e2;exact h.inj k k' b1 c1 c2 hk hk' e1 e2
def grF (n:Nat) (ls:Nat ->List Nat):List (List Nat):=(List.range n).map ls
theorem G4 (n:Nat) (ls:Nat ->List Nat):(grF n ls).length=n:=by simp [grF]
theorem OC {n i:Nat} {ls:Nat ->List Nat} (h:i<n):Hc (grF n ls) i=ls i:=by
 rw [FO (by rw [G4];exact h)];simp [grF]
theorem Fh.melt {M:MF} {n:Nat} {hs:Nat ->Hd} {ls:Nat ->List Nat} (h:Fh M n hs ls):∀(j:Nat) x y,(rowH n hs ls)[j]?=some x ->((grF n ls).map natsD)[j]?=some y ->KN M x y:=by
 intro j x y hx hy;have hj:j<n:=by have:=(List.getElem?_eq_some_iff.1 hx).1;rwa [DF] at this
 rw [FT hj] at hx;injection hx with hx
 rw [getg (by rw [G4];exact hj),OC hj] at hy;injection hy with hy
 subst hx hy;exact .inr ⟨hs j,3,(ls j).map natD,by rw [List.length_map],h.at_ j hj,fun z hz=>by obtain ⟨a,_,rfl⟩:=List.mem_map.1 hz;rfl,rfl⟩
theorem J2 (n:Nat) (hs:Nat ->Hd) (ls:Nat ->List Nat):∀x∈rowH n hs ls,x.one=true:=fun x hx=>by
 obtain ⟨a,_,rfl⟩:=List.mem_map.1 hx;rfl
theorem one_gr (g:List (List Nat)):∀x∈g.map natsD,x.one=true:=fun x hx=>by
 obtain ⟨a,_,rfl⟩:=List.mem_map.1 hx;rfl
theorem Nc (n:Nat):∀(j:Nat) x y,(List.replicate n (D.sl (some true) []))[j]?=some x ->(rowH n (fun _=>none) (fun _=> []))[j]?=some y ->∀w O v,AK w O x v ->AK w O y v:=by
 intro j x y hx hy w O v hr;have hj:j<n:=by have:=(List.getElem?_eq_some_iff.1 hx).1;rwa [List.length_replicate] at this
 rw [FT hj] at hy;injection hy with hy
 have hx':x=D.sl (some true) []:=by rw [List.getElem?_replicate,if_pos hj] at hx;injection hx with hx;exact hx.symm
 subst hx' hy;exact hr.nrm1
theorem one_nil (n:Nat):∀x∈List.replicate n (D.sl (some true) []),x.one=true:=fun x hx=>by rw [(List.mem_replicate.1 hx).2];rfl
end Go.Proofs.Ytlmedakidpaeeaa
