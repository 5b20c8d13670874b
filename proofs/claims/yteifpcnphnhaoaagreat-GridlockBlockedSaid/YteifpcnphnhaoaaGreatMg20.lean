import Derived.Test.YteifpcnphnhaoaaGreatMg19
namespace Go.Proofs.YteifpcnphnhaoaaGreat
open Go.RowKit
set_option maxRecDepth 100000
abbrev Hd:=Option (Nat×Nat)
def hdrV:Hd ->Nat ->Value
 | none,_=> .slice none 0 0
 | some (b,c),n=>sV b n c
abbrev hdr (h:Hd) (n:Nat):D:= .raw (hdrV h n)
structure Nd where
 it:AK
 eh:Hd
 ef:List (Nat×Int)
 ph:Hd
 pl:List (Nat×Nat)
 on:Bool
structure Po where
 r:AP
 room:Int
 sum:Int
 qh:Hd
 q:List Nat
 mi:Nat
structure Net where
 nd:List Nd
 po:List Po
 nh:Hd
 mh:Hd
abbrev ndC (x:Nd):List D:=[AF x.it.id,AF x.it.pr,AF x.it.sq,.sl none (x.it.po.map CF),.sl none (x.it.pa.map Ff),.sl none (x.it.af.map AF),hdr x.eh x.ef.length,hdr x.ph x.pl.length,Ag x.on]
abbrev poC (y:Po):List D:=[AF y.r.k,Am y.r.acc.o,AF y.r.acc.k,Am y.r.acc.a,Am y.r.f,Am y.r.t,AF y.room,AF y.sum,hdr y.qh y.q.length,AF (y.mi:Int)]
abbrev cG (pb:Nat ->Nat) (e:Nat×Int):D:= .agg [pD (pb e.1) 0,AF e.2]
abbrev plD (pb:Nat ->Nat) (e:Nat×Nat):D:= .agg [pD (pb e.1) 0,AF (e.2:Int)]
abbrev BG (b:Nat):D:=pD b 0
def BF (M:MF) (h:Hd) (t:TypeId) (k:Nat) (xs:List D):Prop:=match h with
 | none=>xs=[]
 | some (b,c)=>xs.length≤c∧M b=some (.row t k c xs)
abbrev Th (x:Nd):Ab:= .cells 184 (ndC x)
abbrev Tg (y:Po):Ab:= .cells 190 (poC y)
theorem UG {M:MF} {b:Nat} {t':TypeId} {cs:List D} {m':Ab} (hb:M b=some (.cells t' cs)) {h:Hd} {t:TypeId} {k:Nat} {xs:List D} (hr:BF M h t k xs):BF (BO M b m') h t k xs:=by
 match h,hr with
 | none,hr=>exact hr
 | some (b',c),hr=>
  refine ⟨hr.1,?_⟩;rw [FP]
  ·exact hr.2
  ·rintro rfl;have h2:=hr.2;rw [hb] at h2;cases h2
abbrev K7 (v:Value):D:= .raw v
def Bz:Po:=⟨⟨0,T3,[],[]⟩,0,0,none,[],0⟩
def Bc:Nd:=⟨itm0,none,[],none,[],false⟩
structure RowM where
 h:Hd
 t:TypeId
 k:Nat
 xs:List D
inductive RI where
 | e (i:Nat)
 | p (i:Nat)
 | q (j:Nat)
 | n
 | m
def CR (nb pb:Nat ->Nat) (N:Net):RI ->RowM
 | .e i=>⟨(N.nd.getD i Bc).eh,188,2,(N.nd.getD i Bc).ef.map (cG pb)⟩
 | .p i=>⟨(N.nd.getD i Bc).ph,254,2,(N.nd.getD i Bc).pl.map (plD pb)⟩
 | .q j=>⟨(N.po.getD j Bz).qh,176,1,(N.po.getD j Bz).q.map fun i=>BG (nb i)⟩
 | .n=>⟨N.nh,176,1,(List.range N.nd.length).map fun i=>BG (nb i)⟩
 | .m=>⟨N.mh,186,1,(List.range N.po.length).map fun j=>BG (pb j)⟩
def FN (M:MF) (R:RI ->RowM):Prop:=(∀r,BF M (R r).h (R r).t (R r).k (R r).xs)∧∀r r' b c c',(R r).h=some (b,c) ->(R r').h=some (b,c') ->r=r'
def B1 (M:MF):Hd ->MF
 | none=>M
 | some (b,_)=>EV M b
theorem FN.blk {M:MF} {R:RI ->RowM} (h:FN M R) {r:RI} {b c:Nat} (hb:(R r).h=some (b,c)):M b=some (.row (R r).t (R r).k c (R r).xs):=by
 have:=h.1 r;rw [hb] at this;exact this.2
theorem Ir {M:MF} {h:Hd} {b:Nat} {m:Ab} (hm:M b=some m) (hne:∀c,h≠some (b,c)):B1 M h b=some m:=by
 match h,hne with
 | none,_=>exact hm
 | some (b',c),hne=>
  show EV M b' b=_;rw [G3 (fun e=>hne c (by rw [e]))];exact hm
theorem keepM {M:MF} {h:Hd} {b b':Nat} {m v:Ab} (hb:B1 M h b=none) (hm:M b'=some m) (hne:∀c,h≠some (b',c)):BO (B1 M h) b v b'=some m:=by
 have h1:=Ir hm hne;rw [FP]
 ·exact h1
 ·rintro rfl;rw [hb] at h1;cases h1
theorem FN.upd {M:MF} {R R':RI ->RowM} (h:FN M R) (r0:RI) (hR:∀r,r≠r0 ->R' r=R r) {b cap:Nat} (hb:B1 M (R r0).h b=none) (h0:(R' r0).h=some (b,cap)) (hl:(R' r0).xs.length≤cap):FN (BO (B1 M (R r0).h) b (.row (R' r0).t (R' r0).k cap (R' r0).xs)) R':=by
 have hother:∀r,r≠r0 ->∀b' c,(R r).h=some (b',c) ->b'≠b:=fun r hr b' c hrb e=>by
  have h1:=h.blk hrb;have h2:=Ir (h:=(R r0).h) h1 fun c' hc'=>hr (h.2 r r0 b' c c' hrb hc');rw [e,hb] at h2;cases h2
 refine ⟨fun r=>?_,fun r r' b1 c c' h1 h2=>?_⟩
 ·by_cases e:r=r0
  ·subst e;rw [h0];exact ⟨hl,EX _ _ _⟩
  ·rw [hR r e];have h1:=h.1 r
   cases hh:(R r).h with
   | none=>rw [hh] at h1;exact h1
   | some p=>
    obtain ⟨b',c⟩:=p;rw [hh] at h1;exact ⟨h1.1,keepM hb h1.2 fun c' hc'=>e (h.2 r r0 b' c c' hh hc')⟩
 ·by_cases e:r=r0<;>by_cases e':r'=r0
  ·rw [e,e']
  ·exfalso
   subst e;rw [h0] at h1;injection h1 with h1;injection h1 with h1 _
   rw [hR r' e'] at h2;exact hother r' e' b1 c' h2 h1.symm
  ·exfalso
   subst e';rw [h0] at h2;injection h2 with h2;injection h2 with h2 _
   rw [hR r e] at h1;exact hother r e b1 c h1 h2.symm
  ·rw [hR r e] at h1;rw [hR r' e'] at h2;exact h.2 r r' b1 c c' h1 h2
theorem FN.cells {M:MF} {R:RI ->RowM} (h:FN M R) {b:Nat} {t t':TypeId} {cs cs':List D} (_hb:M b=some (.cells t cs)):FN (BO M b (.cells t' cs')) R:=
 ⟨fun r=>UG _hb (h.1 r),h.2⟩
structure Bx (wb mv:Nat) (nb pb:Nat ->Nat) (N:Net) (M:MF):Prop where
 n:∀(i:Nat) x,N.nd[i]? =some x ->M (nb i)=some (Th x)
 p:∀(j:Nat) y,N.po[j]? =some y ->M (pb j)=some (Tg y)
 rs:FN M (CR nb pb N)
 w:M wb=some (.cells 180 [hdr N.nh N.nd.length,hdr N.mh N.po.length,K7 (.map (some mv))])
 ni:∀i j:Nat,i<N.nd.length ->j<N.nd.length ->nb i=nb j ->i=j
 pi:∀i j:Nat,i<N.po.length ->j<N.po.length ->pb i=pb j ->i=j
 e:∀x∈N.nd,(∀e∈x.ef,e.1<N.po.length)∧∀e∈x.pl,e.1<N.po.length
 q:∀y∈N.po,∀i∈y.q,i<N.nd.length
theorem F7 {α:Type} {l:List α} {i:Nat} {x d:α} (h:l[i]? =some x):l.getD i d=x:=by rw [ϱ,h];rfl
theorem Bx.nn {wb mv:Nat} {nb pb:Nat ->Nat} {N:Net} {M:MF} (h:Bx wb mv nb pb N M) (i:Nat) (x:Nd) (hx:N.nd[i]? =some x):M (nb i)=some (Th x)∧BF M x.eh 188 2 (x.ef.map (cG pb))∧BF M x.ph 254 2 (x.pl.map (plD pb)):=by
 have h1:BF M (N.nd.getD i Bc).eh 188 2 ((N.nd.getD i Bc).ef.map (cG pb)):=h.rs.1 (.e i);have h2:BF M (N.nd.getD i Bc).ph 254 2 ((N.nd.getD i Bc).pl.map (plD pb)):=h.rs.1 (.p i);rw [F7 hx] at h1 h2;exact ⟨h.n i x hx,h1,h2⟩
theorem Bx.pp {wb mv:Nat} {nb pb:Nat ->Nat} {N:Net} {M:MF} (h:Bx wb mv nb pb N M) (j:Nat) (y:Po) (hy:N.po[j]? =some y):M (pb j)=some (Tg y)∧BF M y.qh 176 1 (y.q.map fun i=>BG (nb i)):=by
 have h1:BF M (N.po.getD j Bz).qh 176 1 ((N.po.getD j Bz).q.map fun i=>BG (nb i)):=h.rs.1 (.q j);rw [F7 hy] at h1;exact ⟨h.p j y hy,h1⟩
theorem dD {α:Type} {l:List α} {i:Nat} {x:α} (hi:i<l.length) (k:Nat) (d:α):(l.set i x).getD k d=if k=i then x else l.getD k d:=by
 rw [ϱ,χr,ϱ]
 by_cases e:k=i
 ·subst e;simp [hi]
 ·rw [ϑ (fun h=>e h.symm),ϑ e]
theorem GD {α:Type} {l:List α} {i:Nat} {x:α} (hx:l[i]? =some x) (k:Nat) (d:α):l.getD k d=if k=i then x else l.getD k d:=by
 by_cases e:k=i
 ·subst e;rw [θ Z,F7 hx]
 ·rw [ϑ e]
theorem Bx.setPo {wb mv:Nat} {nb pb:Nat ->Nat} {N:Net} {M:MF} (h:Bx wb mv nb pb N M) {j:Nat} {y y':Po} (hy:N.po[j]? =some y) (hq:y'.q=y.q) (hqh:y'.qh=y.qh):Bx wb mv nb pb {N with po:=N.po.set j y'} (BO M (pb j) (Tg y')):=by
 have hb:=h.p j y hy;have hjl:=(χ.1 hy).1
 have hR:CR nb pb {N with po:=N.po.set j y'}=CR nb pb N:=funext fun r=>by
  cases r with
  | e i=>rfl
  | p i=>rfl
  | n=>rfl
  | m=>show (⟨_,_,_,(List.range (N.po.set j y').length).map _⟩:RowM)=_;rw [ψf];rfl
  | q k=>
   show (⟨((N.po.set j y').getD k Bz).qh,_,_,((N.po.set j y').getD k Bz).q.map _⟩:RowM)=⟨(N.po.getD k Bz).qh,_,_,(N.po.getD k Bz).q.map _⟩
   rw [dD hjl,GD hy k Bz]
   split
   ·rw [hq,hqh]
   ·rfl
 have hne:∀(b:Nat) (t:TypeId) (cs:List D),t≠190 ->M b=some (.cells t cs) ->BO M (pb j) (Tg y') b=some (.cells t cs):=fun b t cs ht hm=>by
  rw [FP]
  ·exact hm
  ·rintro rfl;rw [hb] at hm;injection hm with hm;injection hm with hm;exact ht hm.symm
 refine ⟨fun i x hx=>hne _ _ _ (by decide) (h.n i x hx),fun i z hz=>?_,by rw [hR];exact h.rs.cells hb,?_,h.ni,fun i k hi hk=>h.pi i k (by simpa using hi) (by simpa using hk),fun x hx=>?_,fun z hz=>?_⟩
 ·have hil:i<N.po.length:=by have:=(χ.1 hz).1;rw [ψf] at this;exact this
  have hz2:(N.po.set j y')[i]? =some z:=hz
  clear hz
  rw [χr] at hz2
  split at hz2
  ·rename_i e;subst e
   have e2:z=y':=(Option.some.inj hz2).symm;rw [e2];exact EX _ _ _
  ·rename_i e
   rw [FP]
   ·exact h.p i z hz2
   ·intro e2;exact e (h.pi i j hil hjl e2).symm
 ·show BO M (pb j) (Tg y') wb=some (.cells _ [hdr N.nh N.nd.length,hdr N.mh (N.po.set j y').length,_]);rw [ψf];exact hne _ _ _ (by decide) h.w
 ·have:=h.e x hx
  simpa using this
 ·rcases χf hz with hz | rfl
  ·exact h.q z hz
  ·rw [hq];exact h.q y (ζ hy)
theorem Bx.setNd {wb mv:Nat} {nb pb:Nat ->Nat} {N:Net} {M:MF} (h:Bx wb mv nb pb N M) {i:Nat} {x x':Nd} (hx:N.nd[i]? =some x) (h1:x'.ef=x.ef) (h2:x'.eh=x.eh) (h3:x'.pl=x.pl) (h4:x'.ph=x.ph):Bx wb mv nb pb {N with nd:=N.nd.set i x'} (BO M (nb i) (Th x')):=by
 have hb:=h.n i x hx;have hil:=(χ.1 hx).1
 have hR:CR nb pb {N with nd:=N.nd.set i x'}=CR nb pb N:=funext fun r=>by
  cases r with
  | q j=>rfl
  | m=>rfl
  | n=>show (⟨_,_,_,(List.range (N.nd.set i x').length).map _⟩:RowM)=_;rw [ψf];rfl
  | e k=>
   show (⟨((N.nd.set i x').getD k Bc).eh,_,_,((N.nd.set i x').getD k Bc).ef.map _⟩:RowM)=⟨(N.nd.getD k Bc).eh,_,_,(N.nd.getD k Bc).ef.map _⟩
   rw [dD hil,GD hx k Bc]
   split
   ·rw [h1,h2]
   ·rfl
  | p k=>
   show (⟨((N.nd.set i x').getD k Bc).ph,_,_,((N.nd.set i x').getD k Bc).pl.map _⟩:RowM)=⟨(N.nd.getD k Bc).ph,_,_,(N.nd.getD k Bc).pl.map _⟩
   rw [dD hil,GD hx k Bc]
   split
   ·rw [h3,h4]
   ·rfl
 have hne:∀(b:Nat) (t:TypeId) (cs:List D),t≠184 ->M b=some (.cells t cs) ->BO M (nb i) (Th x') b=some (.cells t cs):=fun b t cs ht hm=>by
  rw [FP]
  ·exact hm
  ·rintro rfl;rw [hb] at hm;injection hm with hm;injection hm with hm;exact ht hm.symm
 refine ⟨fun j z hz=>?_,fun j y hy=>hne _ _ _ (by decide) (h.p j y hy),by rw [hR];exact h.rs.cells hb,?_,fun j k hj hk=>h.ni j k (by simpa using hj) (by simpa using hk),h.pi,fun z hz=>?_,fun y hy=>?_⟩
 ·have hjl:j<N.nd.length:=by have:=(χ.1 hz).1;rw [ψf] at this;exact this
  have hz2:(N.nd.set i x')[j]? =some z:=hz
  clear hz
  rw [χr] at hz2
  split at hz2
  ·rename_i e;subst e
   have e2:z=x':=(Option.some.inj hz2).symm;rw [e2];exact EX _ _ _
  ·rename_i e
   rw [FP]
   ·exact h.n j z hz2
   ·intro e2;exact e (h.ni j i hjl hil e2).symm
 ·show BO M (nb i) (Th x') wb=some (.cells _ [hdr N.nh (N.nd.set i x').length,hdr N.mh N.po.length,_]);rw [ψf];exact hne _ _ _ (by decide) h.w
 ·rcases χf hz with hz | rfl
  ·exact h.e z hz
  ·rw [h1,h3];exact h.e x (ζ hx)
 ·have:=h.q y hy
  simpa using this
abbrev HN (M:MF):Hp:=[(40,[.multi M])]
def aftP (y:Po) (c:Int):Int:=max y.room 0+c
def ON (y:Po) (c:Int):Bool:=decide (c<0∧aftP y c<0)
theorem after_c {wb mv:Nat} {nb pb:Nat ->Nat} {N:Net} {M:MF} (h:Bx wb mv nb pb N M) {j:Nat} {y:Po} (hy:N.po[j]? =some y) (c:Int) (hr: -1000000000000000000≤y.room∧y.room≤1000000000000000000) (hc: -2000000000000000000≤c∧c≤2000000000000000000):
  AM Tryz.prog 198 [.d (pD (pb j) 0),.d (AF c)] (HN M) fun r H'=>r= .d (AF (aftP y c))∧H'=HN M:=by
 have hp:=h.p j y hy;have hm:(if 0>y.room then 0 else y.room)=max y.room 0:=by rw [Int.max_def];split<;>split<;>omega
 refine Az Tryz.func198 Z Z Tryz.ntmps198 Z Z Z fun F hF=>(AC (AE (AB Z Z (AD (AC (AE (goMv Z Z ?_)))))));refine J (DE Z Z) (J (CQ Z QT Z Z Z) (J (Dn (f:=40) Z Z (hp) Z JG Z) (J (Pi Z Z (hm) Z) (goMv Z Z (J (Ay Z Z (ωa _ (by omega)) Z) (AB Z Z (AD (A5 ?_))))))));exact ⟨_,[40],_,A3 Z,Z,Z,Z,Z⟩
theorem LO {wb mv:Nat} {nb pb:Nat ->Nat} {N:Net} {M:MF} (h:Bx wb mv nb pb N M) {j:Nat} {y:Po} (hy:N.po[j]? =some y) (c:Int) (hr: -1000000000000000000≤y.room∧y.room≤1000000000000000000) (hc: -2000000000000000000≤c∧c≤2000000000000000000):
  AM Tryz.prog 150 [.d (pD (pb j) 0),.d (AF c)] (HN M) fun r H'=>r= .d (Ag (ON y c))∧H'=HN M:=by
 have ha:=after_c h hy c hr hc;refine Az Tryz.func150 Z Z Tryz.ntmps150 Z Z Z fun F hF=>(AC ?_);refine AE (AB Z Z (AD (AC (AE (goMv Z Z (J (BV Z Z Z) (goMv Z Z (Id 7 Z (fun h7=>?_) (fun h7=>?_)))))))))
 ·refine Af Z Z Z (goMv Z Z (Af Z Z Z ?_));refine goMv Z Z (Af Z Z Z (V (EW ha Z [40] ⟨Z,trivial⟩ Z Z Z Z Z Z Z Z Z) (Af Z Z Z (J (BV Z Z Z) (J (Fb Z Z Z Z) (AB Z Z (AD (A5 ?_))))))));exact ⟨_,[40],_,A3 Z,Z,Z,Me (by unfold ON;first | exact (ωp (by omega)).symm | exact decide_eq_decide.2 ⟨fun h=>⟨by omega,h⟩,fun h=>h.2⟩),Z⟩
 ·refine A9 Z Z Z Z (A9 Z Z Z Z (A9 Z Z Z Z (A9 Z Z Z Z (J (DZ Z Z Z Z) (AB Z Z (AD (A5 ?_)))))));exact ⟨_,[40],_,A3 Z,Z,Z,Me (by unfold ON;first | exact (ωp (by omega)).symm | exact decide_eq_decide.2 ⟨fun h=>⟨by omega,h⟩,fun h=>h.2⟩),Z⟩
section
variable {P:Program} {F:Fr} {s:AS} {d:Nat} {x y:Operand} {T E:TypeId} {ty:TypeId} {pos:String} {aft:Array Edge} {g:Option (Nat×Bool)} {k:IntKind} {i:Int}
theorem VF {h:Hd} {n:Nat} (hz:h=none ->n=0) (hx:s.ev x=some (.d (hdr h n))) (hT:P.underlying T=some (.slice E)) (hd:Nat.blt d s.n=true):
  AA P F ⟨some d,.call {callee:= .builtin .len,args:= #[x],argTypes:= #[T]},ty,pos,aft,g⟩ s d (.d (AF (n:Int))):=by
 match h,hz,hx with
 | none,hz,hx=>
  have e:=hz rfl;subst e;exact V5 (a:=none) (n:=0) (cap:=0) hx hT hd
 | some (b,c),_,hx=>exact V5 (a:=some ⟨b,0,none⟩) (n:=n) (cap:=c) hx hT hd
theorem VB {h:Hd} {b c n kk:Nat} (he:h=some (b,c)) (m:Nat) (hx:s.ev x=some (.d (hdr h n))) (hy:s.ev y=some (.d (.raw (.int k i)))) (hi:i=(m:Int)) (hm:m<n) (hT:P.underlying T=some (.slice E)) (hE:AX P E kk=true) (hd:Nat.blt d s.n=true):
  AA P F ⟨some d,.indexAddr T x y,ty,pos,aft,g⟩ s d (.d (pD b (m*kk))):=by
 subst he;exact XI m hx hy hi hm hT hE hd
end
theorem Ta {M:MF} {h:Hd} {t:TypeId} {k:Nat} {α:Type} {f:α ->D} {l:List α} (hr:BF M h t k (l.map f)):h=none ->l.length=0:=fun e=>by
 subst e;have:l.map f=[]:=hr
 simpa using this
theorem Tj {M:MF} {h:Hd} {t:TypeId} {k:Nat} {α:Type} {f:α ->D} {l:List α} (hr:BF M h t k (l.map f)) {j:Nat} (hj:j<l.length):∃b c,h=some (b,c):=by
 cases h with
 | none=>have:=Ta hr rfl;omega
 | some p=>exact ⟨p.1,p.2,Z⟩
theorem Qm {M:MF} {h:Hd} {t:TypeId} {k:Nat} {xs:List D} (hr:BF M h t k xs) {b c:Nat} (he:h=some (b,c)):M b=some (.row t k c xs):=by
 subst he;exact hr.2
def L7 (po:List Po) (e:Nat×Int):List Po:=match po[e.1]? with
 | some y=>po.set e.1 {y with sum:=y.sum - e.2}
 | none=>po
def OQ (po:List Po) (e:Nat×Nat):List Po:=match po[e.1]? with
 | some y=>po.set e.1 {y with mi:=min y.mi e.2}
 | none=>po
theorem V3 {po:List Po} {e:Nat×Int} {y:Po} (h:po[e.1]? =some y):L7 po e=po.set e.1 {y with sum:=y.sum - e.2}:=by unfold L7;rw [h]
theorem WG {po:List Po} {e:Nat×Nat} {y:Po} (h:po[e.1]? =some y):OQ po e=po.set e.1 {y with mi:=min y.mi e.2}:=by unfold OQ;rw [h]
def EF (x:Nd):Nd:={x with on:=false}
def rmN (N:Net) (i:Nat) (x:Nd):Net:={N with nd:=N.nd.set i (EF x),po:=x.pl.foldl OQ (x.ef.foldl L7 N.po)}
theorem Kq {α β:Type} {f:β ->α ->β} {l:List α} {k:Nat} (hk:k<l.length) (b:β):(l.take (k+1)).foldl f b=f ((l.take k).foldl f b) l[k]:=by
 rw [φ hk,List.foldl_append];rfl
def RG (po:List Po) (b:Int):Prop:=∀y∈po,-b≤y.sum∧y.sum≤b
theorem ZL {po:List Po} {b c:Int} (h:RG po b) (hbc:b≤c) {j:Nat} {y:Po} (hy: -c≤y.sum∧y.sum≤c):RG (po.set j y) c:=fun z hz=>by
 rcases χf hz with hz | rfl
 ·have:=h z hz;omega
 ·exact hy
theorem Zt {wb mv:Nat} {nb pb:Nat ->Nat} {N:Net} {M:MF} (h:Bx wb mv nb pb N M) {i:Nat} {x:Nd} (hx:N.nd[i]? =some x) (hB:RG N.po 1000000000000000000) (he:∀e∈x.ef,-100000000000000000≤e.2∧e.2≤100000000000000000) (hel:x.ef.length≤60) (hpl:x.pl.length≤1000) (hpb:∀e∈x.pl,e.2≤1000000) (hmb:∀y∈N.po,y.mi≤1000000):
  AM Tryz.prog 140 [.d (pD (nb i) 0)] (HN M) fun r H'=>r= .tup []∧∃M',H'=HN M'∧Bx wb mv nb pb (rmN N i x) M':=by
 have hxb:=(h.nn i x hx).1;have hil:=(χ.1 hx).1;have h1:=h.setNd (x':=EF x) hx Z Z Z Z;have hx1:(N.nd.set i (EF x))[i]? =some (EF x):=by rw [List.getElem?_set_self hil]
 have hez:=Ta (h.nn i x hx).2.1;have hpz:=Ta (h.nn i x hx).2.2;have hxe:=h.e x (ζ hx);refine Az Tryz.func140 Z Z Tryz.ntmps140 Z Z Z fun F hF=>(AC ?_);refine AE (goMv Z Z (J (DE Z Z) (J (CQ Z E4 Z Z Z) (V (O2 (f:=40) Z Z Z Z (hxb) ((by show _<9;omega)) Z sz4) (AD (AC (AC (AE ?_))))))));refine goMv Z Z (J (DE Z Z) (J (CQ Z Jm Z Z Z) (J (Dn (f:=40) Z Z ((EX _ _ _)) Z Vn Z) (J (VF hez Z Tryz.underlying181 Z) (goMv Z Z (AD (A4 (B5 (α:=Nat×List Po×MF) (fun q=>⟨51,[(0,.d (pD (nb i) 0)),(12,(.d (hdr x.eh x.ef.length))),(13,(.d (AF (x.ef.length:Int)))),(14,(.d (AF (q.1:Int))))],HN q.2.2⟩) (fun q=>q.1≤x.ef.length∧q.2.1=(x.ef.take q.1).foldl L7 N.po∧Bx wb mv nb pb {N with nd:=N.nd.set i (EF x),po:=q.2.1} q.2.2∧RG q.2.1 (1000000000000000000+100000000000000000*(q.1:Int))∧(∀y∈q.2.1,y.mi≤1000000)∧q.2.1.length=N.po.length) (fun q=>x.ef.length - q.1) ((0,N.po,BO M (nb i) (Th (EF x)))) (⟨Δ _,Z,h1,by show RG N.po (1000000000000000000+100000000000000000*((0:Nat):Int));simpa using hB,hmb,Z⟩) (A0 hF [40] Z Z ⟨Z,Z,Z,Z,trivial⟩) ?_))))))));rintro ⟨k,po,M1⟩ ⟨hk0,hpo,hR,hS,hmi,hpol⟩;dsimp only at hk0 hpo hR hS hmi hpol⊢;refine AC (AE (J (BV Z Z Z) (AD (AC (Ae Z (fun h15=>?_) (fun h15=>?_))))))
 ·have hk1:k<x.ef.length:=Bf h15;refine A1 (AC (A4 (AC ?_)));obtain ⟨eb,ec,hee⟩:=Tj (h.nn i x hx).2.1 hk1;have hrow:=Qm (hR.nn i (EF x) hx1).2.1 hee;have hjl:x.ef[k].1<po.length:=by rw [hpol];exact hxe.1 _ (κ hk1)
  obtain ⟨y,hy⟩:∃y,po[x.ef[k].1]? =some y:=⟨_,ω hjl⟩
  have hyb:=hR.p _ y hy;have hys:=hS y (ζ hy);have heb:=he _ (κ hk1);refine AE ?_;refine J (VB hee (k) Z Z Z hk1 Tryz.underlying181 RE Z) (J (D3 (f:=40) (e:=k) Z (Z) Z (hrow) (Ah hk1) Z Zf Z) (V (CD 1 Yi Z Z Z Z) (V (Be Z Z Z Z Z Z Z RE) (AD (Cb [[],[0],[0,1],[0,1,2],[0,1,2,3],[],[5],[0,1,2,3,4,5,6],[0,1,2,3,4,5,6,7],[0,1,2,3,4,5,6,7,8],[0,1,2,3,4,5,6,7,8,9]] mixed Z (Cr (AJ [3] [] Z Z (fun _=>AG (AZ Z QV Z Z Z)) (AJ [18] [1] Z Z (fun _=>AG (A6 Z Z Z ET Z)) ?_))))))));refine AJ [19] [] Z Z (fun _=>AG (DE Z Z)) (AJ [20] [] Z Z (fun _=>AG (CQ Z Jk Z Z Z)) (AJ [21] [40] Z Z (fun _=>AG (Dn (f:=40) Z Z (hyb) Z JG Z)) (AJ [3] [] Z Z (fun _=>AG (AZ Z QU Z Z Z)) (AJ [23] [1] Z Z (fun _=>AG (A6 Z Z Z JG Z)) (C3 7 Z Z Z (Aa 8 Z Z (J (LF Z Z (ωa _ (by omega)) Z) (AD ⟨Z,?_⟩))))))));refine Aa 9 Z Z (J (DE Z Z) (AD ⟨Z,?_⟩));refine Aa 10 Z Z (J (CQ Z Jk Z Z Z) (AD ⟨Z,?_⟩));refine Aa 11 Z Z (V (O2 (f:=40) Z Z Z Z (hyb) ((by show _<10;omega)) Z sz2) (AD ⟨Z,?_⟩));refine C9 (AE (J (Ay Z Z (AT (k+1) (by omega)) Z) (goMv Z Z (AD ?_))));exact ⟨(k+1,po.set x.ef[k].1 {y with sum:=y.sum - x.ef[k].2},BO M1 (pb x.ef[k].1) (Tg {y with sum:=y.sum - x.ef[k].2})),⟨by show k+1≤_;omega,by show po.set _ _=_;rw [Kq hk1,←hpo,V3 hy],hR.setPo hy Z Z,by show RG _ (1000000000000000000+100000000000000000*((k+1:Nat):Int));exact ZL hS (by omega) (by show _≤y.sum - x.ef[k].2∧y.sum - x.ef[k].2≤_;omega),fun z hz=>by rcases χf hz with hz | rfl;exact hmi z hz;exact hmi y (ζ hy),by show (po.set _ _).length=_;rw [ψf];exact hpol⟩,by show x.ef.length - (k+1)<x.ef.length - k;omega,A0 hF [40] Z (Z) ⟨Z,Z,Z,Z,trivial⟩⟩
 ·refine BC (AC ?_);have hpo1:po=x.ef.foldl L7 N.po:=by rw [hpo,Ξ (by have h:=h15;omega)]
  have hxb1:=(hR.nn i (EF x) hx1).1;refine AE ?_;refine goMv Z Z (J (DE Z Z) (J (CQ Z Jl Z Z Z) (J (Dn (f:=40) Z Z (hxb1) Z Vm Z) (J (VF hpz Z Tryz.underlying182 Z) (goMv Z Z (AD (A4 (B5 (α:=Nat×List Po×MF) (fun q=>⟨51,[(32,(.d (hdr x.ph x.pl.length))),(33,(.d (AF (x.pl.length:Int)))),(34,(.d (AF (q.1:Int))))],HN q.2.2⟩) (fun q=>q.1≤x.pl.length∧q.2.1=(x.pl.take q.1).foldl OQ (x.ef.foldl L7 N.po)∧Bx wb mv nb pb {N with nd:=N.nd.set i (EF x),po:=q.2.1} q.2.2∧(∀y∈q.2.1,y.mi≤1000000)∧q.2.1.length=N.po.length) (fun q=>x.pl.length - q.1) ((0,po,M1)) (⟨Δ _,hpo1,hR,hmi,hpol⟩) (A0 hF [40] Z Z ⟨Z,Z,Z,trivial⟩) ?_))))))));rintro ⟨j,po2,M2⟩ ⟨hj0,hpo2,hR2,hmi2,hpol2⟩;dsimp only at hj0 hpo2 hR2 hmi2 hpol2⊢;refine AC (AE (J (BV Z Z Z) (AD (AC (Ae Z (fun h35=>?_) (fun h35=>?_))))))
  ·have hj1:j<x.pl.length:=Bf h35;refine A1 (AC (A4 (AC ?_)));obtain ⟨pbk,pcc,hpe⟩:=Tj (h.nn i x hx).2.2 hj1;have hrow2:=Qm (hR2.nn i (EF x) hx1).2.2 hpe;have hjl2:x.pl[j].1<po2.length:=by rw [hpol2];exact hxe.2 _ (κ hj1)
   obtain ⟨z,hz⟩:∃z,po2[x.pl[j].1]? =some z:=⟨_,ω hjl2⟩
   have hzb:=hR2.p _ z hz;have hzm:=hmi2 z (ζ hz);have hmin:(if ((x.pl[j].2:Nat):Int)<((z.mi:Nat):Int) then ((x.pl[j].2:Nat):Int) else ((z.mi:Nat):Int))=((min z.mi x.pl[j].2:Nat):Int):=by split<;>omega
   refine AE (J (VB hpe (j) Z Z Z hj1 Tryz.underlying182 O9 Z) (J (D3 (f:=40) (e:=j) Z (Z) Z (hrow2) (Ah hj1) Z Zd Z) (V (CD 2 VI Z Z Z Z) ?_)));refine V (Be Z Z Z Z Z Z Z O9) (AD (Cb [[],[0],[],[2],[2,3],[2,3,4],[2,3,4,5],[],[7],[2,3,4,5,6,7,8],[0,1,2,3,4,5,6,7,8,9],[0,1,2,3,4,5,6,7,8,9,10],[0,1,2,3,4,5,6,7,8,9,10,11]] mixed Z (Cr (AJ [5] [] Z Z (fun _=>AG (AZ Z Gf Z Z Z)) (AJ [38] [2] Z Z (fun _=>AG (A6 Z Z Z ET Z)) (AJ [5] [] Z Z (fun _=>AG (AZ Z Gf Z Z Z)) (AJ [40] [2] Z Z (fun _=>AG (A6 Z Z Z ET Z)) (AJ [41] [] Z Z (fun _=>AG (DE Z Z)) ?_))))))));refine AJ [42] [] Z Z (fun _=>AG (CQ Z Jj Z Z Z)) (AJ [43] [40] Z Z (fun _=>AG (Dn (f:=40) Z Z (hzb) Z Aq Z)) (AJ [5] [] Z Z (fun _=>AG (AZ Z QS Z Z Z)) (AJ [45] [2] Z Z (fun _=>AG (A6 Z Z Z Aq Z)) (AJ [44,46] [] Z Z (fun _=>AG (KV Z Z (hmin) Z)) (C3 10 Z Z Z (Aa 11 Z Z (J (DE Z Z) (AD ⟨Z,?_⟩))))))));refine Aa 12 Z Z (J (CQ Z Jj Z Z Z) (AD ⟨Z,?_⟩));refine Aa 13 Z Z (V (O2 (f:=40) Z Z Z Z (hzb) ((by show _<10;omega)) Z BA) (AD ⟨Z,?_⟩));refine C9 ?_;skip;refine AE (J (Ay Z Z (AT (j+1) (by omega)) Z) (goMv Z Z (AD ?_)));exact ⟨(j+1,po2.set x.pl[j].1 {z with mi:=min z.mi x.pl[j].2},BO M2 (pb x.pl[j].1) (Tg {z with mi:=min z.mi x.pl[j].2})),⟨by show j+1≤_;omega,by show po2.set _ _=_;rw [Kq hj1,←hpo2,WG hz],hR2.setPo hz Z Z,fun w hw=>by rcases χf hw with hw | rfl;exact hmi2 w hw;show min z.mi _≤_;omega,by show (po2.set _ _).length=_;rw [ψf];exact hpol2⟩,by show x.pl.length - (j+1)<x.pl.length - j;omega,A0 hF [40] Z (Z) ⟨Z,Z,Z,trivial⟩⟩
  ·refine BC ?_;have hpo3:po2=x.pl.foldl OQ (x.ef.foldl L7 N.po):=by rw [hpo2,Ξ (by have h:=h35;omega)]
   exact ⟨_,[40],_,A3 Z,Z,Z,Z,M2,Z,by unfold rmN;rw [←hpo3];exact hR2⟩
def BP (N:Net):List Int:=N.nd.map fun x=>x.it.id
def Fa (nb:Nat ->Nat) (ids:List Int):List (Int×Value):=(List.range ids.length).map fun i=>(ids.getD i 0,pV (nb i) 0)
theorem Q9 {nb:Nat ->Nat} {ids:List Int} (hn:ids.Nodup) {i:Nat} (hi:i<ids.length):A2 (Fa nb ids) ids[i] (.pointer none)=pV (nb i) 0:=by
 refine Zcb ?_ (ν.2 ⟨i,Θ.2 hi,by rw [Bp 0 hi]⟩)
 have:(Fa nb ids).map Prod.fst=ids:=by
  unfold Fa;rw [ωr];refine χa (by simp) fun j h1 h2=>?_;simp only [ωb,ψp,Function.comp];exact Bp 0 h2
 rw [this];exact hn
abbrev HW (mv:Nat) (bs:Option (List Nat×Nat)) (L:List (Int×Value)) (M:MF):Hp:=[(40,[.multi M]),(50,[.map bs (BN AF K7 L)]),(51,[.addr 50 0 (.map (some mv))])]
structure JH where
 id:Int
 re:Int
 r:AP
 by_:Int
def D5:AP:=⟨0,T3,[],[]⟩
def exc0:JH:=⟨0,0,D5,0⟩
abbrev bz (e:JH):D:= .agg [AF e.id,AF e.re,AF e.r.k,Am e.r.acc.o,AF e.r.acc.k,Am e.r.acc.a,Am e.r.f,Am e.r.t,AF e.by_]
abbrev excR (o:Option JH):D:= .tup [bz (o.getD exc0),Ag o.isSome]
def badP (N:Net) (e:Nat×Nat):Bool:=decide ((N.po.getD e.1 Bz).mi<e.2)
def N6 (N:Net) (x:Nd) (e:Nat×Nat):JH:=⟨x.it.id,1,(N.po.getD e.1 Bz).r,(N.nd.getD ((N.po.getD e.1 Bz).q.getD (N.po.getD e.1 Bz).mi 0) Bc).it.id⟩
def offOf (N:Net) (id:Int):Bool:=!(N.nd.getD ((BP N).idxOf id) Bc).on
def F6 (N:Net) (x:Nd):Option JH:=match x.pl.find? (badP N) with
 | some e=>some (N6 N x e)
 | none=>match x.it.af.find? (offOf N) with
  | some id=>some ⟨x.it.id,2,D5,id⟩
  | none=>none
theorem QN {α:Type} {p:α ->Bool}:∀{l:List α} {k:Nat} (hk:k<l.length),(∀x∈l.take k,p x=false) ->p l[k]=true ->l.find? p=some l[k]
 | a::l,0,_,_,h=>by simp at h;simp [h]
 | a::l,k+1,hk,h0,h=>by
  have h1:p a=false:=h0 a (by simp);have ih:=QN (l:=l) (k:=k) (by simpa using hk) (fun x hx=>h0 x (by simp [hx])) (by simpa using h);rw [List.find?_cons,h1];simpa using ih
theorem IQ {α:Type} {p:α ->Bool} {l:List α} (h:∀x∈l,p x=false):l.find? p=none:=List.find?_eq_none.2 fun x hx=>by rw [h x hx];simp
structure NetW (N:Net):Prop where
 i:(BP N).Nodup
 a:∀x∈N.nd,∀id∈x.it.af,id∈BP N
 l:∀x∈N.nd,x.ef.length≤60∧x.pl.length≤1000∧x.it.af.length≤1000
 e:∀x∈N.nd,∀e∈x.ef,-100000000000000000≤e.2∧e.2≤100000000000000000
 p:∀x∈N.nd,∀e∈x.pl,e.2<(N.po.getD e.1 Bz).q.length∧e.2≤1000000
 m:∀y∈N.po,y.mi≤1000000
 rm:∀y∈N.po,-1000000000000000000≤y.room∧y.room≤1000000000000000000
 n:N.nd.length≤1000∧N.po.length≤1000
 ql:∀y∈N.po,y.q.length≤1000
set_option maxHeartbeats 1000000 in
theorem inadm_c {wb mv:Nat} {nb pb:Nat ->Nat} {N:Net} {M:MF} (bs:Option (List Nat×Nat)) (h:Bx wb mv nb pb N M) (hw:NetW N) {i:Nat} {x:Nd} (hx:N.nd[i]? =some x):
  AM Tryz.prog 193 [.d (pD wb 0),.d (pD (nb i) 0)] (HW mv bs (Fa nb (BP N)) M) fun r H'=>r= .d (excR (F6 N x))∧H'=HW mv bs (Fa nb (BP N)) M:=by
 have hwb:=h.w;have hxm:=ζ hx;obtain ⟨hxb,hre,hrp⟩:=h.nn i x hx;have hpz:=Ta hrp;obtain ⟨_,hpl,hafl⟩:=hw.l x hxm;have hxe:=h.e x hxm;have hxp:=hw.p x hxm;have hxa:=hw.a x hxm;refine Az Tryz.func193 Z Z Tryz.ntmps193 Z Z Z fun F hF=>(AC (AE (V (CD 1 I7 Z Z Z Z) (AB Z Z (AD (AC (AC (AE ?_))))))));refine goMv Z Z (J (DE Z Z) (J (CQ Z Jl Z Z Z) (J (Dn (f:=40) Z Z (hxb) Z Vm Z) (J (VF hpz Z Tryz.underlying182 Z) (goMv Z Z (AD (A4 (B5 (α:=Nat) (fun k=>⟨85,[(0,.d (pD wb 0)),(1,.d (pD (nb i) 0)),(4,(.ptr 1 0 0)),(13,(.d (hdr x.ph x.pl.length))),(14,(.d (AF (x.pl.length:Int)))),(15,(.d (AF (k:Int))))],(1,[.blk 245 [.d (AF 0),.d (AF 0),.d (AF 0),.d (Am []),.d (AF 0),.d (Am []),.d (Am []),.d (Am []),.d (AF 0)]])::HW mv bs (Fa nb (BP N)) M⟩) (fun k=>k≤x.pl.length∧∀e∈x.pl.take k,badP N e=false) (fun k=>x.pl.length - k) (0) (⟨Δ _,by simp⟩) (A0 hF [1,40,50,51] Z Z ⟨Z,Z,Z,Z,Z,Z,trivial⟩) ?_))))))));rintro k ⟨hk0,hkb⟩;refine AC (AE (J (BV Z Z Z) (AD (AC (Ae Z (fun h16=>?_) (fun h16=>?_))))))
 ·have hk1:k<x.pl.length:=Bf h16;refine A1 (AC (A4 (AC ?_)));obtain ⟨eb,ec,hee⟩:=Tj hrp hk1;have hrow:=Qm hrp hee;have hjl:x.pl[k].1<N.po.length:=hxe.2 _ (κ hk1)
  obtain ⟨y,hy⟩:∃y,N.po[x.pl[k].1]? =some y:=⟨_,ω hjl⟩
  have hgy:N.po.getD x.pl[k].1 Bz=y:=by rw [ϱ,hy];rfl
  obtain ⟨hyb,hyq⟩:=h.pp _ y hy;have hpk:=hxp _ (κ hk1);rw [hgy] at hpk;refine AE (J (VB hee (k) Z Z Z hk1 Tryz.underlying182 O9 Z) ?_);refine J (D3 (f:=40) (e:=k) Z (Z) Z (hrow) (Ah hk1) Z Zd Z) (V (CD 2 VI Z Z Z Z) (V (Be Z Z Z Z Z Z Z O9) (AD (AC (Cb [[],[0],[0,1],[0,1,2],[0,1,2,3],[],[5],[0,1,2,3,4,5,6]] mixed Z (Cr (AJ [7] [] Z Z (fun _=>AG (AZ Z Gf Z Z Z)) (AJ [19] [2] Z Z (fun _=>AG (A6 Z Z Z ET Z)) ?_))))))));refine AJ [20] [] Z Z (fun _=>AG (DE Z Z)) (AJ [21] [] Z Z (fun _=>AG (CQ Z Jj Z Z Z)) (AJ [22] [40] Z Z (fun _=>AG (Dn (f:=40) Z Z (hyb) Z Aq Z)) (AJ [7] [] Z Z (fun _=>AG (AZ Z QS Z Z Z)) (AJ [24] [2] Z Z (fun _=>AG (A6 Z Z Z Aq Z)) (C3 7 Z Z Z (Aa 8 Z Z (J (BV Z Z Z) (AD ⟨Z,?_⟩))))))));refine C9 (Ae Z (fun h26=>?_) (fun h26=>?_))
  ·refine AC ?_;have hmq:y.mi<y.q.length:=by have h:=h26;omega
   obtain ⟨qb,qc,hqe⟩:=Tj hyq hmq;have hqrow:=Qm hyq hqe;have hni:y.q[y.mi]<N.nd.length:=h.q y (ζ hy) _ (κ hmq)
   obtain ⟨z,hz⟩:∃z,N.nd[y.q[y.mi]]? =some z:=⟨_,ω hni⟩
   obtain ⟨hzb,_,_⟩:=h.nn _ z hz;have hbad:F6 N x=some ⟨x.it.id,1,y.r,z.it.id⟩:=by unfold F6;rw [QN hk1 hkb (by unfold badP;rw [hgy];exact ωc (by have h:=h26;omega))];unfold N6;dsimp only;rw [hgy,Bp 0 hmq,ϱ,hz];rfl
   refine Cb [[],[0],[0,1],[0,1,2],[0,1,2,3],[],[5],[5,6],[5,6,7],[5,6,7,8],[],[10],[10,11],[10,11,12],[10,11,12,13],[],[15],[15,16],[15,16,17],[15,16,17,18],[10,11,12,13,14,15,16,17,18,19],[10,11,12,13,14,15,16,17,18,19,20],[10,11,12,13,14,15,16,17,18,19,20,21],[10,11,12,13,14,15,16,17,18,19,20,21,22],[10,11,12,13,14,15,16,17,18,19,20,21,22,23],[10,11,12,13,14,15,16,17,18,19,20,21,22,23,24],[0,1,2,3,4,5,6,7,8,9,10,11,12,13,14,15,16,17,18,19,20,21,22,23,24,25],[0,1,2,3,4,5,6,7,8,9,10,11,12,13,14,15,16,17,18,19,20,21,22,23,24,25,26],[0,1,2,3,4,5,6,7,8,9,10,11,12,13,14,15,16,17,18,19,20,21,22,23,24,25,26,27]] mixed Z (Cr (AJ [1] [] Z Z (fun _=>AG (Aj Z Z)) (AJ [27] [] Z Z (fun _=>AG (DE Z Z)) (AJ [28] [] Z Z (fun _=>AG (CQ Z F8 Z Z Z)) ?_))));refine AJ [29] [] Z Z (fun _=>AG (CQ Z OC Z Z Z)) (AJ [30] [40] Z Z (fun _=>AG (Dn (f:=40) Z Z (hxb) Z Aq Z)) (AJ [7] [] Z Z (fun _=>AG (AZ Z Gf Z Z Z)) (AJ [32] [2] Z Z (fun _=>AG (A6 Z Z Z ET Z)) (AJ [33] [] Z Z (fun _=>AG (DE Z Z)) (AJ [34] [] Z Z (fun _=>AG (CQ Z Lz Z Z Z)) (AJ [35] [40] Z Z (fun _=>AG (Cv (f:=40) Z Z (hyb) CU Z Z (by simp [D.one]) Z)) (AJ [7] [] Z Z (fun _=>AG (AZ Z Gf Z Z Z)) (AJ [37] [2] Z Z (fun _=>AG (A6 Z Z Z ET Z)) ?_))))))));refine AJ [38] [] Z Z (fun _=>AG (DE Z Z)) (AJ [39] [] Z Z (fun _=>AG (CQ Z Gg Z Z Z)) (AJ [40] [40] Z Z (fun _=>AG (Dn (f:=40) Z Z (hyb) Z Fz Z)) (AJ [7] [] Z Z (fun _=>AG (AZ Z Gf Z Z Z)) (AJ [42] [2] Z Z (fun _=>AG (A6 Z Z Z ET Z)) (AJ [43] [] Z Z (fun _=>AG (DE Z Z)) (AJ [44] [] Z Z (fun _=>AG (CQ Z Jj Z Z Z)) (AJ [45] [40] Z Z (fun _=>AG (Dn (f:=40) Z Z (hyb) Z Aq Z)) (AJ [41,46] [] Z Z (fun _=>AG (VB hqe (y.mi) Z Z Z hmq Tryz.underlying175 LI Z)) ?_))))))));refine AJ [47] [40] Z Z (fun _=>AG (Zcx (f:=40) (e:=y.mi) (off:=0) Z (by omega) Z (hqrow) (Ah hmq) Z Mq Z)) (AJ [48] [] Z Z (fun _=>AG (DE Z Z)) (AJ [49] [] Z Z (fun _=>AG (CQ Z F8 Z Z Z)) (AJ [50] [] Z Z (fun _=>AG (CQ Z OC Z Z Z)) (AJ [51] [40] Z Z (fun _=>AG (Dn (f:=40) Z Z (hzb) Z Aq Z)) (C3 26 Z Z Z (Aa 27 Z Z (J (FV I7 Rj Z Z Z) (AD ⟨Z,?_⟩))))))));refine Aa 28 Z Z (V (Be Z Z Z Z Z Z Z JK) (AD ⟨Z,?_⟩));refine Aa 29 Z Z (AB Z Z (AD ⟨Z,?_⟩));refine C9 (A5 ?_);exact ⟨_,[40,50,51],_,A3 Z,Z,Z,by rw [hbad];rfl,Z⟩
  ·refine A1 (AE (J (Ay Z Z (AT (k+1) (by omega)) Z) (goMv Z Z (AD ?_))));exact ⟨k+1,⟨by show k+1≤_;omega,by rw [φ hk1];intro e he;rcases υ.1 he with he | he;exact hkb e he;rw [ξ.1 he];unfold badP;rw [hgy];exact ωp (by have h:=h26;omega)⟩,by show x.pl.length - (k+1)<x.pl.length - k;omega,A0 hF [1,40,50,51] Z (Z) ⟨Z,Z,Z,Z,Z,Z,trivial⟩⟩
 ·refine BC (AC (AC ?_));have hpn:x.pl.find? (badP N)=none:=IQ (by have e:k=x.pl.length:=(by have h:=h16;omega);rw [e,ωw] at hkb;exact hkb);refine AE (goMv Z Z ?_);refine J (DE Z Z) (J (CQ Z F8 Z Z Z) (J (CQ Z FH Z Z Z) (J (Dn (f:=40) Z Z (hxb) Z BI Z) (J (CM Z Tryz.underlying28 Z) (goMv Z Z (AD (A4 (B5 (α:=Nat) (fun j=>⟨85,[(0,.d (pD wb 0)),(1,.d (pD (nb i) 0)),(4,(.ptr 1 0 0)),(59,(.d (.sl none (x.it.af.map AF)))),(60,(.d (AF (x.it.af.length:Int)))),(61,(.d (AF (j:Int))))],(1,[.blk 245 [.d (AF 0),.d (AF 0),.d (AF 0),.d (Am []),.d (AF 0),.d (Am []),.d (Am []),.d (Am []),.d (AF 0)]])::HW mv bs (Fa nb (BP N)) M⟩) (fun j=>j≤x.it.af.length∧∀id∈x.it.af.take j,offOf N id=false) (fun j=>x.it.af.length - j) (0) (⟨Δ _,by simp⟩) (A0 hF [1,40,50,51] Z Z ⟨Z,Z,Z,Z,Z,Z,trivial⟩) ?_))))))));rintro j ⟨hj0,hjb⟩;refine AC (AE (J (BV Z Z Z) (AD (AC (Ae Z (fun h62=>?_) (fun h62=>?_))))))
  ·have hj1:j<x.it.af.length:=Bf h62;refine A1 (AC (A4 (AC ?_)));have hidm:=hxa _ (κ hj1);have hil:=ψo hidm;have hil2:(BP N).idxOf x.it.af[j]<N.nd.length:=by unfold BP at hil⊢;rw [ψ] at hil;exact hil
   obtain ⟨z,hz⟩:∃z,N.nd[(BP N).idxOf x.it.af[j]]? =some z:=⟨_,ω hil2⟩
   have hgz:N.nd.getD ((BP N).idxOf x.it.af[j]) Bc=z:=by rw [ϱ,hz];rfl
   obtain ⟨hzb,_,_⟩:=h.nn _ z hz;have hby:=Q9 (nb:=nb) hw.i hil;rw [φa hil] at hby;refine AE (J (Bk (j) Z Z (Z) (Ah hj1) Tryz.underlying28 Z BA Z) ?_);refine J (D0 Z Z Aq Z) (AB Z Z (AD (AC (AE (goMv Z Z (J (DE Z Z) (J (CQ Z MA Z Z Z) (J (Dn (f:=40) Z Z (hwb) Z Vo Z) ?_))))))));refine DM 68 51 0 Z Z (goMv Z Z (J (HF (Fa nb (BP N)) x.it.af[j] (.pointer none) (pV (nb ((BP N).idxOf x.it.af[j])) 0) Z Z Z WC HE VJ hby Z) (J (DE Z Z) (J (CQ Z E4 Z Z Z) (J (Dn (f:=40) Z Z (hzb) Z on4 Z) (J (O3 Z Z) (AD (KK Z (fun h74=>?_) (fun h74=>?_)))))))))
   ·refine AC (AE (goMv Z Z (J (DE Z Z) (J (CQ Z F8 Z Z Z) ?_))));refine J (CQ Z OC Z Z Z) (J (Dn (f:=40) Z Z (hxb) Z Aq Z) (J (FV KN Rg Z Z Z) (goMv Z Z (J (FV I7 Rj Z Z Z) (V (Be Z Z Z Z Z Z Z JK) (AB Z Z (AD (A5 ?_))))))));exact ⟨_,[40,50,51],_,A3 Z,Z,Z,by unfold F6;rw [hpn];dsimp only;rw [QN hj1 hjb (by unfold offOf;rw [hgz];simpa using h74)];rfl,Z⟩
   ·refine A1 (AE (J (Ay Z Z (AT (j+1) (by omega)) Z) (goMv Z Z (AD ?_))));exact ⟨j+1,⟨by show j+1≤_;omega,by rw [φ hj1];intro e he;rcases υ.1 he with he | he;exact hjb e he;rw [ξ.1 he];unfold offOf;rw [hgz];simpa using h74⟩,by show x.it.af.length - (j+1)<x.it.af.length - j;omega,A0 hF [1,40,50,51] Z (Z) ⟨Z,Z,Z,Z,Z,Z,trivial⟩⟩
  ·refine BC (AC (AE (J (FV I7 Rj Z Z Z) (V (Be Z Z Z Z Z Z Z JK) (AB Z Z (AD (A5 ?_)))))));exact ⟨_,[40,50,51],_,A3 Z,Z,Z,by unfold F6;rw [hpn];dsimp only;rw [IQ (by have e:j=x.it.af.length:=(by have h:=h62;omega);rw [e,ωw] at hjb;exact hjb)];rfl,Z⟩
abbrev bw:FuncId:=230
theorem backF_c (h:Hd) (n:Nat):AM Tryz.prog 194 [.d (hdr h n)] [] fun r H'=>r= .fn bw [.d (.ptr (hdr h n))]∧H'=[]:=by
 refine Az Tryz.func194 Z Z Tryz.ntmps194 Z Z Z fun F hF=>(AC (AE (V (CC 1 Z Z Z Z Z Z Z) ?_)));refine AB Z Z (AD (AC (AE (PD 1 1 (hdr h n) [] hF Z Z Z (by intro c hc;simp [D.cells] at hc;subst hc;rfl) Z Z Z (J (Zcy Z Z) (AB Z Z (AD (A5 ?_))))))));exact ⟨_,[],[],A3 Z,Z,Z,Z,Z⟩
def K3 (q:List Nat):Nat ->List (Nat×Nat)
 | 0=> []
 | c+1=>(c,q.getD c 0)::K3 q c
def cF (nb:Nat ->Nat) (e:Nat×Nat):List AV:=[.d (AF (e.1:Int)),.d (BG (nb e.2))]
section
variable {β:Type}
theorem back1_c (nb:Nat ->Nat) (q:List Nat) (hq:q.length≤100000) {M:MF} {h:Hd} (hrow:BF M h 176 1 (q.map fun i=>BG (nb i))) (l:Nat) (H:β ->Hp) (N:List Nat) (step:β ->Nat×Nat ->β×Bool) (st0:β) (hN:∀st,hpN (H st)=N) (hI:∀st,fSq N (H st)=true) (hP:∀st,BQ (H st) N=some (H st)) (hM:∀st,hfam (H st) 40=some [.multi M])
  (hfe:L5 Tryz.prog l (cF nb) H step st0 (K3 q q.length)):
  AM Tryz.prog bw [.d (.raw (Cj l)),.d (.ptr (hdr h q.length))] (H st0) fun r H'=>r= .tup []∧H'=H (HB step st0 (K3 q q.length)):=by
 have hz:=Ta hrow;have x5:∀st,AR N (H st)=true:=fun st=>by have h:=EH (H st);rw [hN] at h;exact h
 have x6:∀st,CS N (H st)=some []:=fun st=>by have h:=Or (H st);rw [hN] at h;exact h
 refine Az Tryz.func230 Z Z Tryz.ntmps230 Z Z Z fun F hF=>?_;refine AC (AE (J (D0 Z Z Fz Z) (J (VF hz Z Tryz.underlying175 Z) (J (LF Z Z (ωa _ (by omega)) Z) (AB Z Z (AD (A4 (Gm (α:=Nat×β) (fun p=>⟨19,[(0,.d (.raw (Cj l))),(1,.d (.ptr (hdr h q.length))),(3,(.d (AF ((p.1:Int) - 1))))],H p.2⟩) (fun p=>p.1≤q.length∧L5 Tryz.prog l (cF nb) H step p.2 (K3 q p.1)∧HB step p.2 (K3 q p.1)=HB step st0 (K3 q q.length)) (fun p=>p.1) ((q.length,st0)) (⟨ϖ _,hfe,Z⟩) (dJ ⟨Z,Z,Z,trivial⟩) ?_))))))));rintro ⟨c,st⟩ ⟨hc0,hfk,hfin⟩;dsimp only at hc0 hfk hfin⊢;refine AC (AC (AE (goMv Z Z (J (EO Z Z Z) (AD (Ae Z (fun h8=>?_) (fun h8=>?_)))))))
 ·obtain ⟨k,rfl⟩:∃k,c=k+1:=⟨c - 1,by have h:=h8;omega⟩
  refine A1 (AC (A4 (AC ?_)));have hkq:k<q.length:=by omega
  obtain ⟨qb,qc,hqe⟩:=Tj hrow hkq;have hqrow:=Qm hrow hqe;have hk1:((k+1:Nat):Int) - 1=(k:Int):=by omega
  rw [hk1];refine AE (goMv Z Z (goMv Z Z (J (D0 Z Z Fz Z) (goMv Z Z (J (VB hqe (k) Z Z Z hkq Tryz.underlying175 LI Z) (J (Zcx (f:=40) (e:=k) (off:=0) Z (by omega) (hM st) hqrow (Ah hkq) Z Mq Z) ?_))))));rw [←Bp 0 hkq];refine Rx Z Z hfk.1 N (Eh fun _ _=>rfl) (x5 st) (x6 st) Z Z (fun r H' ⟨e1,e2⟩=>by subst e1 e2;exact ⟨x5 _,hI _,Z⟩) Z fun r H' ⟨e1,e2⟩=>?_;subst e1 e2;rw [ωl];refine J (O3 Z Z) (AD (KK Z (fun h18=>?_) (fun h18=>?_)))
  ·have hgo:(step st (k,q.getD k 0)).2=false:=by simpa using h18
   refine A5 ?_;exact ⟨_,N,_,A3 Z,hP _,x5 _,Z,by rw [←hfin];show H _=H (HB step st ((k,q.getD k 0)::K3 q k));rw [Di,ϑ (by rw [hgo];decide)]⟩
  ·have hgo:(step st (k,q.getD k 0)).2=true:=by simpa using h18
   refine A1 (AE (goMv Z Z (J (LF Z Z (ωa _ (by omega)) Z) (AB Z Z (AD ?_)))));exact ⟨(k,(step st (k,q.getD k 0)).1),⟨by show k≤_;omega,hfk.2 hgo,by show HB step (step st (k,q.getD k 0)).1 (K3 q k)=_;rw [←hfin];show _=HB step st ((k,q.getD k 0)::K3 q k);rw [Di,θ hgo]⟩,by show k<k+1;omega,⟨Z,Z,fun _ _=>Tm.get (l:=[(0,_),(1,_),(3,_)]) ⟨Z,Z,Z,trivial⟩⟩⟩
 ·refine BC ?_;exact ⟨_,N,_,A3 Z,hP _,x5 _,Z,by rw [←hfin];have e:c=0:=(by have h:=h8;omega);rw [e];rfl⟩
end
def onN (N:Net) (i:Nat):Bool:=(N.nd.getD i Bc).on
def ndX (N:Net) (x:Nd):Option JH:=if x.on=true then F6 N x else none
def Tf (N:Net) (y:Po):Option JH:=if ON y y.sum=true then (y.q.reverse.find? (onN N)).map fun i=>⟨(N.nd.getD i Bc).it.id,0,y.r,-1⟩ else none
def DO (N:Net):Option JH:=match N.nd.findSome? (ndX N) with
 | some e=>some e
 | none=>N.po.findSome? (Tf N)
theorem He {α β:Type} {f:α ->Option β}:∀{l:List α} {k:Nat} (hk:k<l.length) {b:β},(∀x∈l.take k,f x=none) ->f l[k]=some b ->l.findSome? f=some b
 | a::l,0,_,b,_,h=>by simp at h;rw [φq,h]
 | a::l,k+1,hk,b,h0,h=>by
  have h1:f a=none:=h0 a (by simp);have ih:=He (l:=l) (k:=k) (by simpa using hk) (fun x hx=>h0 x (by simp [hx])) (by simpa using h);rw [φq,h1];exact ih
theorem Hc {α β:Type} {f:α ->Option β} {l:List α} (h:∀x∈l,f x=none):l.findSome? f=none:=List.findSome?_eq_none_iff.2 h
def stRO:Bool ->LoopState
 | true=> .done
 | false=> .ready
def pdRO:Bool ->Option Code
 | true=>some .ret
 | false=>none
def HP (N:Net) (_st:Option Nat) (e:Nat×Nat):Option Nat×Bool:=if onN N e.2=true then (some e.2,false) else (none,true)
theorem bv (N:Net) (q:List Nat):∀n,n≤q.length ->HB (HP N) none (K3 q n)=((q.take n).reverse.find? (onN N))
 | 0,_=>rfl
 | n+1,h=>by
  have hn:n<q.length:=by omega
  show HB (HP N) none ((n,q.getD n 0)::K3 q n)=_;rw [Di,φ hn,List.reverse_append,List.reverse_singleton,List.singleton_append,List.find?_cons,Bp 0 hn];unfold HP;dsimp only
  cases ho:onN N q[n] with
  | true=>rfl
  | false=>exact bv N q n (by omega)
theorem WX {P:Program} {l:Nat} {nb:Nat ->Nat} {H:Option Nat ->Hp} (N:Net) (q:List Nat) (hY:∀k (hk:k<q.length),Fm P l (cF nb (k,q[k])) (H none) fun v H'=>v= .d (.raw (.bool (!onN N q[k])))∧H'=H (if onN N q[k]=true then some q[k] else none)):∀n,n≤q.length ->L5 P l (cF nb) H (HP N) none (K3 q n)
 | 0,_=>trivial
 | n+1,h=>by
  have hn:n<q.length:=by omega
  have hy:=hY n hn;show L5 P l (cF nb) H (HP N) none ((n,q.getD n 0)::K3 q n);rw [Bp 0 hn];refine ⟨hy.mono fun v H' ⟨e1,e2⟩=>⟨by rw [e1];unfold HP;cases onN N q[n]<;>rfl,by rw [e2];unfold HP;cases onN N q[n]<;>rfl⟩,fun hgo=>?_⟩
  have hoff:onN N q[n]=false:=by
   cases ho:onN N q[n] with
   | false=>rfl
   | true=>unfold HP at hgo;dsimp only at hgo;rw [ho] at hgo;cases hgo
  have:(HP N none (n,q[n])).1=none:=by unfold HP;dsimp only;rw [hoff];rfl
  rw [this];exact WX N q hY n (by omega)
abbrev excB (e:JH):AL:= .blk 245 [.d (AF e.id),.d (AF e.re),.d (AF e.r.k),.d (Am e.r.acc.o),.d (AF e.r.acc.k),.d (Am e.r.acc.a),.d (Am e.r.f),.d (Am e.r.t),.d (AF e.by_)]
def fndE (N:Net) (y:Po) (o:Option Nat):JH:=match o with
 | none=>exc0
 | some i=>⟨(N.nd.getD i Bc).it.id,0,y.r,-1⟩
abbrev hBk (N:Net) (y:Po) (pbk mv:Nat) (bs:Option (List Nat×Nat)) (L:List (Int×Value)) (M:MF) (o:Option Nat):Hp:=[(1,[excB (fndE N y o)]),(2,[.blk 4 [.d (Ag o.isSome)]]),(4,[.blk 186 [.d (BG pbk)]]),(40,[.multi M]),(50,[.map bs (BN AF K7 L)]),(51,[.addr 50 0 (.map (some mv))])]
set_option maxHeartbeats 2000000 in
theorem next_c {wb mv:Nat} {nb pb:Nat ->Nat} {N:Net} {M:MF} (bs:Option (List Nat×Nat)) (h:Bx wb mv nb pb N M) (hw:NetW N) (hs:RG N.po 1000000000000000000):
  AM Tryz.prog 139 [.d (pD wb 0)] (HW mv bs (Fa nb (BP N)) M) fun r H'=>r= .d (excR (DO N))∧H'=HW mv bs (Fa nb (BP N)) M:=by
 have hwb:=h.w;have hnr:BF M N.nh 176 1 ((List.range N.nd.length).map fun i=>BG (nb i)):=h.rs.1 .n;have hpr:BF M N.mh 186 1 ((List.range N.po.length).map fun j=>BG (pb j)):=h.rs.1 .m;have hnz:=Ta hnr;have hpz:=Ta hpr;rw [ωh] at hnz hpz;have hnl:=hw.n
 obtain ⟨L,hL⟩:∃L,Fa nb (BP N)=L:=⟨_,Z⟩
 have hina:=fun i x hx=>inadm_c (i:=i) (x:=x) bs h hw hx;rw [hL] at hina⊢;refine Nu Tryz.func139 Z Z Tryz.ntmps139 Z Z Z fun F hF hFl=>(AC (AE (V (CD 1 I7 Z Z Z Z) (V (CD 2 zl4 Z Z Z Z) (AD (AC (AC (AE ?_))))))));refine goMv Z Z (J (DE Z Z) (J (CQ Z IS Z Z Z) (J (Dn (f:=40) Z Z (hwb) Z Fz Z) (J (VF hnz Z Tryz.underlying175 Z) (goMv Z Z (AD (A4 (B5 (α:=Nat) (fun k=>⟨74,[(0,.d (pD wb 0)),(2,(.ptr 1 0 0)),(3,(.ptr 2 0 0)),(15,(.d (hdr N.nh N.nd.length))),(16,(.d (AF (N.nd.length:Int)))),(17,(.d (AF (k:Int))))],(1,[excB exc0])::(2,[.blk 4 [.d (Ag false)]])::HW mv bs L M⟩) (fun k=>k≤N.nd.length∧∀x∈N.nd.take k,ndX N x=none) (fun k=>N.nd.length - k) (0) (⟨Δ _,by simp⟩) (A0 hF [1,2,40,50,51] Z Z ⟨Z,Z,Z,Z,Z,Z,trivial⟩) ?_))))))));rintro k ⟨hk0,hkb⟩;refine AC (AE (J (BV Z Z Z) (AD (AC (Ae Z (fun h18=>?_) (fun h18=>?_))))))
 ·have hk1:k<N.nd.length:=Bf h18;refine A1 (AC (A4 (AC ?_)))
  obtain ⟨x,hx⟩:∃x,N.nd[k]? =some x:=⟨_,ω hk1⟩
  have hxk:N.nd[k]=x:=by rw [ω hk1] at hx;injection hx
  obtain ⟨hxb,_,_⟩:=h.nn k x hx;obtain ⟨rb,rc,hre⟩:=Tj hnr (j:=k) (by rw [ωh];exact hk1);have hrow:=Qm hnr hre;refine AE (J (VB hre (k) Z Z Z hk1 Tryz.underlying175 LI Z) (J (Zcx (f:=40) (e:=k) (off:=0) Z (by omega) Z (hrow) ((by rw [η,ψu hk1];rfl)) Z Mq Z) ?_));refine AB Z Z (AD (AC ?_));refine AC (AE (goMv Z Z (J (DE Z Z) (J (CQ Z E4 Z Z Z) (J (Dn (f:=40) Z Z (hxb) Z on4 Z) (J (O3 Z Z) (AD (KK Z (fun h25=>?_) (fun h25=>?_)))))))))
  ·have hnone:ndX N x=none:=by unfold ndX;rw [ϑ (by simpa using h25)]
   refine BC ?_
   try have hnone:ndX N x=none:=by unfold ndX;split<;>first | exact hin | rfl
   refine AE (J (Ay Z Z (AT (k+1) (by omega)) Z) (goMv Z Z (AD ?_)));exact ⟨k+1,⟨by show k+1≤_;omega,by rw [φ hk1];intro e he;rcases υ.1 he with he | he;exact hkb e he;rw [ξ.1 he,hxk];exact hnone⟩,by show N.nd.length - (k+1)<N.nd.length - k;omega,A0 hF [1,2,40,50,51] Z (Z) ⟨Z,Z,Z,Z,Z,Z,trivial⟩⟩
  ·refine A1 (AC (AE (goMv Z Z (goMv Z Z (V (EW (hina k x hx) Z [40,50,51] ⟨Z,Z,Z,trivial⟩ Z Z Z Z Z Z Z Z Z) ?_)))));refine goMv Z Z (J (DD Z Z Z) (J (DD Z Z Z) (V (CD 3 I7 Z Z Z Z) (V (Be Z Z Z Z Z Z Z JK) (AB Z Z (AD (AC (AE ?_))))))))
   cases hin:F6 N x
   ·refine goMv Z Z (AD (EN Z (Z) (A1 ?_)))
    try have hnone:ndX N x=none:=by unfold ndX;split<;>first | exact hin | rfl
    refine AE (J (Ay Z Z (AT (k+1) (by omega)) Z) (goMv Z Z (AD ?_)));exact ⟨k+1,⟨by show k+1≤_;omega,by rw [φ hk1];intro e he;rcases υ.1 he with he | he;exact hkb e he;rw [ξ.1 he,hxk];exact hnone⟩,by show N.nd.length - (k+1)<N.nd.length - k;omega,A0 hF [1,2,40,50,51] Z (Z) ⟨Z,Z,Z,Z,Z,Z,trivial⟩⟩
   ·refine goMv Z Z ?_;refine AD (DV Z (Z) (AC (AE (J (BM Z Z rw245 Z Z Z) (V (Be Z Z Z Z Z Z Z JK) (V (Be Z Z Z Z Z Z Z sz4) (AD (A5 ?_))))))));exact ⟨_,[40,50,51],_,A3 Z,Z,Z,by unfold DO;rw [He hk1 hkb (by rw [hxk];unfold ndX;rw [θ (by simpa using h25)];exact hin)];rfl,Z⟩
 ·refine BC (AC (AC ?_));have hnn:N.nd.findSome? (ndX N)=none:=Hc (by have e:k=N.nd.length:=(by have h:=h18;omega);rw [e,ωw] at hkb;exact hkb);refine AE ?_;refine goMv Z Z (J (DE Z Z) (J (CQ Z Jn Z Z Z) (J (Dn (f:=40) Z Z (hwb) Z Vp Z) (J (VF hpz Z Tryz.underlying177 Z) (goMv Z Z (AD (A4 (B5 (α:=Nat) (fun j=>⟨74,[(2,(.ptr 1 0 0)),(3,(.ptr 2 0 0)),(38,(.d (hdr N.mh N.po.length))),(39,(.d (AF (N.po.length:Int)))),(40,(.d (AF (j:Int))))],(1,[excB exc0])::(2,[.blk 4 [.d (Ag false)]])::HW mv bs L M⟩) (fun j=>j≤N.po.length∧∀y∈N.po.take j,Tf N y=none) (fun j=>N.po.length - j) (0) (⟨Δ _,by simp⟩) (A0 hF [1,2,40,50,51] Z Z ⟨Z,Z,Z,Z,Z,trivial⟩) ?_))))))));rintro j ⟨hj0,hjb⟩;refine AC (AE (J (BV Z Z Z) (AD (AC (Ae Z (fun h41=>?_) (fun h41=>?_))))))
  ·have hj1:j<N.po.length:=Bf h41;refine A1 (AC (A4 (AC ?_)))
   obtain ⟨y,hy⟩:∃y,N.po[j]? =some y:=⟨_,ω hj1⟩
   have hyk:N.po[j]=y:=by rw [ω hj1] at hy;injection hy
   have hym:=ζ hy;obtain ⟨hyb,hyq⟩:=h.pp j y hy;obtain ⟨rb,rc,hre⟩:=Tj hpr (j:=j) (by rw [ωh];exact hj1);have hrow:=Qm hpr hre;have hys:=hs y hym;have hov:=LO h hy y.sum (hw.rm y hym) (by omega);have hql:=hw.ql y hym;refine AE (J (VB hre (j) Z Z Z hj1 Tryz.underlying177 ZH Z) (J (Zcx (f:=40) (e:=j) (off:=0) Z (by omega) Z (hrow) ((by rw [η,ψu hj1];rfl)) Z ET Z) ?_));refine V (CD 4 zl186 Z Z Z Z) (V (Be Z Z Z Z Z Z Z ZH) (AD (AC (AC (Cb [[],[],[1],[1,2],[1,2,3],[0,1,2,3,4],[0,1,2,3,4,5]] mixed Z (Cr ?_))))));refine AJ [9] [4] Z Z (fun _=>AG (A6 Z Z Z ET Z)) (AJ [9] [4] Z Z (fun _=>AG (A6 Z Z Z ET Z)) (AJ [45] [] Z Z (fun _=>AG (DE Z Z)) (AJ [46] [] Z Z (fun _=>AG (CQ Z Jk Z Z Z)) (AJ [47] [40] Z Z (fun _=>AG (Dn (f:=40) Z Z (hyb) Z JG Z)) (C3 5 Z Z Z (Aa 6 Z Z (V (EW hov Z [40] ⟨Z,trivial⟩ Z Z Z Z Z Z Z Z Z) (AD ⟨Z,?_⟩))))))));refine Aa 7 Z Z ?_
   cases hovy:ON y y.sum
   ·refine J (O3 Z Z) (AD ⟨Z,?_⟩);refine C9 (DV Z (Z) (BC ?_));have hpnone:Tf N y=none:=by unfold Tf;first | (rw [ϑ (by rw [hovy];decide)]) | (rw [θ hovy,←ho];rfl)
    refine AE (J (Ay Z Z (AT (j+1) (by omega)) Z) (goMv Z Z (AD ?_)));exact ⟨j+1,⟨by show j+1≤_;omega,by rw [φ hj1];intro e he;rcases υ.1 he with he | he;exact hjb e he;rw [ξ.1 he,hyk];exact hpnone⟩,by show N.po.length - (j+1)<N.po.length - j;omega,A0 hF [1,2,40,50,51] Z (Z) ⟨Z,Z,Z,Z,Z,trivial⟩⟩
   ·refine J (O3 Z Z) (AD ⟨Z,?_⟩);refine C9 (EN Z (Z) (A1 ?_));refine AC (AE (J (A6 Z Z Z ET Z) (J (DE Z Z) (J (CQ Z Gg Z Z Z) (J (Dn (f:=40) Z Z (hyb) Z Fz Z) (V (EW (backF_c y.qh y.q.length) Z [] trivial Z Z Z Z Z Z Z Z Z) (AD (A4 ?_))))))));refine dB [2,3,9,38,39,40,55] Z ?_;refine Wj (γ:=Option Nat) hFl 900 Z Z Z Z Z [1,2,4,40,50,51] (CHr:=hBk N y (pb j) mv bs L M none) (fun o=>o=y.q.reverse.find? (onN N)) (fun o=>hBk N y (pb j) mv bs L M o) (fun o=>stRO o.isSome) (fun o=>pdRO o.isSome) ⟨Z,Z,Z,Z,Z,Z,trivial⟩ Z Z Z (fun _=>rfl) (fun _=>rfl) Z (fun o _=>by cases o<;>simp [stRO]) (fun _ _=>⟨Z,Z⟩) [1,2,4,40,50,51] hF Z Z (fun _ _=>rfl) (fun l A B hA hB=>?_) (fun o ho=>?_)
    ·refine (back1_c nb y.q (by omega) hyq l (fun o:Option Nat=>(900,[.loop ⟨l,74,[(2,.ptr 1 0 0),(3,.ptr 2 0 0),(9,.ptr 4 0 0),(38,.d (hdr N.mh N.po.length)),(39,.d (AF (N.po.length:Int))),(40,.d (AF (j:Int))),(55,.fn bw [.d (.ptr (hdr y.qh y.q.length))])],stRO o.isSome,pdRO o.isSome, #[56,57],A,B⟩])::hBk N y (pb j) mv bs L M o) [900,1,2,4,40,50,51] (HP N) none (fun _=>rfl) (fun _=>rfl) (fun _=>rfl) (fun _=>rfl) ?_).mono (fun r H' ⟨e1,e2⟩=>⟨e1,_,Z,by rw [e2,bv N y.q y.q.length (ϖ _),ωw]⟩);refine WX N y.q (fun k2 hk2=>?_) y.q.length (ϖ _);have hni:y.q[k2]<N.nd.length:=h.q y hym _ (κ hk2)
     obtain ⟨x,hx⟩:∃x,N.nd[y.q[k2]]? =some x:=⟨_,ω hni⟩
     obtain ⟨hxb,_,_⟩:=h.nn _ x hx;have hgx:N.nd.getD y.q[k2] Bc=x:=by rw [ϱ,hx];rfl
     have hon:onN N y.q[k2]=x.on:=by unfold onN;rw [hgx]
     refine Qt (lf:=900) Z Z Z Z fun F hF hr=>(Bn.code hA (AE (AB Z Z (AD (⟨Z,_,_,Z,Z,Z,Z,?_⟩)))));refine Bn.code hB ?_;refine A4 (AC (AE (goMv Z Z (J (DE Z Z) (J (CQ Z E4 Z Z Z) (J (Dn (f:=40) Z Z (hxb) Z on4 Z) (AD (KK Z (fun h61=>?_) (fun h61=>?_)))))))))
     ·refine AC (Cb [[],[0],[0,1],[0,1,2],[0,1,2,3],[],[5],[5,6],[5,6,7],[0,1,2,3,4,5,6,7,8],[0,1,2,3,4,5,6,7,8,9],[0,1,2,3,4,5,6,7,8,9,10]] mixed Z (Cr (AJ [11] [] Z Z (fun _=>AG (Aj Z Z)) (AJ [62] [] Z Z (fun _=>AG (DE Z Z)) (AJ [63] [] Z Z (fun _=>AG (CQ Z F8 Z Z Z)) (AJ [64] [] Z Z (fun _=>AG (CQ Z OC Z Z Z)) ?_))))));refine AJ [65] [40] Z Z (fun _=>AG (Dn (f:=40) Z Z (hxb) Z Aq Z)) (AJ [9] [4] Z Z (fun _=>AG (A6 Z Z Z ET Z)) (AJ [67] [] Z Z (fun _=>AG (DE Z Z)) (AJ [68] [] Z Z (fun _=>AG (CQ Z Lz Z Z Z)) (AJ [69] [40] Z Z (fun _=>AG (Cv (f:=40) Z Z (hyb) CU Z Z (by simp [D.one]) Z)) (C3 9 Z Z Z (Aa 10 Z Z (J (FV I7 Rj Z Z Z) (AD ⟨Z,?_⟩))))))));refine Aa 11 Z Z (V (Be Z Z Z Z Z Z Z JK) (AD ⟨Z,?_⟩));refine Aa 12 Z Z (V (Be Z Z Z Z Z Z Z sz4) (AD ⟨Z,?_⟩));refine C9 (A5 ?_);have ho1:onN N y.q[k2]=true:=by rw [hon];simpa using h61
      exact ⟨some .ret,_,_,[900,1,2,4,40,50,51],_,Z,Z,Z,Z,Z,Z,by rw [ho1];rfl,by rw [θ ho1];simp only [hBk,fndE,hgx];rfl⟩
     ·refine A1 ?_;have ho1:onN N y.q[k2]=false:=by rw [hon];simpa using h61
      exact ⟨none,_,_,[900,1,2,4,40,50,51],_,Z,Z,Z,Z,Z,Z,by rw [ho1];rfl,by rw [ϑ (by rw [ho1];decide)];rfl⟩
    ·rcases o with _ | i0
     ·have hpnone:Tf N y=none:=by unfold Tf;first | (rw [ϑ (by rw [hovy];decide)]) | (rw [θ hovy,←ho];rfl)
      refine AE (J (Ay Z Z (AT (j+1) (by omega)) Z) (goMv Z Z (AD ?_)));exact ⟨j+1,⟨by show j+1≤_;omega,by rw [φ hj1];intro e he;rcases υ.1 he with he | he;exact hjb e he;rw [ξ.1 he,hyk];exact hpnone⟩,by show N.po.length - (j+1)<N.po.length - j;omega,A0 hF [1,2,40,50,51] Z (Z) ⟨Z,Z,Z,Z,Z,trivial⟩⟩
     ·show Bn _ _ .ret _ _;refine A5 ?_;exact ⟨_,[40,50,51],_,A3 Z,Z,Z,by unfold DO;rw [hnn];dsimp only;rw [He hj1 hjb (by rw [hyk];unfold Tf;rw [θ hovy,←ho];rfl)];rfl,Z⟩
  ·refine BC (AC (AE (J (FV I7 Rj Z Z Z) (V (Be Z Z Z Z Z Z Z JK) (V (Be Z Z Z Z Z Z Z sz4) (AD (A5 ?_)))))));exact ⟨_,[40,50,51],_,A3 Z,Z,Z,by unfold DO;rw [hnn];dsimp only;rw [Hc (by have e:j=N.po.length:=(by have h:=h41;omega);rw [e,ωw] at hjb;exact hjb)];rfl,Z⟩
theorem SR.splitH {F:Fr} {s:AS} {ρ:Nat ->Nat ->Value} {act:Act} {w:World} (hs:SR F s ρ act w) (t g f:Nat) {M:MF} {T:TypeId} {kk m:Nat} {h:Hd} {xs:List D} {env':List (Nat×AV)} {hp1 hp':Hp} (hne:Nat.beq g f=false)
  (ht:get s.env t=some (.d (hdr h m))) (hn:m=xs.length) (hM:hfam s.hp f=some [.multi M]) (hr:BF M h T kk xs) (hE:AY g s.env=some env') (hH:AW g s.hp=some hp1) (hz:hfam hp1 g=none) (hm:BY hp1 f (B1 M h)=some hp'):
  ∃v,SR F ⟨s.n,(t,.own g 0 m)::env',(g,[.rowD T kk xs])::hp'⟩ (upd ρ g 0 v) act w:=by
 match h,ht,hr,hm with
 | some (b,cap),ht,hr,hm=>exact ⟨_,hs.splitR t g f (cap:=cap) (b:=b) hne ht hn hM hr.2 hE hH hz hm⟩
 | none,ht,hr,hm=>
  have hxs:xs=[]:=hr;subst hxs hn;have hgf:g≠f:=ψh hne;refine ⟨.slice none 0 0,?_⟩
  have hhp:hp'=hp1:=by
   have key:∀(H H':Hp),hfam H f=some [.multi M] ->BY H f M=some H' ->H'=H:=by
    intro H
    induction H with
    | nil=>intro H' h;cases h
    | cons p r ih=>
     obtain ⟨k,l⟩:=p;intro H' h1 h2;simp only [hfam] at h1;simp only [BY] at h2
     cases hk:Nat.beq k f with
     | true=>
      rw [hk] at h1 h2;injection h1 with h1
      subst h1;simp only [isM] at h2;injection h2 with h2;exact h2.symm
     | false=>
      rw [hk] at h1 h2;dsimp only at h1 h2
      cases hr:BY r f M with
      | none=>rw [hr] at h2;cases h2
      | some r'=>
       rw [hr] at h2;injection h2 with h2
       rw [←h2,ih r' h1 hr]
   obtain ⟨a1,a2⟩:=An hH
   have hM1:hfam hp1 f=some [.multi M]:=by
    have key2:∀(H H':Hp),Bu (BS g) H=some H' ->hfam H f=some [.multi M] ->hfam H' f=some [.multi M]:=by
     intro H
     induction H with
     | nil=>intro H' _ h;cases h
     | cons p r ih=>
      obtain ⟨k,l⟩:=p;intro H' h1 h2;simp only [Bu] at h1
      cases hr:Bu (BS g) r with
      | none=>rw [hr] at h1;cases h1
      | some r'=>
       rw [hr] at h1
       cases hl:DQ (BS g) l with
       | none=>rw [hl] at h1;cases h1
       | some l'=>
        rw [hl] at h1;injection h1 with h1;subst h1
        simp only [hfam] at h2⊢
        cases hk:Nat.beq k f with
        | true=>
         rw [hk] at h2;injection h2 with h2;subst h2
         simp only [DQ,Bt] at hl;injection hl with hl;rw [←hl]
        | false=>rw [hk] at h2;exact ih r' hr h2
    exact key2 _ _ hH hM
   exact key hp1 hp' hM1 hm
  rw [hhp]
  have h1:SR F ⟨s.n,(t,.d (.sl (some true) []))::s.env,s.hp⟩ ρ act w:=⟨hs.size,hs.defs,fun t' a ha=>by
   rcases KG ha with ⟨rfl,rfl⟩ | ⟨_,ha⟩
   ·have hr:=hs.env t _ ht
    generalize act.tmps.getD t undef=x at hr⊢
    cases hr with
    | d h=>cases h with
     | raw _=>exact .d (.sl 0 (fun b hb=>by cases hb;rfl) (fun _=>rfl) Z (ϖ _) (Δ _) (fun x hx=>by cases hx) (fun h=>absurd Z h) (fun b o hb=>by cases hb))
   ·exact hs.env t' a ha,hs.heap⟩
  obtain ⟨k1,k2⟩:=An hH
  have hz':∀i,hget s.hp g i=none:=fun i=>by
   cases hq:hget s.hp g i with
   | none=>rfl
   | some o=>
    obtain ⟨o2,q1,_⟩:=k2 _ _ _ hq;unfold hget at q1;rw [hz] at q1;cases q1
  have h2:=hs.set g 0 (.rowD T kk []) (.slice none 0 0) (hp':=(g,[.rowD T kk []])::hp1) hE hH (fun f' i=>by
   by_cases e:g=f'
   ·subst e;simp only [hget,hfam,χj,ψy,true_and,Km (o:= .rowD T kk []) Z,hz,Option.bind_none]
    cases i<;>simp
   ·simp only [hget,hfam,E9 e]
    rw [ϑ (fun hh=>e hh.1.symm)]) (fun t cs e=>by rw [hz'] at e;cases e) (fun b hb=>by cases hb) Z Z Z (ϖ _) (fun _ _ _=>rfl) (fun _=>⟨[],World.ownsRow_nil w 0 T kk,⟨by simp,by simp,fun i x hx=>by simp at hx⟩,by simp⟩)
  refine ⟨h2.size,h2.defs,fun t' a ha=>?_,h2.heap⟩;rcases KG ha with ⟨rfl,rfl⟩ | ⟨_,ha⟩
  ·have hr:=hs.env t _ ht
   generalize act.tmps.getD t undef=x at hr⊢
   cases hr with
   | d h=>cases h with | raw _=>exact .own O1 (ϖ _)
  ·exact h2.env t' a ha
section
variable {P:Program} {F:Fr} {Q:Exit ->AS ->Prop} {c:Code} {ops:Array Oper} {l:List Oper} {n:Nat} {env env1 env':List (Nat×AV)} {hp hp1 hp2 hp3:Hp}
theorem GU {o:Oper} (t g f:Nat) {M:MF} {T:TypeId} {kk m:Nat} {h:Hd} {xs:List D} {hp':Hp} {s2:AS} (hr:BF M h T kk xs) (hne:Nat.beq g f=false) (ht:get env t=some (.d (hdr h m))) (hn:m=xs.length) (hM:hfam hp f=some [.multi M]) (hE:AY g env=some env') (hH:AW g hp=some hp1) (hz:hfam hp1 g=none) (hm:BY hp1 f (B1 M h)=some hp')
  (h2:AI P F o ⟨n,(t,.own g 0 m)::env',(g,[.rowD T kk xs])::hp'⟩ s2 (BS g)):AI P F o ⟨n,env,hp⟩ s2 (BS g):=fun ρ act w hs=>by
 obtain ⟨v,h1⟩:=hs.splitH t g f hne ht hn hM hr hE hH hz hm;exact Zcv (fun a w' ⟨ρ',h3,h4⟩=>⟨ρ',h3,fun f i hfi=>(h4 f i hfi).trans (MK fun e=>Qf hfi e.1)⟩) (h2 _ act w h1)
end
theorem Bx.row {wb mv:Nat} {nb pb:Nat ->Nat} {N N':Net} {M:MF} (h:Bx wb mv nb pb N M) (r0:RI) {w0 w1:RowM} (e0:CR nb pb N r0=w0) (e1:CR nb pb N' r0=w1) (hR:∀r,r≠r0 ->CR nb pb N' r=CR nb pb N r) {b cap:Nat} (hb:B1 M w0.h b=none) (h0:w1.h=some (b,cap)) (hl:w1.xs.length≤cap):
  FN (BO (B1 M w0.h) b (.row w1.t w1.k cap w1.xs)) (CR nb pb N')∧∀(b':Nat) (t:TypeId) (cs:List D),M b'=some (.cells t cs) ->BO (B1 M w0.h) b (.row w1.t w1.k cap w1.xs) b'=some (.cells t cs):=by
 subst e0 e1;refine ⟨h.rs.upd r0 hR hb h0 hl,fun b' t cs hm=>keepM hb hm fun c hc=>?_⟩;have:=h.rs.blk hc;rw [hm] at this;cases this
theorem Bx.putNd {wb mv:Nat} {nb pb:Nat ->Nat} {N:Net} {M M1:MF} (h:Bx wb mv nb pb N M) {i:Nat} {x x':Nd} (hx:N.nd[i]? =some x) (hc:∀(b':Nat) (t:TypeId) (cs:List D),M b'=some (.cells t cs) ->M1 b'=some (.cells t cs)) (hr:FN M1 (CR nb pb {N with nd:=N.nd.set i x'})) (he:(∀e∈x'.ef,e.1<N.po.length)∧∀e∈x'.pl,e.1<N.po.length):
  Bx wb mv nb pb {N with nd:=N.nd.set i x'} (BO M1 (nb i) (Th x')):=by
 have hb:=h.n i x hx;have hil:=(χ.1 hx).1
 have hne:∀(b:Nat) (t:TypeId) (cs:List D),t≠184 ->M b=some (.cells t cs) ->BO M1 (nb i) (Th x') b=some (.cells t cs):=fun b t cs ht hm=>by
  rw [FP]
  ·exact hc _ _ _ hm
  ·rintro rfl;rw [hb] at hm;injection hm with hm;injection hm with hm;exact ht hm.symm
 refine ⟨fun j z hz=>?_,fun j y hy=>hne _ _ _ (by decide) (h.p j y hy),hr.cells (hc _ _ _ hb),?_,fun j k hj hk=>h.ni j k (by simpa using hj) (by simpa using hk),h.pi,fun z hz=>?_,fun y hy=>?_⟩
 ·have hz2:(N.nd.set i x')[j]? =some z:=hz
  clear hz
  have hjl:j<N.nd.length:=by have:=(χ.1 hz2).1;rw [ψf] at this;exact this
  rw [χr] at hz2
  split at hz2
  ·rename_i e;subst e
   have e2:z=x':=by first | exact (Option.some.inj hz2).symm | (rw [θ hil] at hz2;exact (Option.some.inj hz2).symm)
   rw [e2];exact EX _ _ _
  ·rename_i e
   rw [FP]
   ·exact hc _ _ _ (h.n j z hz2)
   ·intro e2;exact e (h.ni j i hjl hil e2).symm
 ·show BO M1 (nb i) (Th x') wb=some (.cells _ [hdr N.nh (N.nd.set i x').length,hdr N.mh N.po.length,_]);rw [ψf];exact hne _ _ _ (by decide) h.w
 ·rcases χf hz with hz | rfl
  ·exact h.e z hz
  ·exact he
 ·have:=h.q y hy
  simpa using this
theorem Bx.putPo {wb mv:Nat} {nb pb:Nat ->Nat} {N:Net} {M M1:MF} (h:Bx wb mv nb pb N M) {j:Nat} {y y':Po} (hy:N.po[j]? =some y) (hc:∀(b':Nat) (t:TypeId) (cs:List D),M b'=some (.cells t cs) ->M1 b'=some (.cells t cs)) (hr:FN M1 (CR nb pb {N with po:=N.po.set j y'})) (hq:∀i∈y'.q,i<N.nd.length):
  Bx wb mv nb pb {N with po:=N.po.set j y'} (BO M1 (pb j) (Tg y')):=by
 have hb:=h.p j y hy;have hjl:=(χ.1 hy).1
 have hne:∀(b:Nat) (t:TypeId) (cs:List D),t≠190 ->M b=some (.cells t cs) ->BO M1 (pb j) (Tg y') b=some (.cells t cs):=fun b t cs ht hm=>by
  rw [FP]
  ·exact hc _ _ _ hm
  ·rintro rfl;rw [hb] at hm;injection hm with hm;injection hm with hm;exact ht hm.symm
 refine ⟨fun i x hx=>hne _ _ _ (by decide) (h.n i x hx),fun i z hz=>?_,hr.cells (hc _ _ _ hb),?_,h.ni,fun i k hi hk=>h.pi i k (by simpa using hi) (by simpa using hk),fun x hx=>?_,fun z hz=>?_⟩
 ·have hz2:(N.po.set j y')[i]? =some z:=hz
  clear hz
  have hil:i<N.po.length:=by have:=(χ.1 hz2).1;rw [ψf] at this;exact this
  rw [χr] at hz2
  split at hz2
  ·rename_i e;subst e
   have e2:z=y':=by first | exact (Option.some.inj hz2).symm | (rw [θ hjl] at hz2;exact (Option.some.inj hz2).symm)
   rw [e2];exact EX _ _ _
  ·rename_i e
   rw [FP]
   ·exact hc _ _ _ (h.p i z hz2)
   ·intro e2;exact e (h.pi i j hil hjl e2).symm
 ·show BO M1 (pb j) (Tg y') wb=some (.cells _ [hdr N.nh N.nd.length,hdr N.mh (N.po.set j y').length,_]);rw [ψf];exact hne _ _ _ (by decide) h.w
 ·have:=h.e x hx
  simpa using this
 ·rcases χf hz with hz | rfl
  ·exact h.q z hz
  ·exact hq
abbrev effT:TypeId:=188
abbrev plaT:TypeId:=254
abbrev aC:TypeId:=176
abbrev Vd:TypeId:=186
def FM (x:Nd) (b cap:Nat) (e:Nat×Int):Nd:={x with eh:=some (b,cap),ef:=x.ef++ [e]}
def Hs (x:Nd) (b cap:Nat) (e:Nat×Nat):Nd:={x with ph:=some (b,cap),pl:=x.pl++ [e]}
def KF (y:Po) (b cap:Nat) (i:Nat):Po:={y with qh:=some (b,cap),q:=y.q++ [i]}
theorem Bx.addE {wb mv:Nat} {nb pb:Nat ->Nat} {N:Net} {M:MF} (h:Bx wb mv nb pb N M) {i:Nat} {x:Nd} (hx:N.nd[i]? =some x) (e:Nat×Int) (he:e.1<N.po.length) {b cap:Nat} (hb:B1 M x.eh b=none) (hl:((x.ef++ [e]).map (cG pb)).length≤cap):
  Bx wb mv nb pb {N with nd:=N.nd.set i (FM x b cap e)} (BO (BO (B1 M x.eh) b (.row effT 2 cap ((x.ef++ [e]).map (cG pb)))) (nb i) (Th (FM x b cap e))):=by
 have hil:=(χ.1 hx).1
 obtain ⟨h1,h2⟩:=h.row (N':={N with nd:=N.nd.set i (FM x b cap e)}) (.e i) (w0:=⟨x.eh,effT,2,x.ef.map (cG pb)⟩) (w1:=⟨some (b,cap),effT,2,(x.ef++ [e]).map (cG pb)⟩)
  (by show (⟨(N.nd.getD i Bc).eh,_,_,(N.nd.getD i Bc).ef.map _⟩:RowM)=_;rw [F7 hx])
  (by show (⟨((N.nd.set i (FM x b cap e)).getD i Bc).eh,_,_,((N.nd.set i (FM x b cap e)).getD i Bc).ef.map _⟩:RowM)=_;rw [dD hil,θ rfl];rfl)
  (fun r hr=>by
   cases r with
   | q j=>rfl
   | m=>rfl
   | n=>show (⟨_,_,_,(List.range (N.nd.set i (FM x b cap e)).length).map _⟩:RowM)=_;rw [ψf];rfl
   | e k=>
    show (⟨((N.nd.set i (FM x b cap e)).getD k Bc).eh,_,_,((N.nd.set i (FM x b cap e)).getD k Bc).ef.map _⟩:RowM)=⟨(N.nd.getD k Bc).eh,_,_,(N.nd.getD k Bc).ef.map _⟩
    rw [dD hil,ϑ (fun e=>hr (by rw [e]))]
   | p k=>
    show (⟨((N.nd.set i (FM x b cap e)).getD k Bc).ph,_,_,((N.nd.set i (FM x b cap e)).getD k Bc).pl.map _⟩:RowM)=⟨(N.nd.getD k Bc).ph,_,_,(N.nd.getD k Bc).pl.map _⟩
    rw [dD hil,GD hx k Bc]
    split<;>rfl) hb Z hl
 refine h.putNd hx h2 h1 ⟨fun z hz=>?_,(h.e x (ζ hx)).2⟩;rcases υ.1 hz with hz | hz
 ·exact (h.e x (ζ hx)).1 z hz
 ·rw [ξ.1 hz];exact he
theorem Bx.addP {wb mv:Nat} {nb pb:Nat ->Nat} {N:Net} {M:MF} (h:Bx wb mv nb pb N M) {i:Nat} {x:Nd} (hx:N.nd[i]? =some x) (e:Nat×Nat) (he:e.1<N.po.length) {b cap:Nat} (hb:B1 M x.ph b=none) (hl:((x.pl++ [e]).map (plD pb)).length≤cap):
  Bx wb mv nb pb {N with nd:=N.nd.set i (Hs x b cap e)} (BO (BO (B1 M x.ph) b (.row plaT 2 cap ((x.pl++ [e]).map (plD pb)))) (nb i) (Th (Hs x b cap e))):=by
 have hil:=(χ.1 hx).1
 obtain ⟨h1,h2⟩:=h.row (N':={N with nd:=N.nd.set i (Hs x b cap e)}) (.p i) (w0:=⟨x.ph,plaT,2,x.pl.map (plD pb)⟩) (w1:=⟨some (b,cap),plaT,2,(x.pl++ [e]).map (plD pb)⟩)
  (by show (⟨(N.nd.getD i Bc).ph,_,_,(N.nd.getD i Bc).pl.map _⟩:RowM)=_;rw [F7 hx])
  (by show (⟨((N.nd.set i (Hs x b cap e)).getD i Bc).ph,_,_,((N.nd.set i (Hs x b cap e)).getD i Bc).pl.map _⟩:RowM)=_;rw [dD hil,θ rfl];rfl)
  (fun r hr=>by
   cases r with
   | q j=>rfl
   | m=>rfl
   | n=>show (⟨_,_,_,(List.range (N.nd.set i (Hs x b cap e)).length).map _⟩:RowM)=_;rw [ψf];rfl
   | p k=>
    show (⟨((N.nd.set i (Hs x b cap e)).getD k Bc).ph,_,_,((N.nd.set i (Hs x b cap e)).getD k Bc).pl.map _⟩:RowM)=⟨(N.nd.getD k Bc).ph,_,_,(N.nd.getD k Bc).pl.map _⟩
    rw [dD hil,ϑ (fun e=>hr (by rw [e]))]
   | e k=>
    show (⟨((N.nd.set i (Hs x b cap e)).getD k Bc).eh,_,_,((N.nd.set i (Hs x b cap e)).getD k Bc).ef.map _⟩:RowM)=⟨(N.nd.getD k Bc).eh,_,_,(N.nd.getD k Bc).ef.map _⟩
    rw [dD hil,GD hx k Bc]
    split<;>rfl) hb Z hl
 refine h.putNd hx h2 h1 ⟨(h.e x (ζ hx)).1,fun z hz=>?_⟩;rcases υ.1 hz with hz | hz
 ·exact (h.e x (ζ hx)).2 z hz
 ·rw [ξ.1 hz];exact he
theorem Bx.addQ {wb mv:Nat} {nb pb:Nat ->Nat} {N:Net} {M:MF} (h:Bx wb mv nb pb N M) {j:Nat} {y:Po} (hy:N.po[j]? =some y) {i:Nat} (hi:i<N.nd.length) {b cap:Nat} (hb:B1 M y.qh b=none) (hl:((y.q++ [i]).map fun i=>BG (nb i)).length≤cap):
  Bx wb mv nb pb {N with po:=N.po.set j (KF y b cap i)} (BO (BO (B1 M y.qh) b (.row aC 1 cap ((y.q++ [i]).map fun i=>BG (nb i)))) (pb j) (Tg (KF y b cap i))):=by
 have hjl:=(χ.1 hy).1
 obtain ⟨h1,h2⟩:=h.row (N':={N with po:=N.po.set j (KF y b cap i)}) (.q j) (w0:=⟨y.qh,aC,1,y.q.map fun i=>BG (nb i)⟩) (w1:=⟨some (b,cap),aC,1,(y.q++ [i]).map fun i=>BG (nb i)⟩)
  (by show (⟨(N.po.getD j Bz).qh,_,_,(N.po.getD j Bz).q.map _⟩:RowM)=_;rw [F7 hy])
  (by show (⟨((N.po.set j (KF y b cap i)).getD j Bz).qh,_,_,((N.po.set j (KF y b cap i)).getD j Bz).q.map _⟩:RowM)=_;rw [dD hjl,θ rfl];rfl)
  (fun r hr=>by
   cases r with
   | e k=>rfl
   | p k=>rfl
   | n=>rfl
   | m=>show (⟨_,_,_,(List.range (N.po.set j (KF y b cap i)).length).map _⟩:RowM)=_;rw [ψf];rfl
   | q k=>
    show (⟨((N.po.set j (KF y b cap i)).getD k Bz).qh,_,_,((N.po.set j (KF y b cap i)).getD k Bz).q.map _⟩:RowM)=⟨(N.po.getD k Bz).qh,_,_,(N.po.getD k Bz).q.map _⟩
    rw [dD hjl,ϑ (fun e=>hr (by rw [e]))]) hb Z hl
 refine h.putPo hy h2 h1 fun z hz=>?_;rcases υ.1 hz with hz | hz
 ·exact h.q y (ζ hy) z hz
 ·rw [ξ.1 hz];exact hi
def Du (x:Nd):Nd:={x with eh:=none,ph:=none}
def CP (y:Po):Po:={y with qh:=none}
def Ap (N:Net):Net:=⟨N.nd.map Du,N.po.map CP,none,none⟩
def jnX (x:Nd) (j:Nat) (n:Nat) (a:Int):Nd:={x with ef:=x.ef++ [(j,a)],pl:=if a<0 then x.pl++ [(j,n)] else x.pl}
def jnY (y:Po) (i:Nat) (a:Int):Po:={y with sum:=y.sum+a,q:=if a<0 then y.q++ [i] else y.q}
theorem Bx.keepE {wb mv:Nat} {nb pb:Nat ->Nat} {N:Net} {M:MF} (h:Bx wb mv nb pb N M) {i:Nat} {x:Nd} (hx:N.nd[i]? =some x) {b:Nat} (hb:B1 M x.eh b=none) {v:Ab} {b':Nat} {t:TypeId} {cs:List D} (hm:M b'=some (.cells t cs)):BO (B1 M x.eh) b v b'=some (.cells t cs):=
 keepM hb hm fun c hc=>by have:=Qm (h.nn i x hx).2.1 hc;rw [hm] at this;cases this
theorem Bx.keepP {wb mv:Nat} {nb pb:Nat ->Nat} {N:Net} {M:MF} (h:Bx wb mv nb pb N M) {i:Nat} {x:Nd} (hx:N.nd[i]? =some x) {b:Nat} (hb:B1 M x.ph b=none) {v:Ab} {b':Nat} {t:TypeId} {cs:List D} (hm:M b'=some (.cells t cs)):BO (B1 M x.ph) b v b'=some (.cells t cs):=
 keepM hb hm fun c hc=>by have:=Qm (h.nn i x hx).2.2 hc;rw [hm] at this;cases this
theorem Bx.keepQ {wb mv:Nat} {nb pb:Nat ->Nat} {N:Net} {M:MF} (h:Bx wb mv nb pb N M) {j:Nat} {y:Po} (hy:N.po[j]? =some y) {b:Nat} (hb:B1 M y.qh b=none) {v:Ab} {b':Nat} {t:TypeId} {cs:List D} (hm:M b'=some (.cells t cs)):BO (B1 M y.qh) b v b'=some (.cells t cs):=
 keepM hb hm fun c hc=>by have:=Qm (h.pp j y hy).2 hc;rw [hm] at this;cases this
set_option maxHeartbeats 1000000 in
theorem join_c {wb mv:Nat} {nb pb:Nat ->Nat} {N:Net} {M:MF} (h:Bx wb mv nb pb N M) {i j:Nat} {x:Nd} {y:Po} (hx:N.nd[i]? =some x) (hy:N.po[j]? =some y) (a:Int) (ha: -100000000000000000≤a∧a≤100000000000000000) (hs: -1000000000000000000≤y.sum∧y.sum≤1000000000000000000) (he:x.ef.length≤100000) (hp:x.pl.length≤100000) (hq:y.q.length≤100000):
  AM Tryz.prog 144 [.d (pD (nb i) 0),.d (pD (pb j) 0),.d (AF a)] (HN M) fun r H'=>r= .tup []∧∃N' M',H'=HN M'∧Bx wb mv nb pb N' M'∧N'.nh=N.nh∧N'.mh=N.mh∧(∃x',N'.nd=N.nd.set i x'∧Du x'=Du (jnX x j y.q.length a))∧∃y',N'.po=N.po.set j y'∧CP y'=CP (jnY y i a):=by
 have hxb:=h.n i x hx;have hre:=(h.nn i x hx).2.1;have hrp:=(h.nn i x hx).2.2;have hil:=(χ.1 hx).1;have hjl:=(χ.1 hy).1;have hqz:=Ta (h.pp j y hy).2;refine Az Tryz.func144 Z Z Tryz.ntmps144 Z Z Z fun F hF=>?_;refine AC (AE (goMv Z Z (goMv Z Z (J (DE Z Z) (J (CQ Z Jm Z Z Z) (J (Dn (f:=40) Z Z (hxb) Z Vn Z) (goMv Z Z (goMv Z Z ?_))))))));refine J (FV Yi pl188 Z Z Z) (V (D1 1 sl181 Z Z Z Z Z Z Z Z) (V (GU 10 60 40 hre Z Z (by simp) Z Z Z Z Z (I0 (emb:=cG pb) x.ef [(j,a)] Z Z Z Z Z Z Z Z sl181 (by simp only [Ψ];omega) Z Z Z Z)) (Eg 15 60 40 hF Z Z Z (by simp) (by simp) Z Z Z Z Z Z Z (fun _ _=>rfl) fun b1 c1 hb1 hc1=>(J (DE Z Z) (J (CQ Z Jm Z Z Z) (V (O2 (f:=40) Z Z Z Z (h.keepE hx hb1 hxb) ((by show _<9;omega)) Z sz181) (AD (AC ?_))))))));have hR1:=h.addE hx (j,a) hjl hb1 hc1;have hyb:=hR1.p j y hy;refine AE (goMv Z Z (J (DE Z Z) ?_));refine J (CQ Z Jk Z Z Z) (J (Dn (f:=40) Z Z (hyb) Z JG Z) (goMv Z Z (J (Ay Z Z (ωa _ (by omega)) Z) (J (DE Z Z) (J (CQ Z Jk Z Z Z) (V (O2 (f:=40) Z Z Z Z (hyb) ((by show _<10;omega)) Z sz2) (AD (AC ?_))))))));have hR2:=hR1.setPo (y':={y with sum:=y.sum+a}) hy Z Z;have hx2:(N.nd.set i (FM x b1 c1 (j,a)))[i]? =some (FM x b1 c1 (j,a)):=List.getElem?_set_self hil;have hy2:(N.po.set j {y with sum:=y.sum+a})[j]? =some {y with sum:=y.sum+a}:=List.getElem?_set_self hjl;have hx2b:=hR2.n i _ hx2;have hy2b:=hR2.p j _ hy2;have hrp2:=(hR2.nn i _ hx2).2.2;refine AE (goMv Z Z (J (BV Z Z Z) (AD (Ae Z (fun h27=>?_) (fun h27=>?_)))))
 ·refine AC (Cb [[],[],[1],[1,2],[1,2,3],[],[],[6],[6,7],[6,7,8],[6,7,8,9],[5,6,7,8,9,10],[5,6,7,8,9,10,11],[1,2,3,4,5,6,7,8,9,10,11,12],[0,1,2,3,4,5,6,7,8,9,10,11,12,13],[0,1,2,3,4,5,6,7,8,9,10,11,12,13,14],[0,1,2,3,4,5,6,7,8,9,10,11,12,13,14,15]] mixed Z (Cr (AJ [0] [] Z Z (fun _=>AG (Aj Z Z)) ?_)));refine AJ [0] [] Z Z (fun _=>AG (Aj Z Z)) (AJ [29] [] Z Z (fun _=>AG (DE Z Z)) (AJ [30] [] Z Z (fun _=>AG (CQ Z Jl Z Z Z)) (AJ [31] [40] Z Z (fun _=>AG (Dn (f:=40) Z Z (hx2b) Z Vm Z)) (AJ [1] [] Z Z (fun _=>AG (Aj Z Z)) (AJ [1] [] Z Z (fun _=>AG (Aj Z Z)) (AJ [34] [] Z Z (fun _=>AG (DE Z Z)) (AJ [35] [] Z Z (fun _=>AG (CQ Z Gg Z Z Z)) (AJ [36] [40] Z Z (fun _=>AG (Dn (f:=40) Z Z (hy2b) Z Fz Z)) ?_))))))));refine AJ [37] [] Z Z (fun _=>AG (VF hqz Z Tryz.underlying175 Z)) (AJ [33,38] [] Z Z (fun _=>AG (FV VI pl254 Z Z Z)) (Gn [39] [2] [(40,_)] Z Z (fun _=>Gp (D1 2 sl182 Z Z Z Z Z Z Z Z)) (.inr ⟨40,_,Z,Z,Z,Z,Z⟩) Z Z Z Z Z (Gn [32,40] [61,40,2] [(41,_)] Z Z (fun _=>Gp (GU 32 61 40 hrp2 Z Z (by simp [FM]) Z Z Z Z Z (I0 (emb:=plD pb) x.pl [(j,y.q.length)] Z Z Z Z Z Z Z Z sl182 (by simp only [Ψ];omega) Z Z Z Z))) (.inr ⟨41,_,Z,Z,Z,Z,Z⟩) Z Z Z Z Z (C3 14 Z Z Z (Aa 15 Z Z (Eg 41 61 40 hF Z Z Z (by simp) (by simp) Z Z Z Z Z Z Z (fun _ _=>rfl) fun b2 c2 hb2 hc2=>(J (DE Z Z) (AD ⟨Z,?_⟩))))))));refine Aa 16 Z Z (J (CQ Z Jl Z Z Z) (AD ⟨Z,?_⟩));refine Aa 17 Z Z (V (O2 (f:=40) Z Z Z Z (hR2.keepP hx2 hb2 hx2b) ((by show _<9;omega)) Z sz182) (AD ⟨Z,?_⟩));refine C9 ?_;have hR3:=hR2.addP hx2 (j,y.q.length) (by show j<(N.po.set j _).length;rw [ψf];exact hjl) hb2 hc2;have hy3b:=hR3.p j _ hy2;have hrq3:=(hR3.pp j _ hy2).2;refine AE (goMv Z Z (goMv Z Z (J (DE Z Z) (J (CQ Z Gg Z Z Z) ?_))));refine J (Dn (f:=40) Z Z (hy3b) Z Fz Z) (goMv Z Z (V (D1 3 V7 Z Z Z Z Z Z Z Z) (V (GU 48 62 40 hrq3 Z Z (by simp) Z Z Z Z Z (I0 (emb:=fun i=>BG (nb i)) y.q [i] Z Z Z Z Z Z Z Z V7 (by simp only [Ψ];omega) Z Z Z Z)) (Eg 51 62 40 hF Z Z Z (by simp) (by simp) Z Z Z Z Z Z Z (fun _ _=>rfl) fun b3 c3 hb3 hc3=>(J (DE Z Z) (J (CQ Z Gg Z Z Z) (V (O2 (f:=40) Z Z Z Z (hR3.keepQ hy2 hb3 hy3b) ((by show _<10;omega)) Z sz175) (AD ?_))))))));have hR4:=hR3.addQ hy2 (i:=i) (by show i<((N.nd.set i _).set i _).length;rw [ψf,ψf];exact hil) hb3 hc3;exact ⟨_,[40],_,A3 Z,Z,Z,Z,_,_,Z,hR4,Z,Z,⟨_,List.set_set _,by unfold Du Hs FM jnX;simp [h27]⟩,⟨_,List.set_set _,by unfold CP KF jnY;simp [h27]⟩⟩
 ·refine A1 ?_;exact ⟨_,[40],_,A3 Z,Z,Z,Z,_,_,Z,hR2,Z,Z,⟨_,Z,by unfold Du FM jnX;simp [h27]⟩,⟨_,Z,by unfold CP jnY;simp [h27]⟩⟩
end Go.Proofs.YteifpcnphnhaoaaGreat
