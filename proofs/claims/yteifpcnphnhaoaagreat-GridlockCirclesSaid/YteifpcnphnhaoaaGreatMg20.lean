import Derived.Test.YteifpcnphnhaoaaGreatMg19
namespace Go.Proofs.YteifpcnphnhaoaaGreat
open Go.RowKit
set_option maxRecDepth 100000
abbrev Hd:=Option (Nat×Nat)
def hdrV:Hd ->Nat ->Value
 | none,_=> .slice none 0 0
 | some (b,c),n=>sV b n c
abbrev hdr (h:Hd) (n:Nat):D:= .raw (hdrV h n)
structure Nd where
 it:AK
 eh:Hd
 ef:List (Nat×Int)
 ph:Hd
 pl:List (Nat×Nat)
 on:Bool
structure Po where
 r:AP
 room:Int
 sum:Int
 qh:Hd
 q:List Nat
 mi:Nat
structure Net where
 nd:List Nd
 po:List Po
 nh:Hd
 mh:Hd
abbrev ndC (x:Nd):List D:=[AF x.it.id,AF x.it.pr,AF x.it.sq,.sl none (x.it.po.map CG),.sl none (x.it.pa.map Fm),.sl none (x.it.af.map AF),hdr x.eh x.ef.length,hdr x.ph x.pl.length,Ai x.on]
abbrev poC (y:Po):List D:=[AF y.r.k,Ao y.r.acc.o,AF y.r.acc.k,Ao y.r.acc.a,Ao y.r.f,Ao y.r.t,AF y.room,AF y.sum,hdr y.qh y.q.length,AF (y.mi:Int)]
abbrev bh (pb:Nat ->Nat) (e:Nat×Int):D:= .agg [pD (pb e.1) 0,AF e.2]
abbrev plD (pb:Nat ->Nat) (e:Nat×Nat):D:= .agg [pD (pb e.1) 0,AF (e.2:Int)]
abbrev BK (b:Nat):D:=pD b 0
def BJ (M:MF) (h:Hd) (t:TypeId) (k:Nat) (xs:List D):Prop:=match h with
 | none=>xs=[]
 | some (b,c)=>xs.length≤c∧M b=some (.row t k c xs)
abbrev Tg (x:Nd):Ad:= .cells 184 (ndC x)
abbrev Te (y:Po):Ad:= .cells 190 (poC y)
theorem UE {M:MF} {b:Nat} {t':TypeId} {cs:List D} {m':Ad} (hb:M b=some (.cells t' cs)) {h:Hd} {t:TypeId} {k:Nat} {xs:List D} (hr:BJ M h t k xs):BJ (BQ M b m') h t k xs:=by
 match h,hr with
 | none,hr=>exact hr
 | some (b',c),hr=>
  refine ⟨hr.1,?_⟩;rw [FR]
  ·exact hr.2
  ·rintro rfl;have h2:=hr.2;rw [hb] at h2;cases h2
abbrev K8 (v:Value):D:= .raw v
def CV:Po:=⟨⟨0,TZ,[],[]⟩,0,0,none,[],0⟩
def Bl:Nd:=⟨A0,none,[],none,[],false⟩
structure RowM where
 h:Hd
 t:TypeId
 k:Nat
 xs:List D
inductive RI where
 | e (i:Nat)
 | p (i:Nat)
 | q (j:Nat)
 | n
 | m
def CT (nb pb:Nat ->Nat) (N:Net):RI ->RowM
 | .e i=>⟨(N.nd.getD i Bl).eh,188,2,(N.nd.getD i Bl).ef.map (bh pb)⟩
 | .p i=>⟨(N.nd.getD i Bl).ph,254,2,(N.nd.getD i Bl).pl.map (plD pb)⟩
 | .q j=>⟨(N.po.getD j CV).qh,176,1,(N.po.getD j CV).q.map fun i=>BK (nb i)⟩
 | .n=>⟨N.nh,176,1,(List.range N.nd.length).map fun i=>BK (nb i)⟩
 | .m=>⟨N.mh,186,1,(List.range N.po.length).map fun j=>BK (pb j)⟩
def FP (M:MF) (R:RI ->RowM):Prop:=(∀r,BJ M (R r).h (R r).t (R r).k (R r).xs)∧∀r r' b c c',(R r).h=some (b,c) ->(R r').h=some (b,c') ->r=r'
def B6 (M:MF):Hd ->MF
 | none=>M
 | some (b,_)=>EZ M b
theorem FP.blk {M:MF} {R:RI ->RowM} (h:FP M R) {r:RI} {b c:Nat} (hb:(R r).h=some (b,c)):M b=some (.row (R r).t (R r).k c (R r).xs):=by
 have:=h.1 r;rw [hb] at this;exact this.2
theorem It {M:MF} {h:Hd} {b:Nat} {m:Ad} (hm:M b=some m) (hne:∀c,h≠some (b,c)):B6 M h b=some m:=by
 match h,hne with
 | none,_=>exact hm
 | some (b',c),hne=>
  show EZ M b' b=_;rw [Ga (fun e=>hne c (by rw [e]))];exact hm
theorem keepM {M:MF} {h:Hd} {b b':Nat} {m v:Ad} (hb:B6 M h b=none) (hm:M b'=some m) (hne:∀c,h≠some (b',c)):BQ (B6 M h) b v b'=some m:=by
 have h1:=It hm hne;rw [FR]
 ·exact h1
 ·rintro rfl;rw [hb] at h1;cases h1
theorem FP.upd {M:MF} {R R':RI ->RowM} (h:FP M R) (r0:RI) (hR:∀r,r≠r0 ->R' r=R r) {b cap:Nat} (hb:B6 M (R r0).h b=none) (h0:(R' r0).h=some (b,cap)) (hl:(R' r0).xs.length≤cap):FP (BQ (B6 M (R r0).h) b (.row (R' r0).t (R' r0).k cap (R' r0).xs)) R':=by
 have hother:∀r,r≠r0 ->∀b' c,(R r).h=some (b',c) ->b'≠b:=fun r hr b' c hrb e=>by
  have h1:=h.blk hrb;have h2:=It (h:=(R r0).h) h1 fun c' hc'=>hr (h.2 r r0 b' c c' hrb hc');rw [e,hb] at h2;cases h2
 refine ⟨fun r=>?_,fun r r' b1 c c' h1 h2=>?_⟩
 ·by_cases e:r=r0
  ·subst e;rw [h0];exact ⟨hl,E2 _ _ _⟩
  ·rw [hR r e];have h1:=h.1 r
   cases hh:(R r).h with
   | none=>rw [hh] at h1;exact h1
   | some p=>
    obtain ⟨b',c⟩:=p;rw [hh] at h1;exact ⟨h1.1,keepM hb h1.2 fun c' hc'=>e (h.2 r r0 b' c c' hh hc')⟩
 ·by_cases e:r=r0<;>by_cases e':r'=r0
  ·rw [e,e']
  ·exfalso
   subst e;rw [h0] at h1;injection h1 with h1;injection h1 with h1 _
   rw [hR r' e'] at h2;exact hother r' e' b1 c' h2 h1.symm
  ·exfalso
   subst e';rw [h0] at h2;injection h2 with h2;injection h2 with h2 _
   rw [hR r e] at h1;exact hother r e b1 c h1 h2.symm
  ·rw [hR r e] at h1;rw [hR r' e'] at h2;exact h.2 r r' b1 c c' h1 h2
theorem FP.cells {M:MF} {R:RI ->RowM} (h:FP M R) {b:Nat} {t t':TypeId} {cs cs':List D} (_hb:M b=some (.cells t cs)):FP (BQ M b (.cells t' cs')) R:=
 ⟨fun r=>UE _hb (h.1 r),h.2⟩
structure CB (wb mv:Nat) (nb pb:Nat ->Nat) (N:Net) (M:MF):Prop where
 n:∀(i:Nat) x,N.nd[i]? =some x ->M (nb i)=some (Tg x)
 p:∀(j:Nat) y,N.po[j]? =some y ->M (pb j)=some (Te y)
 rs:FP M (CT nb pb N)
 w:M wb=some (.cells 180 [hdr N.nh N.nd.length,hdr N.mh N.po.length,K8 (.map (some mv))])
 ni:∀i j:Nat,i<N.nd.length ->j<N.nd.length ->nb i=nb j ->i=j
 pi:∀i j:Nat,i<N.po.length ->j<N.po.length ->pb i=pb j ->i=j
 e:∀x∈N.nd,(∀e∈x.ef,e.1<N.po.length)∧∀e∈x.pl,e.1<N.po.length
 q:∀y∈N.po,∀i∈y.q,i<N.nd.length
theorem Fd {α:Type} {l:List α} {i:Nat} {x d:α} (h:l[i]? =some x):l.getD i d=x:=by rw [ϖ,h];rfl
theorem CB.nn {wb mv:Nat} {nb pb:Nat ->Nat} {N:Net} {M:MF} (h:CB wb mv nb pb N M) (i:Nat) (x:Nd) (hx:N.nd[i]? =some x):M (nb i)=some (Tg x)∧BJ M x.eh 188 2 (x.ef.map (bh pb))∧BJ M x.ph 254 2 (x.pl.map (plD pb)):=by
 have h1:BJ M (N.nd.getD i Bl).eh 188 2 ((N.nd.getD i Bl).ef.map (bh pb)):=h.rs.1 (.e i);have h2:BJ M (N.nd.getD i Bl).ph 254 2 ((N.nd.getD i Bl).pl.map (plD pb)):=h.rs.1 (.p i);rw [Fd hx] at h1 h2;exact ⟨h.n i x hx,h1,h2⟩
theorem CB.pp {wb mv:Nat} {nb pb:Nat ->Nat} {N:Net} {M:MF} (h:CB wb mv nb pb N M) (j:Nat) (y:Po) (hy:N.po[j]? =some y):M (pb j)=some (Te y)∧BJ M y.qh 176 1 (y.q.map fun i=>BK (nb i)):=by
 have h1:BJ M (N.po.getD j CV).qh 176 1 ((N.po.getD j CV).q.map fun i=>BK (nb i)):=h.rs.1 (.q j);rw [Fd hy] at h1;exact ⟨h.p j y hy,h1⟩
theorem ca {α:Type} {l:List α} {i:Nat} {x:α} (hi:i<l.length) (k:Nat) (d:α):(l.set i x).getD k d=if k=i then x else l.getD k d:=by
 rw [ϖ,χo,ϖ]
 by_cases e:k=i
 ·subst e;simp [hi]
 ·rw [ϑ (fun h=>e h.symm),ϑ e]
theorem GL {α:Type} {l:List α} {i:Nat} {x:α} (hx:l[i]? =some x) (k:Nat) (d:α):l.getD k d=if k=i then x else l.getD k d:=by
 by_cases e:k=i
 ·subst e;rw [θ Z,Fd hx]
 ·rw [ϑ e]
theorem CB.setPo {wb mv:Nat} {nb pb:Nat ->Nat} {N:Net} {M:MF} (h:CB wb mv nb pb N M) {j:Nat} {y y':Po} (hy:N.po[j]? =some y) (hq:y'.q=y.q) (hqh:y'.qh=y.qh):CB wb mv nb pb {N with po:=N.po.set j y'} (BQ M (pb j) (Te y')):=by
 have hb:=h.p j y hy;have hjl:=(χ.1 hy).1
 have hR:CT nb pb {N with po:=N.po.set j y'}=CT nb pb N:=funext fun r=>by
  cases r with
  | e i=>rfl
  | p i=>rfl
  | n=>rfl
  | m=>show (⟨_,_,_,(List.range (N.po.set j y').length).map _⟩:RowM)=_;rw [ψd];rfl
  | q k=>
   show (⟨((N.po.set j y').getD k CV).qh,_,_,((N.po.set j y').getD k CV).q.map _⟩:RowM)=⟨(N.po.getD k CV).qh,_,_,(N.po.getD k CV).q.map _⟩
   rw [ca hjl,GL hy k CV]
   split
   ·rw [hq,hqh]
   ·rfl
 have hne:∀(b:Nat) (t:TypeId) (cs:List D),t≠190 ->M b=some (.cells t cs) ->BQ M (pb j) (Te y') b=some (.cells t cs):=fun b t cs ht hm=>by
  rw [FR]
  ·exact hm
  ·rintro rfl;rw [hb] at hm;injection hm with hm;injection hm with hm;exact ht hm.symm
 refine ⟨fun i x hx=>hne _ _ _ (by decide) (h.n i x hx),fun i z hz=>?_,by rw [hR];exact h.rs.cells hb,?_,h.ni,fun i k hi hk=>h.pi i k (by simpa using hi) (by simpa using hk),fun x hx=>?_,fun z hz=>?_⟩
 ·have hil:i<N.po.length:=by have:=(χ.1 hz).1;rw [ψd] at this;exact this
  have hz2:(N.po.set j y')[i]? =some z:=hz
  clear hz
  rw [χo] at hz2
  split at hz2
  ·rename_i e;subst e
   have e2:z=y':=(Option.some.inj hz2).symm;rw [e2];exact E2 _ _ _
  ·rename_i e
   rw [FR]
   ·exact h.p i z hz2
   ·intro e2;exact e (h.pi i j hil hjl e2).symm
 ·show BQ M (pb j) (Te y') wb=some (.cells _ [hdr N.nh N.nd.length,hdr N.mh (N.po.set j y').length,_]);rw [ψd];exact hne _ _ _ (by decide) h.w
 ·have:=h.e x hx
  simpa using this
 ·rcases χe hz with hz | rfl
  ·exact h.q z hz
  ·rw [hq];exact h.q y (ζ hy)
theorem CB.setNd {wb mv:Nat} {nb pb:Nat ->Nat} {N:Net} {M:MF} (h:CB wb mv nb pb N M) {i:Nat} {x x':Nd} (hx:N.nd[i]? =some x) (h1:x'.ef=x.ef) (h2:x'.eh=x.eh) (h3:x'.pl=x.pl) (h4:x'.ph=x.ph):CB wb mv nb pb {N with nd:=N.nd.set i x'} (BQ M (nb i) (Tg x')):=by
 have hb:=h.n i x hx;have hil:=(χ.1 hx).1
 have hR:CT nb pb {N with nd:=N.nd.set i x'}=CT nb pb N:=funext fun r=>by
  cases r with
  | q j=>rfl
  | m=>rfl
  | n=>show (⟨_,_,_,(List.range (N.nd.set i x').length).map _⟩:RowM)=_;rw [ψd];rfl
  | e k=>
   show (⟨((N.nd.set i x').getD k Bl).eh,_,_,((N.nd.set i x').getD k Bl).ef.map _⟩:RowM)=⟨(N.nd.getD k Bl).eh,_,_,(N.nd.getD k Bl).ef.map _⟩
   rw [ca hil,GL hx k Bl]
   split
   ·rw [h1,h2]
   ·rfl
  | p k=>
   show (⟨((N.nd.set i x').getD k Bl).ph,_,_,((N.nd.set i x').getD k Bl).pl.map _⟩:RowM)=⟨(N.nd.getD k Bl).ph,_,_,(N.nd.getD k Bl).pl.map _⟩
   rw [ca hil,GL hx k Bl]
   split
   ·rw [h3,h4]
   ·rfl
 have hne:∀(b:Nat) (t:TypeId) (cs:List D),t≠184 ->M b=some (.cells t cs) ->BQ M (nb i) (Tg x') b=some (.cells t cs):=fun b t cs ht hm=>by
  rw [FR]
  ·exact hm
  ·rintro rfl;rw [hb] at hm;injection hm with hm;injection hm with hm;exact ht hm.symm
 refine ⟨fun j z hz=>?_,fun j y hy=>hne _ _ _ (by decide) (h.p j y hy),by rw [hR];exact h.rs.cells hb,?_,fun j k hj hk=>h.ni j k (by simpa using hj) (by simpa using hk),h.pi,fun z hz=>?_,fun y hy=>?_⟩
 ·have hjl:j<N.nd.length:=by have:=(χ.1 hz).1;rw [ψd] at this;exact this
  have hz2:(N.nd.set i x')[j]? =some z:=hz
  clear hz
  rw [χo] at hz2
  split at hz2
  ·rename_i e;subst e
   have e2:z=x':=(Option.some.inj hz2).symm;rw [e2];exact E2 _ _ _
  ·rename_i e
   rw [FR]
   ·exact h.n j z hz2
   ·intro e2;exact e (h.ni j i hjl hil e2).symm
 ·show BQ M (nb i) (Tg x') wb=some (.cells _ [hdr N.nh (N.nd.set i x').length,hdr N.mh N.po.length,_]);rw [ψd];exact hne _ _ _ (by decide) h.w
 ·rcases χe hz with hz | rfl
  ·exact h.e z hz
  ·rw [h1,h3];exact h.e x (ζ hx)
 ·have:=h.q y hy
  simpa using this
abbrev HN (M:MF):Hp:=[(40,[.multi M])]
def aftP (y:Po) (c:Int):Int:=max y.room 0+c
def Py (y:Po) (c:Int):Bool:=decide (c<0∧aftP y c<0)
theorem after_c {wb mv:Nat} {nb pb:Nat ->Nat} {N:Net} {M:MF} (h:CB wb mv nb pb N M) {j:Nat} {y:Po} (hy:N.po[j]? =some y) (c:Int) (hr: -1000000000000000000≤y.room∧y.room≤1000000000000000000) (hc: -2000000000000000000≤c∧c≤2000000000000000000):
  AM Tryz.prog 198 [.d (pD (pb j) 0),.d (AF c)] (HN M) fun r H'=>r= .d (AF (aftP y c))∧H'=HN M:=by
 have hp:=h.p j y hy;have hm:(if 0>y.room then 0 else y.room)=max y.room 0:=by rw [Int.max_def];split<;>split<;>omega
 refine BB Tryz.func198 Z Z Tryz.ntmps198 Z Z Z fun F hF=>(AC (AE (AB Z Z (AD (AC (AE (goMv Z Z ?_)))))));refine J (DO Z Z) (J (CS Z QS Z Z Z) (J (Dv (f:=40) Z Z (hp) Z Ke Z) (J (Pi Z Z (hm) Z) (goMv Z Z (J (BA Z Z (Ω _ (by omega)) Z) (AB Z Z (AD (A8 ?_))))))));exact ⟨_,[40],_,A6 Z,Z,Z,Z,Z⟩
theorem LP {wb mv:Nat} {nb pb:Nat ->Nat} {N:Net} {M:MF} (h:CB wb mv nb pb N M) {j:Nat} {y:Po} (hy:N.po[j]? =some y) (c:Int) (hr: -1000000000000000000≤y.room∧y.room≤1000000000000000000) (hc: -2000000000000000000≤c∧c≤2000000000000000000):
  AM Tryz.prog 150 [.d (pD (pb j) 0),.d (AF c)] (HN M) fun r H'=>r= .d (Ai (Py y c))∧H'=HN M:=by
 have ha:=after_c h hy c hr hc;refine BB Tryz.func150 Z Z Tryz.ntmps150 Z Z Z fun F hF=>(AC ?_);refine AE (AB Z Z (AD (AC (AE (goMv Z Z (J (BR Z Z Z) (goMv Z Z (Ia 7 Z (fun h7=>?_) (fun h7=>?_)))))))))
 ·refine Aj Z Z Z (goMv Z Z (Aj Z Z Z ?_));refine goMv Z Z (Aj Z Z Z (V (E1 ha Z [40] ⟨Z,trivial⟩ Z Z Z Z Z Z Z Z Z) (Aj Z Z Z (J (BR Z Z Z) (J (FO Z Z Z Z) (AB Z Z (AD (A8 ?_))))))));exact ⟨_,[40],_,A6 Z,Z,Z,Md (by unfold Py;first | exact (ωp (by omega)).symm | exact decide_eq_decide.2 ⟨fun h=>⟨by omega,h⟩,fun h=>h.2⟩),Z⟩
 ·refine Aa Z Z Z Z (Aa Z Z Z Z (Aa Z Z Z Z (Aa Z Z Z Z (J (Da Z Z Z Z) (AB Z Z (AD (A8 ?_)))))));exact ⟨_,[40],_,A6 Z,Z,Z,Md (by unfold Py;first | exact (ωp (by omega)).symm | exact decide_eq_decide.2 ⟨fun h=>⟨by omega,h⟩,fun h=>h.2⟩),Z⟩
section
variable {P:Program} {F:Fr} {s:AS} {d:Nat} {x y:Operand} {T E:TypeId} {ty:TypeId} {pos:String} {aft:Array Edge} {g:Option (Nat×Bool)} {k:IntKind} {i:Int}
theorem VC {h:Hd} {n:Nat} (hz:h=none ->n=0) (hx:s.ev x=some (.d (hdr h n))) (hT:P.underlying T=some (.slice E)) (hd:Nat.blt d s.n=true):
  AA P F ⟨some d,.call {callee:= .builtin .len,args:= #[x],argTypes:= #[T]},ty,pos,aft,g⟩ s d (.d (AF (n:Int))):=by
 match h,hz,hx with
 | none,hz,hx=>
  have e:=hz rfl;subst e;exact VZ (a:=none) (n:=0) (cap:=0) hx hT hd
 | some (b,c),_,hx=>exact VZ (a:=some ⟨b,0,none⟩) (n:=n) (cap:=c) hx hT hd
theorem Uy {h:Hd} {b c n kk:Nat} (he:h=some (b,c)) (m:Nat) (hx:s.ev x=some (.d (hdr h n))) (hy:s.ev y=some (.d (.raw (.int k i)))) (hi:i=(m:Int)) (hm:m<n) (hT:P.underlying T=some (.slice E)) (hE:AY P E kk=true) (hd:Nat.blt d s.n=true):
  AA P F ⟨some d,.indexAddr T x y,ty,pos,aft,g⟩ s d (.d (pD b (m*kk))):=by
 subst he;exact Ww m hx hy hi hm hT hE hd
end
theorem T8 {M:MF} {h:Hd} {t:TypeId} {k:Nat} {α:Type} {f:α ->D} {l:List α} (hr:BJ M h t k (l.map f)):h=none ->l.length=0:=fun e=>by
 subst e;have:l.map f=[]:=hr
 simpa using this
theorem Ti {M:MF} {h:Hd} {t:TypeId} {k:Nat} {α:Type} {f:α ->D} {l:List α} (hr:BJ M h t k (l.map f)) {j:Nat} (hj:j<l.length):∃b c,h=some (b,c):=by
 cases h with
 | none=>have:=T8 hr rfl;omega
 | some p=>exact ⟨p.1,p.2,Z⟩
theorem Qk {M:MF} {h:Hd} {t:TypeId} {k:Nat} {xs:List D} (hr:BJ M h t k xs) {b c:Nat} (he:h=some (b,c)):M b=some (.row t k c xs):=by
 subst he;exact hr.2
def L9 (po:List Po) (e:Nat×Int):List Po:=match po[e.1]? with
 | some y=>po.set e.1 {y with sum:=y.sum - e.2}
 | none=>po
def ON (po:List Po) (e:Nat×Nat):List Po:=match po[e.1]? with
 | some y=>po.set e.1 {y with mi:=min y.mi e.2}
 | none=>po
theorem VX {po:List Po} {e:Nat×Int} {y:Po} (h:po[e.1]? =some y):L9 po e=po.set e.1 {y with sum:=y.sum - e.2}:=by unfold L9;rw [h]
theorem Vz {po:List Po} {e:Nat×Nat} {y:Po} (h:po[e.1]? =some y):ON po e=po.set e.1 {y with mi:=min y.mi e.2}:=by unfold ON;rw [h]
def EM (x:Nd):Nd:={x with on:=false}
def rmN (N:Net) (i:Nat) (x:Nd):Net:={N with nd:=N.nd.set i (EM x),po:=x.pl.foldl ON (x.ef.foldl L9 N.po)}
theorem Kr {α β:Type} {f:β ->α ->β} {l:List α} {k:Nat} (hk:k<l.length) (b:β):(l.take (k+1)).foldl f b=f ((l.take k).foldl f b) l[k]:=by
 rw [φ hk,List.foldl_append];rfl
def RD (po:List Po) (b:Int):Prop:=∀y∈po,-b≤y.sum∧y.sum≤b
theorem Yy {po:List Po} {b c:Int} (h:RD po b) (hbc:b≤c) {j:Nat} {y:Po} (hy: -c≤y.sum∧y.sum≤c):RD (po.set j y) c:=fun z hz=>by
 rcases χe hz with hz | rfl
 ·have:=h z hz;omega
 ·exact hy
theorem Ze {wb mv:Nat} {nb pb:Nat ->Nat} {N:Net} {M:MF} (h:CB wb mv nb pb N M) {i:Nat} {x:Nd} (hx:N.nd[i]? =some x) (hB:RD N.po 1000000000000000000) (he:∀e∈x.ef,-100000000000000000≤e.2∧e.2≤100000000000000000) (hel:x.ef.length≤60) (hpl:x.pl.length≤1000) (hpb:∀e∈x.pl,e.2≤1000000) (hmb:∀y∈N.po,y.mi≤1000000):
  AM Tryz.prog 140 [.d (pD (nb i) 0)] (HN M) fun r H'=>r= .tup []∧∃M',H'=HN M'∧CB wb mv nb pb (rmN N i x) M':=by
 have hxb:=(h.nn i x hx).1;have hil:=(χ.1 hx).1;have h1:=h.setNd (x':=EM x) hx Z Z Z Z;have hx1:(N.nd.set i (EM x))[i]? =some (EM x):=by rw [List.getElem?_set_self hil]
 have hez:=T8 (h.nn i x hx).2.1;have hpz:=T8 (h.nn i x hx).2.2;have hxe:=h.e x (ζ hx);refine BB Tryz.func140 Z Z Tryz.ntmps140 Z Z Z fun F hF=>(AC ?_);refine AE (goMv Z Z (J (DO Z Z) (J (CS Z E7 Z Z Z) (V (OX (f:=40) Z Z Z Z (hxb) ((by show _<9;omega)) Z sz4) (AD (AC (AC (AE ?_))))))));refine goMv Z Z (J (DO Z Z) (J (CS Z Jt Z Z Z) (J (Dv (f:=40) Z Z ((E2 _ _ _)) Z Vh Z) (J (VC hez Z Tryz.underlying181 Z) (goMv Z Z (AD (A5 (B7 (α:=Nat×List Po×MF) (fun q=>⟨51,[(0,.d (pD (nb i) 0)),(12,(.d (hdr x.eh x.ef.length))),(13,(.d (AF (x.ef.length:Int)))),(14,(.d (AF (q.1:Int))))],HN q.2.2⟩) (fun q=>q.1≤x.ef.length∧q.2.1=(x.ef.take q.1).foldl L9 N.po∧CB wb mv nb pb {N with nd:=N.nd.set i (EM x),po:=q.2.1} q.2.2∧RD q.2.1 (1000000000000000000+100000000000000000*(q.1:Int))∧(∀y∈q.2.1,y.mi≤1000000)∧q.2.1.length=N.po.length) (fun q=>x.ef.length - q.1) ((0,N.po,BQ M (nb i) (Tg (EM x)))) (⟨ς _,Z,h1,by show RD N.po (1000000000000000000+100000000000000000*((0:Nat):Int));simpa using hB,hmb,Z⟩) (A1 hF [40] Z Z ⟨Z,Z,Z,Z,trivial⟩) ?_))))))));rintro ⟨k,po,M1⟩ ⟨hk0,hpo,hR,hS,hmi,hpol⟩;dsimp only at hk0 hpo hR hS hmi hpol⊢;refine AC (AE (J (BR Z Z Z) (AD (AC (Ae Z (fun h15=>?_) (fun h15=>?_))))))
 ·have hk1:k<x.ef.length:=Bf h15;refine A3 (AC (A5 (AC ?_)));obtain ⟨eb,ec,hee⟩:=Ti (h.nn i x hx).2.1 hk1;have hrow:=Qk (hR.nn i (EM x) hx1).2.1 hee;have hjl:x.ef[k].1<po.length:=by rw [hpol];exact hxe.1 _ (κ hk1)
  obtain ⟨y,hy⟩:∃y,po[x.ef[k].1]? =some y:=⟨_,ω hjl⟩
  have hyb:=hR.p _ y hy;have hys:=hS y (ζ hy);have heb:=he _ (κ hk1);refine AE ?_;refine J (Uy hee (k) Z Z Z hk1 Tryz.underlying181 RC Z) (J (Db (f:=40) (e:=k) Z (Z) Z (hrow) (Ah hk1) Z ZZ Z) (V (CF 1 Y5 Z Z Z Z) (V (Bi Z Z Z Z Z Z Z RC) (AD (Ch [[],[0],[0,1],[0,1,2],[0,1,2,3],[],[5],[0,1,2,3,4,5,6],[0,1,2,3,4,5,6,7],[0,1,2,3,4,5,6,7,8],[0,1,2,3,4,5,6,7,8,9]] mixed Z (Cq (AJ [3] [] Z Z (fun _=>AG (A4 Z QU Z Z Z)) (AJ [18] [1] Z Z (fun _=>AG (A9 Z Z Z EX Z)) ?_))))))));refine AJ [19] [] Z Z (fun _=>AG (DO Z Z)) (AJ [20] [] Z Z (fun _=>AG (CS Z Jr Z Z Z)) (AJ [21] [40] Z Z (fun _=>AG (Dv (f:=40) Z Z (hyb) Z Ke Z)) (AJ [3] [] Z Z (fun _=>AG (A4 Z QT Z Z Z)) (AJ [23] [1] Z Z (fun _=>AG (A9 Z Z Z Ke Z)) (C5 7 Z Z Z (Af 8 Z Z (J (LH Z Z (Ω _ (by omega)) Z) (AD ⟨Z,?_⟩))))))));refine Af 9 Z Z (J (DO Z Z) (AD ⟨Z,?_⟩));refine Af 10 Z Z (J (CS Z Jr Z Z Z) (AD ⟨Z,?_⟩));refine Af 11 Z Z (V (OX (f:=40) Z Z Z Z (hyb) ((by show _<10;omega)) Z sz2) (AD ⟨Z,?_⟩));refine C9 (AE (J (BA Z Z (AT (k+1) (by omega)) Z) (goMv Z Z (AD ?_))));exact ⟨(k+1,po.set x.ef[k].1 {y with sum:=y.sum - x.ef[k].2},BQ M1 (pb x.ef[k].1) (Te {y with sum:=y.sum - x.ef[k].2})),⟨by show k+1≤_;omega,by show po.set _ _=_;rw [Kr hk1,←hpo,VX hy],hR.setPo hy Z Z,by show RD _ (1000000000000000000+100000000000000000*((k+1:Nat):Int));exact Yy hS (by omega) (by show _≤y.sum - x.ef[k].2∧y.sum - x.ef[k].2≤_;omega),fun z hz=>by rcases χe hz with hz | rfl;exact hmi z hz;exact hmi y (ζ hy),by show (po.set _ _).length=_;rw [ψd];exact hpol⟩,by show x.ef.length - (k+1)<x.ef.length - k;omega,A1 hF [40] Z (Z) ⟨Z,Z,Z,Z,trivial⟩⟩
 ·refine BF (AC ?_);have hpo1:po=x.ef.foldl L9 N.po:=by rw [hpo,Θ (by have h:=h15;omega)]
  have hxb1:=(hR.nn i (EM x) hx1).1;refine AE ?_;refine goMv Z Z (J (DO Z Z) (J (CS Z Js Z Z Z) (J (Dv (f:=40) Z Z (hxb1) Z Vg Z) (J (VC hpz Z Tryz.underlying182 Z) (goMv Z Z (AD (A5 (B7 (α:=Nat×List Po×MF) (fun q=>⟨51,[(32,(.d (hdr x.ph x.pl.length))),(33,(.d (AF (x.pl.length:Int)))),(34,(.d (AF (q.1:Int))))],HN q.2.2⟩) (fun q=>q.1≤x.pl.length∧q.2.1=(x.pl.take q.1).foldl ON (x.ef.foldl L9 N.po)∧CB wb mv nb pb {N with nd:=N.nd.set i (EM x),po:=q.2.1} q.2.2∧(∀y∈q.2.1,y.mi≤1000000)∧q.2.1.length=N.po.length) (fun q=>x.pl.length - q.1) ((0,po,M1)) (⟨ς _,hpo1,hR,hmi,hpol⟩) (A1 hF [40] Z Z ⟨Z,Z,Z,trivial⟩) ?_))))))));rintro ⟨j,po2,M2⟩ ⟨hj0,hpo2,hR2,hmi2,hpol2⟩;dsimp only at hj0 hpo2 hR2 hmi2 hpol2⊢;refine AC (AE (J (BR Z Z Z) (AD (AC (Ae Z (fun h35=>?_) (fun h35=>?_))))))
  ·have hj1:j<x.pl.length:=Bf h35;refine A3 (AC (A5 (AC ?_)));obtain ⟨pbk,pcc,hpe⟩:=Ti (h.nn i x hx).2.2 hj1;have hrow2:=Qk (hR2.nn i (EM x) hx1).2.2 hpe;have hjl2:x.pl[j].1<po2.length:=by rw [hpol2];exact hxe.2 _ (κ hj1)
   obtain ⟨z,hz⟩:∃z,po2[x.pl[j].1]? =some z:=⟨_,ω hjl2⟩
   have hzb:=hR2.p _ z hz;have hzm:=hmi2 z (ζ hz);have hmin:(if ((x.pl[j].2:Nat):Int)<((z.mi:Nat):Int) then ((x.pl[j].2:Nat):Int) else ((z.mi:Nat):Int))=((min z.mi x.pl[j].2:Nat):Int):=by split<;>omega
   refine AE (J (Uy hpe (j) Z Z Z hj1 Tryz.underlying182 O3 Z) (J (Db (f:=40) (e:=j) Z (Z) Z (hrow2) (Ah hj1) Z ZX Z) (V (CF 2 VF Z Z Z Z) ?_)));refine V (Bi Z Z Z Z Z Z Z O3) (AD (Ch [[],[0],[],[2],[2,3],[2,3,4],[2,3,4,5],[],[7],[2,3,4,5,6,7,8],[0,1,2,3,4,5,6,7,8,9],[0,1,2,3,4,5,6,7,8,9,10],[0,1,2,3,4,5,6,7,8,9,10,11]] mixed Z (Cq (AJ [5] [] Z Z (fun _=>AG (A4 Z Gm Z Z Z)) (AJ [38] [2] Z Z (fun _=>AG (A9 Z Z Z EX Z)) (AJ [5] [] Z Z (fun _=>AG (A4 Z Gm Z Z Z)) (AJ [40] [2] Z Z (fun _=>AG (A9 Z Z Z EX Z)) (AJ [41] [] Z Z (fun _=>AG (DO Z Z)) ?_))))))));refine AJ [42] [] Z Z (fun _=>AG (CS Z Jq Z Z Z)) (AJ [43] [40] Z Z (fun _=>AG (Dv (f:=40) Z Z (hzb) Z Aq Z)) (AJ [5] [] Z Z (fun _=>AG (A4 Z QR Z Z Z)) (AJ [45] [2] Z Z (fun _=>AG (A9 Z Z Z Aq Z)) (AJ [44,46] [] Z Z (fun _=>AG (KX Z Z (hmin) Z)) (C5 10 Z Z Z (Af 11 Z Z (J (DO Z Z) (AD ⟨Z,?_⟩))))))));refine Af 12 Z Z (J (CS Z Jq Z Z Z) (AD ⟨Z,?_⟩));refine Af 13 Z Z (V (OX (f:=40) Z Z Z Z (hzb) ((by show _<10;omega)) Z BE) (AD ⟨Z,?_⟩));refine C9 ?_;skip;refine AE (J (BA Z Z (AT (j+1) (by omega)) Z) (goMv Z Z (AD ?_)));exact ⟨(j+1,po2.set x.pl[j].1 {z with mi:=min z.mi x.pl[j].2},BQ M2 (pb x.pl[j].1) (Te {z with mi:=min z.mi x.pl[j].2})),⟨by show j+1≤_;omega,by show po2.set _ _=_;rw [Kr hj1,←hpo2,Vz hz],hR2.setPo hz Z Z,fun w hw=>by rcases χe hw with hw | rfl;exact hmi2 w hw;show min z.mi _≤_;omega,by show (po2.set _ _).length=_;rw [ψd];exact hpol2⟩,by show x.pl.length - (j+1)<x.pl.length - j;omega,A1 hF [40] Z (Z) ⟨Z,Z,Z,trivial⟩⟩
  ·refine BF ?_;have hpo3:po2=x.pl.foldl ON (x.ef.foldl L9 N.po):=by rw [hpo2,Θ (by have h:=h35;omega)]
   exact ⟨_,[40],_,A6 Z,Z,Z,Z,M2,Z,by unfold rmN;rw [←hpo3];exact hR2⟩
def BT (N:Net):List Int:=N.nd.map fun x=>x.it.id
def Fh (nb:Nat ->Nat) (ids:List Int):List (Int×Value):=(List.range ids.length).map fun i=>(ids.getD i 0,pV (nb i) 0)
theorem Q8 {nb:Nat ->Nat} {ids:List Int} (hn:ids.Nodup) {i:Nat} (hi:i<ids.length):A7 (Fh nb ids) ids[i] (.pointer none)=pV (nb i) 0:=by
 refine DJ ?_ (ϱ.2 ⟨i,Ξ.2 hi,by rw [CY 0 hi]⟩)
 have:(Fh nb ids).map Prod.fst=ids:=by
  unfold Fh;rw [ωu];refine χc (by simp) fun j h1 h2=>?_;simp only [ωd,ψs,Function.comp];exact CY 0 h2
 rw [this];exact hn
abbrev HW (mv:Nat) (bs:Option (List Nat×Nat)) (L:List (Int×Value)) (M:MF):Hp:=[(40,[.multi M]),(50,[.map bs (BO AF K8 L)]),(51,[.addr 50 0 (.map (some mv))])]
structure Nw where
 id:Int
 re:Int
 r:AP
 by_:Int
def EH:AP:=⟨0,TZ,[],[]⟩
def exc0:Nw:=⟨0,0,EH,0⟩
abbrev b9 (e:Nw):D:= .agg [AF e.id,AF e.re,AF e.r.k,Ao e.r.acc.o,AF e.r.acc.k,Ao e.r.acc.a,Ao e.r.f,Ao e.r.t,AF e.by_]
abbrev excR (o:Option Nw):D:= .tup [b9 (o.getD exc0),Ai o.isSome]
def badP (N:Net) (e:Nat×Nat):Bool:=decide ((N.po.getD e.1 CV).mi<e.2)
def Ud (N:Net) (x:Nd) (e:Nat×Nat):Nw:=⟨x.it.id,1,(N.po.getD e.1 CV).r,(N.nd.getD ((N.po.getD e.1 CV).q.getD (N.po.getD e.1 CV).mi 0) Bl).it.id⟩
def Cp (N:Net) (id:Int):Bool:=!(N.nd.getD ((BT N).idxOf id) Bl).on
def Gz (N:Net) (x:Nd):Option Nw:=match x.pl.find? (badP N) with
 | some e=>some (Ud N x e)
 | none=>match x.it.af.find? (Cp N) with
  | some id=>some ⟨x.it.id,2,EH,id⟩
  | none=>none
theorem QM {α:Type} {p:α ->Bool}:∀{l:List α} {k:Nat} (hk:k<l.length),(∀x∈l.take k,p x=false) ->p l[k]=true ->l.find? p=some l[k]
 | a::l,0,_,_,h=>by simp at h;simp [h]
 | a::l,k+1,hk,h0,h=>by
  have h1:p a=false:=h0 a (by simp);have ih:=QM (l:=l) (k:=k) (by simpa using hk) (fun x hx=>h0 x (by simp [hx])) (by simpa using h);rw [List.find?_cons,h1];simpa using ih
theorem PZ {α:Type} {p:α ->Bool} {l:List α} (h:∀x∈l,p x=false):l.find? p=none:=List.find?_eq_none.2 fun x hx=>by rw [h x hx];simp
structure NetW (N:Net):Prop where
 i:(BT N).Nodup
 a:∀x∈N.nd,∀id∈x.it.af,id∈BT N
 l:∀x∈N.nd,x.ef.length≤60∧x.pl.length≤1000∧x.it.af.length≤1000
 e:∀x∈N.nd,∀e∈x.ef,-100000000000000000≤e.2∧e.2≤100000000000000000
 p:∀x∈N.nd,∀e∈x.pl,e.2<(N.po.getD e.1 CV).q.length∧e.2≤1000000
 m:∀y∈N.po,y.mi≤1000000
 rm:∀y∈N.po,-1000000000000000000≤y.room∧y.room≤1000000000000000000
 n:N.nd.length≤1000∧N.po.length≤1000
 ql:∀y∈N.po,y.q.length≤1000
set_option maxHeartbeats 1000000 in
theorem inadm_c {wb mv:Nat} {nb pb:Nat ->Nat} {N:Net} {M:MF} (bs:Option (List Nat×Nat)) (h:CB wb mv nb pb N M) (hw:NetW N) {i:Nat} {x:Nd} (hx:N.nd[i]? =some x):
  AM Tryz.prog 193 [.d (pD wb 0),.d (pD (nb i) 0)] (HW mv bs (Fh nb (BT N)) M) fun r H'=>r= .d (excR (Gz N x))∧H'=HW mv bs (Fh nb (BT N)) M:=by
 have hwb:=h.w;have hxm:=ζ hx;obtain ⟨hxb,hre,hrp⟩:=h.nn i x hx;have hpz:=T8 hrp;obtain ⟨_,hpl,hafl⟩:=hw.l x hxm;have hxe:=h.e x hxm;have hxp:=hw.p x hxm;have hxa:=hw.a x hxm;refine BB Tryz.func193 Z Z Tryz.ntmps193 Z Z Z fun F hF=>(AC (AE (V (CF 1 Ic Z Z Z Z) (AB Z Z (AD (AC (AC (AE ?_))))))));refine goMv Z Z (J (DO Z Z) (J (CS Z Js Z Z Z) (J (Dv (f:=40) Z Z (hxb) Z Vg Z) (J (VC hpz Z Tryz.underlying182 Z) (goMv Z Z (AD (A5 (B7 (α:=Nat) (fun k=>⟨85,[(0,.d (pD wb 0)),(1,.d (pD (nb i) 0)),(4,(.ptr 1 0 0)),(13,(.d (hdr x.ph x.pl.length))),(14,(.d (AF (x.pl.length:Int)))),(15,(.d (AF (k:Int))))],(1,[.blk 245 [.d (AF 0),.d (AF 0),.d (AF 0),.d (Ao []),.d (AF 0),.d (Ao []),.d (Ao []),.d (Ao []),.d (AF 0)]])::HW mv bs (Fh nb (BT N)) M⟩) (fun k=>k≤x.pl.length∧∀e∈x.pl.take k,badP N e=false) (fun k=>x.pl.length - k) (0) (⟨ς _,by simp⟩) (A1 hF [1,40,50,51] Z Z ⟨Z,Z,Z,Z,Z,Z,trivial⟩) ?_))))))));rintro k ⟨hk0,hkb⟩;refine AC (AE (J (BR Z Z Z) (AD (AC (Ae Z (fun h16=>?_) (fun h16=>?_))))))
 ·have hk1:k<x.pl.length:=Bf h16;refine A3 (AC (A5 (AC ?_)));obtain ⟨eb,ec,hee⟩:=Ti hrp hk1;have hrow:=Qk hrp hee;have hjl:x.pl[k].1<N.po.length:=hxe.2 _ (κ hk1)
  obtain ⟨y,hy⟩:∃y,N.po[x.pl[k].1]? =some y:=⟨_,ω hjl⟩
  have hgy:N.po.getD x.pl[k].1 CV=y:=by rw [ϖ,hy];rfl
  obtain ⟨hyb,hyq⟩:=h.pp _ y hy;have hpk:=hxp _ (κ hk1);rw [hgy] at hpk;refine AE (J (Uy hee (k) Z Z Z hk1 Tryz.underlying182 O3 Z) ?_);refine J (Db (f:=40) (e:=k) Z (Z) Z (hrow) (Ah hk1) Z ZX Z) (V (CF 2 VF Z Z Z Z) (V (Bi Z Z Z Z Z Z Z O3) (AD (AC (Ch [[],[0],[0,1],[0,1,2],[0,1,2,3],[],[5],[0,1,2,3,4,5,6]] mixed Z (Cq (AJ [7] [] Z Z (fun _=>AG (A4 Z Gm Z Z Z)) (AJ [19] [2] Z Z (fun _=>AG (A9 Z Z Z EX Z)) ?_))))))));refine AJ [20] [] Z Z (fun _=>AG (DO Z Z)) (AJ [21] [] Z Z (fun _=>AG (CS Z Jq Z Z Z)) (AJ [22] [40] Z Z (fun _=>AG (Dv (f:=40) Z Z (hyb) Z Aq Z)) (AJ [7] [] Z Z (fun _=>AG (A4 Z QR Z Z Z)) (AJ [24] [2] Z Z (fun _=>AG (A9 Z Z Z Aq Z)) (C5 7 Z Z Z (Af 8 Z Z (J (BR Z Z Z) (AD ⟨Z,?_⟩))))))));refine C9 (Ae Z (fun h26=>?_) (fun h26=>?_))
  ·refine AC ?_;have hmq:y.mi<y.q.length:=by have h:=h26;omega
   obtain ⟨qb,qc,hqe⟩:=Ti hyq hmq;have hqrow:=Qk hyq hqe;have hni:y.q[y.mi]<N.nd.length:=h.q y (ζ hy) _ (κ hmq)
   obtain ⟨z,hz⟩:∃z,N.nd[y.q[y.mi]]? =some z:=⟨_,ω hni⟩
   obtain ⟨hzb,_,_⟩:=h.nn _ z hz;have hbad:Gz N x=some ⟨x.it.id,1,y.r,z.it.id⟩:=by unfold Gz;rw [QM hk1 hkb (by unfold badP;rw [hgy];exact ωi (by have h:=h26;omega))];unfold Ud;dsimp only;rw [hgy,CY 0 hmq,ϖ,hz];rfl
   refine Ch [[],[0],[0,1],[0,1,2],[0,1,2,3],[],[5],[5,6],[5,6,7],[5,6,7,8],[],[10],[10,11],[10,11,12],[10,11,12,13],[],[15],[15,16],[15,16,17],[15,16,17,18],[10,11,12,13,14,15,16,17,18,19],[10,11,12,13,14,15,16,17,18,19,20],[10,11,12,13,14,15,16,17,18,19,20,21],[10,11,12,13,14,15,16,17,18,19,20,21,22],[10,11,12,13,14,15,16,17,18,19,20,21,22,23],[10,11,12,13,14,15,16,17,18,19,20,21,22,23,24],[0,1,2,3,4,5,6,7,8,9,10,11,12,13,14,15,16,17,18,19,20,21,22,23,24,25],[0,1,2,3,4,5,6,7,8,9,10,11,12,13,14,15,16,17,18,19,20,21,22,23,24,25,26],[0,1,2,3,4,5,6,7,8,9,10,11,12,13,14,15,16,17,18,19,20,21,22,23,24,25,26,27]] mixed Z (Cq (AJ [1] [] Z Z (fun _=>AG (Ak Z Z)) (AJ [27] [] Z Z (fun _=>AG (DO Z Z)) (AJ [28] [] Z Z (fun _=>AG (CS Z Fe Z Z Z)) ?_))));refine AJ [29] [] Z Z (fun _=>AG (CS Z OB Z Z Z)) (AJ [30] [40] Z Z (fun _=>AG (Dv (f:=40) Z Z (hxb) Z Aq Z)) (AJ [7] [] Z Z (fun _=>AG (A4 Z Gm Z Z Z)) (AJ [32] [2] Z Z (fun _=>AG (A9 Z Z Z EX Z)) (AJ [33] [] Z Z (fun _=>AG (DO Z Z)) (AJ [34] [] Z Z (fun _=>AG (CS Z MD Z Z Z)) (AJ [35] [40] Z Z (fun _=>AG (DH (f:=40) Z Z (hyb) C7 Z Z (by simp [D.one]) Z)) (AJ [7] [] Z Z (fun _=>AG (A4 Z Gm Z Z Z)) (AJ [37] [2] Z Z (fun _=>AG (A9 Z Z Z EX Z)) ?_))))))));refine AJ [38] [] Z Z (fun _=>AG (DO Z Z)) (AJ [39] [] Z Z (fun _=>AG (CS Z Gn Z Z Z)) (AJ [40] [40] Z Z (fun _=>AG (Dv (f:=40) Z Z (hyb) Z GG Z)) (AJ [7] [] Z Z (fun _=>AG (A4 Z Gm Z Z Z)) (AJ [42] [2] Z Z (fun _=>AG (A9 Z Z Z EX Z)) (AJ [43] [] Z Z (fun _=>AG (DO Z Z)) (AJ [44] [] Z Z (fun _=>AG (CS Z Jq Z Z Z)) (AJ [45] [40] Z Z (fun _=>AG (Dv (f:=40) Z Z (hyb) Z Aq Z)) (AJ [41,46] [] Z Z (fun _=>AG (Uy hqe (y.mi) Z Z Z hmq Tryz.underlying175 LK Z)) ?_))))))));refine AJ [47] [40] Z Z (fun _=>AG (Zcs (f:=40) (e:=y.mi) (off:=0) Z (by omega) Z (hqrow) (Ah hmq) Z Mo Z)) (AJ [48] [] Z Z (fun _=>AG (DO Z Z)) (AJ [49] [] Z Z (fun _=>AG (CS Z Fe Z Z Z)) (AJ [50] [] Z Z (fun _=>AG (CS Z OB Z Z Z)) (AJ [51] [40] Z Z (fun _=>AG (Dv (f:=40) Z Z (hzb) Z Aq Z)) (C5 26 Z Z Z (Af 27 Z Z (J (FZ Ic Rj Z Z Z) (AD ⟨Z,?_⟩))))))));refine Af 28 Z Z (V (Bi Z Z Z Z Z Z Z JO) (AD ⟨Z,?_⟩));refine Af 29 Z Z (AB Z Z (AD ⟨Z,?_⟩));refine C9 (A8 ?_);exact ⟨_,[40,50,51],_,A6 Z,Z,Z,by rw [hbad];rfl,Z⟩
  ·refine A3 (AE (J (BA Z Z (AT (k+1) (by omega)) Z) (goMv Z Z (AD ?_))));exact ⟨k+1,⟨by show k+1≤_;omega,by rw [φ hk1];intro e he;rcases υ.1 he with he | he;exact hkb e he;rw [ξ.1 he];unfold badP;rw [hgy];exact ωp (by have h:=h26;omega)⟩,by show x.pl.length - (k+1)<x.pl.length - k;omega,A1 hF [1,40,50,51] Z (Z) ⟨Z,Z,Z,Z,Z,Z,trivial⟩⟩
 ·refine BF (AC (AC ?_));have hpn:x.pl.find? (badP N)=none:=PZ (by have e:k=x.pl.length:=(by have h:=h16;omega);rw [e,ωs] at hkb;exact hkb);refine AE (goMv Z Z ?_);refine J (DO Z Z) (J (CS Z Fe Z Z Z) (J (CS Z FH Z Z Z) (J (Dv (f:=40) Z Z (hxb) Z BH Z) (J (CO Z Tryz.underlying28 Z) (goMv Z Z (AD (A5 (B7 (α:=Nat) (fun j=>⟨85,[(0,.d (pD wb 0)),(1,.d (pD (nb i) 0)),(4,(.ptr 1 0 0)),(59,(.d (.sl none (x.it.af.map AF)))),(60,(.d (AF (x.it.af.length:Int)))),(61,(.d (AF (j:Int))))],(1,[.blk 245 [.d (AF 0),.d (AF 0),.d (AF 0),.d (Ao []),.d (AF 0),.d (Ao []),.d (Ao []),.d (Ao []),.d (AF 0)]])::HW mv bs (Fh nb (BT N)) M⟩) (fun j=>j≤x.it.af.length∧∀id∈x.it.af.take j,Cp N id=false) (fun j=>x.it.af.length - j) (0) (⟨ς _,by simp⟩) (A1 hF [1,40,50,51] Z Z ⟨Z,Z,Z,Z,Z,Z,trivial⟩) ?_))))))));rintro j ⟨hj0,hjb⟩;refine AC (AE (J (BR Z Z Z) (AD (AC (Ae Z (fun h62=>?_) (fun h62=>?_))))))
  ·have hj1:j<x.it.af.length:=Bf h62;refine A3 (AC (A5 (AC ?_)));have hidm:=hxa _ (κ hj1);have hil:=ψp hidm;have hil2:(BT N).idxOf x.it.af[j]<N.nd.length:=by unfold BT at hil⊢;rw [ψ] at hil;exact hil
   obtain ⟨z,hz⟩:∃z,N.nd[(BT N).idxOf x.it.af[j]]? =some z:=⟨_,ω hil2⟩
   have hgz:N.nd.getD ((BT N).idxOf x.it.af[j]) Bl=z:=by rw [ϖ,hz];rfl
   obtain ⟨hzb,_,_⟩:=h.nn _ z hz;have hby:=Q8 (nb:=nb) hw.i hil;rw [φe hil] at hby;refine AE (J (Be (j) Z Z (Z) (Ah hj1) Tryz.underlying28 Z BE Z) ?_);refine J (Cr Z Z Aq Z) (AB Z Z (AD (AC (AE (goMv Z Z (J (DO Z Z) (J (CS Z ME Z Z Z) (J (Dv (f:=40) Z Z (hwb) Z Vi Z) ?_))))))));refine D1 68 51 0 Z Z (goMv Z Z (J (HQ (Fh nb (BT N)) x.it.af[j] (.pointer none) (pV (nb ((BT N).idxOf x.it.af[j])) 0) Z Z Z Vw HP VG hby Z) (J (DO Z Z) (J (CS Z E7 Z Z Z) (J (Dv (f:=40) Z Z (hzb) Z on4 Z) (J (OC Z Z) (AD (KN Z (fun h74=>?_) (fun h74=>?_)))))))))
   ·refine AC (AE (goMv Z Z (J (DO Z Z) (J (CS Z Fe Z Z Z) ?_))));refine J (CS Z OB Z Z Z) (J (Dv (f:=40) Z Z (hxb) Z Aq Z) (J (FZ KP Rg Z Z Z) (goMv Z Z (J (FZ Ic Rj Z Z Z) (V (Bi Z Z Z Z Z Z Z JO) (AB Z Z (AD (A8 ?_))))))));exact ⟨_,[40,50,51],_,A6 Z,Z,Z,by unfold Gz;rw [hpn];dsimp only;rw [QM hj1 hjb (by unfold Cp;rw [hgz];simpa using h74)];rfl,Z⟩
   ·refine A3 (AE (J (BA Z Z (AT (j+1) (by omega)) Z) (goMv Z Z (AD ?_))));exact ⟨j+1,⟨by show j+1≤_;omega,by rw [φ hj1];intro e he;rcases υ.1 he with he | he;exact hjb e he;rw [ξ.1 he];unfold Cp;rw [hgz];simpa using h74⟩,by show x.it.af.length - (j+1)<x.it.af.length - j;omega,A1 hF [1,40,50,51] Z (Z) ⟨Z,Z,Z,Z,Z,Z,trivial⟩⟩
  ·refine BF (AC (AE (J (FZ Ic Rj Z Z Z) (V (Bi Z Z Z Z Z Z Z JO) (AB Z Z (AD (A8 ?_)))))));exact ⟨_,[40,50,51],_,A6 Z,Z,Z,by unfold Gz;rw [hpn];dsimp only;rw [PZ (by have e:j=x.it.af.length:=(by have h:=h62;omega);rw [e,ωs] at hjb;exact hjb)];rfl,Z⟩
abbrev bZ:FuncId:=230
theorem backF_c (h:Hd) (n:Nat):AM Tryz.prog 194 [.d (hdr h n)] [] fun r H'=>r= .fn bZ [.d (.ptr (hdr h n))]∧H'=[]:=by
 refine BB Tryz.func194 Z Z Tryz.ntmps194 Z Z Z fun F hF=>(AC (AE (V (Bz 1 Z Z Z Z Z Z Z) ?_)));refine AB Z Z (AD (AC (AE (Ox 1 1 (hdr h n) [] hF Z Z Z (by intro c hc;simp [D.cells] at hc;subst hc;rfl) Z Z Z (J (Zcv Z Z) (AB Z Z (AD (A8 ?_))))))));exact ⟨_,[],[],A6 Z,Z,Z,Z,Z⟩
def K4 (q:List Nat):Nat ->List (Nat×Nat)
 | 0=> []
 | c+1=>(c,q.getD c 0)::K4 q c
def bf (nb:Nat ->Nat) (e:Nat×Nat):List AV:=[.d (AF (e.1:Int)),.d (BK (nb e.2))]
section
variable {β:Type}
theorem back1_c (nb:Nat ->Nat) (q:List Nat) (hq:q.length≤100000) {M:MF} {h:Hd} (hrow:BJ M h 176 1 (q.map fun i=>BK (nb i))) (l:Nat) (H:β ->Hp) (N:List Nat) (step:β ->Nat×Nat ->β×Bool) (st0:β) (hN:∀st,hpN (H st)=N) (hI:∀st,FW N (H st)=true) (hP:∀st,BU (H st) N=some (H st)) (hM:∀st,hfam (H st) 40=some [.multi M])
  (hfe:L6 Tryz.prog l (bf nb) H step st0 (K4 q q.length)):
  AM Tryz.prog bZ [.d (.raw (Cu l)),.d (.ptr (hdr h q.length))] (H st0) fun r H'=>r= .tup []∧H'=H (HI step st0 (K4 q q.length)):=by
 have hz:=T8 hrow;have x5:∀st,AU N (H st)=true:=fun st=>by have h:=EO (H st);rw [hN] at h;exact h
 have x6:∀st,CU N (H st)=some []:=fun st=>by have h:=Ok (H st);rw [hN] at h;exact h
 refine BB Tryz.func230 Z Z Tryz.ntmps230 Z Z Z fun F hF=>?_;refine AC (AE (J (Cr Z Z GG Z) (J (VC hz Z Tryz.underlying175 Z) (J (LH Z Z (Ω _ (by omega)) Z) (AB Z Z (AD (A5 (Gu (α:=Nat×β) (fun p=>⟨19,[(0,.d (.raw (Cu l))),(1,.d (.ptr (hdr h q.length))),(3,(.d (AF ((p.1:Int) - 1))))],H p.2⟩) (fun p=>p.1≤q.length∧L6 Tryz.prog l (bf nb) H step p.2 (K4 q p.1)∧HI step p.2 (K4 q p.1)=HI step st0 (K4 q q.length)) (fun p=>p.1) ((q.length,st0)) (⟨ν _,hfe,Z⟩) (ci ⟨Z,Z,Z,trivial⟩) ?_))))))));rintro ⟨c,st⟩ ⟨hc0,hfk,hfin⟩;dsimp only at hc0 hfk hfin⊢;refine AC (AC (AE (goMv Z Z (J (ES Z Z Z) (AD (Ae Z (fun h8=>?_) (fun h8=>?_)))))))
 ·obtain ⟨k,rfl⟩:∃k,c=k+1:=⟨c - 1,by have h:=h8;omega⟩
  refine A3 (AC (A5 (AC ?_)));have hkq:k<q.length:=by omega
  obtain ⟨qb,qc,hqe⟩:=Ti hrow hkq;have hqrow:=Qk hrow hqe;have hk1:((k+1:Nat):Int) - 1=(k:Int):=by omega
  rw [hk1];refine AE (goMv Z Z (goMv Z Z (J (Cr Z Z GG Z) (goMv Z Z (J (Uy hqe (k) Z Z Z hkq Tryz.underlying175 LK Z) (J (Zcs (f:=40) (e:=k) (off:=0) Z (by omega) (hM st) hqrow (Ah hkq) Z Mo Z) ?_))))));rw [←CY 0 hkq];refine Rs Z Z hfk.1 N (Ei fun _ _=>rfl) (x5 st) (x6 st) Z Z (fun r H' ⟨e1,e2⟩=>by subst e1 e2;exact ⟨x5 _,hI _,Z⟩) Z fun r H' ⟨e1,e2⟩=>?_;subst e1 e2;rw [ωk];refine J (OC Z Z) (AD (KN Z (fun h18=>?_) (fun h18=>?_)))
  ·have hgo:(step st (k,q.getD k 0)).2=false:=by simpa using h18
   refine A8 ?_;exact ⟨_,N,_,A6 Z,hP _,x5 _,Z,by rw [←hfin];show H _=H (HI step st ((k,q.getD k 0)::K4 q k));rw [Dp,ϑ (by rw [hgo];decide)]⟩
  ·have hgo:(step st (k,q.getD k 0)).2=true:=by simpa using h18
   refine A3 (AE (goMv Z Z (J (LH Z Z (Ω _ (by omega)) Z) (AB Z Z (AD ?_)))));exact ⟨(k,(step st (k,q.getD k 0)).1),⟨by show k≤_;omega,hfk.2 hgo,by show HI step (step st (k,q.getD k 0)).1 (K4 q k)=_;rw [←hfin];show _=HI step st ((k,q.getD k 0)::K4 q k);rw [Dp,θ hgo]⟩,by show k<k+1;omega,⟨Z,Z,fun _ _=>Tk.get (l:=[(0,_),(1,_),(3,_)]) ⟨Z,Z,Z,trivial⟩⟩⟩
 ·refine BF ?_;exact ⟨_,N,_,A6 Z,hP _,x5 _,Z,by rw [←hfin];have e:c=0:=(by have h:=h8;omega);rw [e];rfl⟩
end
def onN (N:Net) (i:Nat):Bool:=(N.nd.getD i Bl).on
def Tf (N:Net) (x:Nd):Option Nw:=if x.on=true then Gz N x else none
def XP (N:Net) (y:Po):Option Nw:=if Py y y.sum=true then (y.q.reverse.find? (onN N)).map fun i=>⟨(N.nd.getD i Bl).it.id,0,y.r,-1⟩ else none
def FD (N:Net):Option Nw:=match N.nd.findSome? (Tf N) with
 | some e=>some e
 | none=>N.po.findSome? (XP N)
theorem Hl {α β:Type} {f:α ->Option β}:∀{l:List α} {k:Nat} (hk:k<l.length) {b:β},(∀x∈l.take k,f x=none) ->f l[k]=some b ->l.findSome? f=some b
 | a::l,0,_,b,_,h=>by simp at h;rw [List.findSome?_cons,h]
 | a::l,k+1,hk,b,h0,h=>by
  have h1:f a=none:=h0 a (by simp);have ih:=Hl (l:=l) (k:=k) (by simpa using hk) (fun x hx=>h0 x (by simp [hx])) (by simpa using h);rw [List.findSome?_cons,h1];exact ih
theorem LV {α β:Type} {f:α ->Option β} {l:List α} (h:∀x∈l,f x=none):l.findSome? f=none:=List.findSome?_eq_none_iff.2 h
def stRO:Bool ->LoopState
 | true=> .done
 | false=> .ready
def pdRO:Bool ->Option Code
 | true=>some .ret
 | false=>none
def HY (N:Net) (_st:Option Nat) (e:Nat×Nat):Option Nat×Bool:=if onN N e.2=true then (some e.2,false) else (none,true)
theorem bX (N:Net) (q:List Nat):∀n,n≤q.length ->HI (HY N) none (K4 q n)=((q.take n).reverse.find? (onN N))
 | 0,_=>rfl
 | n+1,h=>by
  have hn:n<q.length:=by omega
  show HI (HY N) none ((n,q.getD n 0)::K4 q n)=_;rw [Dp,φ hn,List.reverse_append,List.reverse_singleton,List.singleton_append,List.find?_cons,CY 0 hn];unfold HY;dsimp only
  cases ho:onN N q[n] with
  | true=>rfl
  | false=>exact bX N q n (by omega)
theorem WQ {P:Program} {l:Nat} {nb:Nat ->Nat} {H:Option Nat ->Hp} (N:Net) (q:List Nat) (hY:∀k (hk:k<q.length),Fs P l (bf nb (k,q[k])) (H none) fun v H'=>v= .d (.raw (.bool (!onN N q[k])))∧H'=H (if onN N q[k]=true then some q[k] else none)):∀n,n≤q.length ->L6 P l (bf nb) H (HY N) none (K4 q n)
 | 0,_=>trivial
 | n+1,h=>by
  have hn:n<q.length:=by omega
  have hy:=hY n hn;show L6 P l (bf nb) H (HY N) none ((n,q.getD n 0)::K4 q n);rw [CY 0 hn];refine ⟨hy.mono fun v H' ⟨e1,e2⟩=>⟨by rw [e1];unfold HY;cases onN N q[n]<;>rfl,by rw [e2];unfold HY;cases onN N q[n]<;>rfl⟩,fun hgo=>?_⟩
  have hoff:onN N q[n]=false:=by
   cases ho:onN N q[n] with
   | false=>rfl
   | true=>unfold HY at hgo;dsimp only at hgo;rw [ho] at hgo;cases hgo
  have:(HY N none (n,q[n])).1=none:=by unfold HY;dsimp only;rw [hoff];rfl
  rw [this];exact WQ N q hY n (by omega)
abbrev excB (e:Nw):AL:= .blk 245 [.d (AF e.id),.d (AF e.re),.d (AF e.r.k),.d (Ao e.r.acc.o),.d (AF e.r.acc.k),.d (Ao e.r.acc.a),.d (Ao e.r.f),.d (Ao e.r.t),.d (AF e.by_)]
def fndE (N:Net) (y:Po) (o:Option Nat):Nw:=match o with
 | none=>exc0
 | some i=>⟨(N.nd.getD i Bl).it.id,0,y.r,-1⟩
abbrev hBk (N:Net) (y:Po) (pbk mv:Nat) (bs:Option (List Nat×Nat)) (L:List (Int×Value)) (M:MF) (o:Option Nat):Hp:=[(1,[excB (fndE N y o)]),(2,[.blk 4 [.d (Ai o.isSome)]]),(4,[.blk 186 [.d (BK pbk)]]),(40,[.multi M]),(50,[.map bs (BO AF K8 L)]),(51,[.addr 50 0 (.map (some mv))])]
set_option maxHeartbeats 2000000 in
theorem next_c {wb mv:Nat} {nb pb:Nat ->Nat} {N:Net} {M:MF} (bs:Option (List Nat×Nat)) (h:CB wb mv nb pb N M) (hw:NetW N) (hs:RD N.po 1000000000000000000):
  AM Tryz.prog 139 [.d (pD wb 0)] (HW mv bs (Fh nb (BT N)) M) fun r H'=>r= .d (excR (FD N))∧H'=HW mv bs (Fh nb (BT N)) M:=by
 have hwb:=h.w;have hnr:BJ M N.nh 176 1 ((List.range N.nd.length).map fun i=>BK (nb i)):=h.rs.1 .n;have hpr:BJ M N.mh 186 1 ((List.range N.po.length).map fun j=>BK (pb j)):=h.rs.1 .m;have hnz:=T8 hnr;have hpz:=T8 hpr;rw [ωg] at hnz hpz;have hnl:=hw.n
 obtain ⟨L,hL⟩:∃L,Fh nb (BT N)=L:=⟨_,Z⟩
 have hina:=fun i x hx=>inadm_c (i:=i) (x:=x) bs h hw hx;rw [hL] at hina⊢;refine Nr Tryz.func139 Z Z Tryz.ntmps139 Z Z Z fun F hF hFl=>(AC (AE (V (CF 1 Ic Z Z Z Z) (V (CF 2 zl4 Z Z Z Z) (AD (AC (AC (AE ?_))))))));refine goMv Z Z (J (DO Z Z) (J (CS Z IX Z Z Z) (J (Dv (f:=40) Z Z (hwb) Z GG Z) (J (VC hnz Z Tryz.underlying175 Z) (goMv Z Z (AD (A5 (B7 (α:=Nat) (fun k=>⟨74,[(0,.d (pD wb 0)),(2,(.ptr 1 0 0)),(3,(.ptr 2 0 0)),(15,(.d (hdr N.nh N.nd.length))),(16,(.d (AF (N.nd.length:Int)))),(17,(.d (AF (k:Int))))],(1,[excB exc0])::(2,[.blk 4 [.d (Ai false)]])::HW mv bs L M⟩) (fun k=>k≤N.nd.length∧∀x∈N.nd.take k,Tf N x=none) (fun k=>N.nd.length - k) (0) (⟨ς _,by simp⟩) (A1 hF [1,2,40,50,51] Z Z ⟨Z,Z,Z,Z,Z,Z,trivial⟩) ?_))))))));rintro k ⟨hk0,hkb⟩;refine AC (AE (J (BR Z Z Z) (AD (AC (Ae Z (fun h18=>?_) (fun h18=>?_))))))
 ·have hk1:k<N.nd.length:=Bf h18;refine A3 (AC (A5 (AC ?_)))
  obtain ⟨x,hx⟩:∃x,N.nd[k]? =some x:=⟨_,ω hk1⟩
  have hxk:N.nd[k]=x:=by rw [ω hk1] at hx;injection hx
  obtain ⟨hxb,_,_⟩:=h.nn k x hx;obtain ⟨rb,rc,hre⟩:=Ti hnr (j:=k) (by rw [ωg];exact hk1);have hrow:=Qk hnr hre;refine AE (J (Uy hre (k) Z Z Z hk1 Tryz.underlying175 LK Z) (J (Zcs (f:=40) (e:=k) (off:=0) Z (by omega) Z (hrow) ((by rw [η,ψt hk1];rfl)) Z Mo Z) ?_));refine AB Z Z (AD (AC ?_));refine AC (AE (goMv Z Z (J (DO Z Z) (J (CS Z E7 Z Z Z) (J (Dv (f:=40) Z Z (hxb) Z on4 Z) (J (OC Z Z) (AD (KN Z (fun h25=>?_) (fun h25=>?_)))))))))
  ·have hnone:Tf N x=none:=by unfold Tf;rw [ϑ (by simpa using h25)]
   refine BF ?_
   try have hnone:Tf N x=none:=by unfold Tf;split<;>first | exact hin | rfl
   refine AE (J (BA Z Z (AT (k+1) (by omega)) Z) (goMv Z Z (AD ?_)));exact ⟨k+1,⟨by show k+1≤_;omega,by rw [φ hk1];intro e he;rcases υ.1 he with he | he;exact hkb e he;rw [ξ.1 he,hxk];exact hnone⟩,by show N.nd.length - (k+1)<N.nd.length - k;omega,A1 hF [1,2,40,50,51] Z (Z) ⟨Z,Z,Z,Z,Z,Z,trivial⟩⟩
  ·refine A3 (AC (AE (goMv Z Z (goMv Z Z (V (E1 (hina k x hx) Z [40,50,51] ⟨Z,Z,Z,trivial⟩ Z Z Z Z Z Z Z Z Z) ?_)))));refine goMv Z Z (J (DD Z Z Z) (J (DD Z Z Z) (V (CF 3 Ic Z Z Z Z) (V (Bi Z Z Z Z Z Z Z JO) (AB Z Z (AD (AC (AE ?_))))))))
   cases hin:Gz N x
   ·refine goMv Z Z (AD (D9 Z (Z) (A3 ?_)))
    try have hnone:Tf N x=none:=by unfold Tf;split<;>first | exact hin | rfl
    refine AE (J (BA Z Z (AT (k+1) (by omega)) Z) (goMv Z Z (AD ?_)));exact ⟨k+1,⟨by show k+1≤_;omega,by rw [φ hk1];intro e he;rcases υ.1 he with he | he;exact hkb e he;rw [ξ.1 he,hxk];exact hnone⟩,by show N.nd.length - (k+1)<N.nd.length - k;omega,A1 hF [1,2,40,50,51] Z (Z) ⟨Z,Z,Z,Z,Z,Z,trivial⟩⟩
   ·refine goMv Z Z ?_;refine AD (DP Z (Z) (AC (AE (J (BM Z Z rw245 Z Z Z) (V (Bi Z Z Z Z Z Z Z JO) (V (Bi Z Z Z Z Z Z Z sz4) (AD (A8 ?_))))))));exact ⟨_,[40,50,51],_,A6 Z,Z,Z,by unfold FD;rw [Hl hk1 hkb (by rw [hxk];unfold Tf;rw [θ (by simpa using h25)];exact hin)];rfl,Z⟩
 ·refine BF (AC (AC ?_));have hnn:N.nd.findSome? (Tf N)=none:=LV (by have e:k=N.nd.length:=(by have h:=h18;omega);rw [e,ωs] at hkb;exact hkb);refine AE ?_;refine goMv Z Z (J (DO Z Z) (J (CS Z Ju Z Z Z) (J (Dv (f:=40) Z Z (hwb) Z Vj Z) (J (VC hpz Z Tryz.underlying177 Z) (goMv Z Z (AD (A5 (B7 (α:=Nat) (fun j=>⟨74,[(2,(.ptr 1 0 0)),(3,(.ptr 2 0 0)),(38,(.d (hdr N.mh N.po.length))),(39,(.d (AF (N.po.length:Int)))),(40,(.d (AF (j:Int))))],(1,[excB exc0])::(2,[.blk 4 [.d (Ai false)]])::HW mv bs L M⟩) (fun j=>j≤N.po.length∧∀y∈N.po.take j,XP N y=none) (fun j=>N.po.length - j) (0) (⟨ς _,by simp⟩) (A1 hF [1,2,40,50,51] Z Z ⟨Z,Z,Z,Z,Z,trivial⟩) ?_))))))));rintro j ⟨hj0,hjb⟩;refine AC (AE (J (BR Z Z Z) (AD (AC (Ae Z (fun h41=>?_) (fun h41=>?_))))))
  ·have hj1:j<N.po.length:=Bf h41;refine A3 (AC (A5 (AC ?_)))
   obtain ⟨y,hy⟩:∃y,N.po[j]? =some y:=⟨_,ω hj1⟩
   have hyk:N.po[j]=y:=by rw [ω hj1] at hy;injection hy
   have hym:=ζ hy;obtain ⟨hyb,hyq⟩:=h.pp j y hy;obtain ⟨rb,rc,hre⟩:=Ti hpr (j:=j) (by rw [ωg];exact hj1);have hrow:=Qk hpr hre;have hys:=hs y hym;have hov:=LP h hy y.sum (hw.rm y hym) (by omega);have hql:=hw.ql y hym;refine AE (J (Uy hre (j) Z Z Z hj1 Tryz.underlying177 Yu Z) (J (Zcs (f:=40) (e:=j) (off:=0) Z (by omega) Z (hrow) ((by rw [η,ψt hj1];rfl)) Z EX Z) ?_));refine V (CF 4 zl186 Z Z Z Z) (V (Bi Z Z Z Z Z Z Z Yu) (AD (AC (AC (Ch [[],[],[1],[1,2],[1,2,3],[0,1,2,3,4],[0,1,2,3,4,5]] mixed Z (Cq ?_))))));refine AJ [9] [4] Z Z (fun _=>AG (A9 Z Z Z EX Z)) (AJ [9] [4] Z Z (fun _=>AG (A9 Z Z Z EX Z)) (AJ [45] [] Z Z (fun _=>AG (DO Z Z)) (AJ [46] [] Z Z (fun _=>AG (CS Z Jr Z Z Z)) (AJ [47] [40] Z Z (fun _=>AG (Dv (f:=40) Z Z (hyb) Z Ke Z)) (C5 5 Z Z Z (Af 6 Z Z (V (E1 hov Z [40] ⟨Z,trivial⟩ Z Z Z Z Z Z Z Z Z) (AD ⟨Z,?_⟩))))))));refine Af 7 Z Z ?_
   cases hovy:Py y y.sum
   ·refine J (OC Z Z) (AD ⟨Z,?_⟩);refine C9 (DP Z (Z) (BF ?_));have hpnone:XP N y=none:=by unfold XP;first | (rw [ϑ (by rw [hovy];decide)]) | (rw [θ hovy,←ho];rfl)
    refine AE (J (BA Z Z (AT (j+1) (by omega)) Z) (goMv Z Z (AD ?_)));exact ⟨j+1,⟨by show j+1≤_;omega,by rw [φ hj1];intro e he;rcases υ.1 he with he | he;exact hjb e he;rw [ξ.1 he,hyk];exact hpnone⟩,by show N.po.length - (j+1)<N.po.length - j;omega,A1 hF [1,2,40,50,51] Z (Z) ⟨Z,Z,Z,Z,Z,trivial⟩⟩
   ·refine J (OC Z Z) (AD ⟨Z,?_⟩);refine C9 (D9 Z (Z) (A3 ?_));refine AC (AE (J (A9 Z Z Z EX Z) (J (DO Z Z) (J (CS Z Gn Z Z Z) (J (Dv (f:=40) Z Z (hyb) Z GG Z) (V (E1 (backF_c y.qh y.q.length) Z [] trivial Z Z Z Z Z Z Z Z Z) (AD (A5 ?_))))))));refine c8 [2,3,9,38,39,40,55] Z ?_;refine W8 (γ:=Option Nat) hFl 900 Z Z Z Z Z [1,2,4,40,50,51] (CHr:=hBk N y (pb j) mv bs L M none) (fun o=>o=y.q.reverse.find? (onN N)) (fun o=>hBk N y (pb j) mv bs L M o) (fun o=>stRO o.isSome) (fun o=>pdRO o.isSome) ⟨Z,Z,Z,Z,Z,Z,trivial⟩ Z Z Z (fun _=>rfl) (fun _=>rfl) Z (fun o _=>by cases o<;>simp [stRO]) (fun _ _=>⟨Z,Z⟩) [1,2,4,40,50,51] hF Z Z (fun _ _=>rfl) (fun l A B hA hB=>?_) (fun o ho=>?_)
    ·refine (back1_c nb y.q (by omega) hyq l (fun o:Option Nat=>(900,[.loop ⟨l,74,[(2,.ptr 1 0 0),(3,.ptr 2 0 0),(9,.ptr 4 0 0),(38,.d (hdr N.mh N.po.length)),(39,.d (AF (N.po.length:Int))),(40,.d (AF (j:Int))),(55,.fn bZ [.d (.ptr (hdr y.qh y.q.length))])],stRO o.isSome,pdRO o.isSome, #[56,57],A,B⟩])::hBk N y (pb j) mv bs L M o) [900,1,2,4,40,50,51] (HY N) none (fun _=>rfl) (fun _=>rfl) (fun _=>rfl) (fun _=>rfl) ?_).mono (fun r H' ⟨e1,e2⟩=>⟨e1,_,Z,by rw [e2,bX N y.q y.q.length (ν _),ωs]⟩);refine WQ N y.q (fun k2 hk2=>?_) y.q.length (ν _);have hni:y.q[k2]<N.nd.length:=h.q y hym _ (κ hk2)
     obtain ⟨x,hx⟩:∃x,N.nd[y.q[k2]]? =some x:=⟨_,ω hni⟩
     obtain ⟨hxb,_,_⟩:=h.nn _ x hx;have hgx:N.nd.getD y.q[k2] Bl=x:=by rw [ϖ,hx];rfl
     have hon:onN N y.q[k2]=x.on:=by unfold onN;rw [hgx]
     refine Qq (lf:=900) Z Z Z Z fun F hF hr=>(Bq.code hA (AE (AB Z Z (AD (⟨Z,_,_,Z,Z,Z,Z,?_⟩)))));refine Bq.code hB ?_;refine A5 (AC (AE (goMv Z Z (J (DO Z Z) (J (CS Z E7 Z Z Z) (J (Dv (f:=40) Z Z (hxb) Z on4 Z) (AD (KN Z (fun h61=>?_) (fun h61=>?_)))))))))
     ·refine AC (Ch [[],[0],[0,1],[0,1,2],[0,1,2,3],[],[5],[5,6],[5,6,7],[0,1,2,3,4,5,6,7,8],[0,1,2,3,4,5,6,7,8,9],[0,1,2,3,4,5,6,7,8,9,10]] mixed Z (Cq (AJ [11] [] Z Z (fun _=>AG (Ak Z Z)) (AJ [62] [] Z Z (fun _=>AG (DO Z Z)) (AJ [63] [] Z Z (fun _=>AG (CS Z Fe Z Z Z)) (AJ [64] [] Z Z (fun _=>AG (CS Z OB Z Z Z)) ?_))))));refine AJ [65] [40] Z Z (fun _=>AG (Dv (f:=40) Z Z (hxb) Z Aq Z)) (AJ [9] [4] Z Z (fun _=>AG (A9 Z Z Z EX Z)) (AJ [67] [] Z Z (fun _=>AG (DO Z Z)) (AJ [68] [] Z Z (fun _=>AG (CS Z MD Z Z Z)) (AJ [69] [40] Z Z (fun _=>AG (DH (f:=40) Z Z (hyb) C7 Z Z (by simp [D.one]) Z)) (C5 9 Z Z Z (Af 10 Z Z (J (FZ Ic Rj Z Z Z) (AD ⟨Z,?_⟩))))))));refine Af 11 Z Z (V (Bi Z Z Z Z Z Z Z JO) (AD ⟨Z,?_⟩));refine Af 12 Z Z (V (Bi Z Z Z Z Z Z Z sz4) (AD ⟨Z,?_⟩));refine C9 (A8 ?_);have ho1:onN N y.q[k2]=true:=by rw [hon];simpa using h61
      exact ⟨some .ret,_,_,[900,1,2,4,40,50,51],_,Z,Z,Z,Z,Z,Z,by rw [ho1];rfl,by rw [θ ho1];simp only [hBk,fndE,hgx];rfl⟩
     ·refine A3 ?_;have ho1:onN N y.q[k2]=false:=by rw [hon];simpa using h61
      exact ⟨none,_,_,[900,1,2,4,40,50,51],_,Z,Z,Z,Z,Z,Z,by rw [ho1];rfl,by rw [ϑ (by rw [ho1];decide)];rfl⟩
    ·rcases o with _ | i0
     ·have hpnone:XP N y=none:=by unfold XP;first | (rw [ϑ (by rw [hovy];decide)]) | (rw [θ hovy,←ho];rfl)
      refine AE (J (BA Z Z (AT (j+1) (by omega)) Z) (goMv Z Z (AD ?_)));exact ⟨j+1,⟨by show j+1≤_;omega,by rw [φ hj1];intro e he;rcases υ.1 he with he | he;exact hjb e he;rw [ξ.1 he,hyk];exact hpnone⟩,by show N.po.length - (j+1)<N.po.length - j;omega,A1 hF [1,2,40,50,51] Z (Z) ⟨Z,Z,Z,Z,Z,trivial⟩⟩
     ·show Bq _ _ .ret _ _;refine A8 ?_;exact ⟨_,[40,50,51],_,A6 Z,Z,Z,by unfold FD;rw [hnn];dsimp only;rw [Hl hj1 hjb (by rw [hyk];unfold XP;rw [θ hovy,←ho];rfl)];rfl,Z⟩
  ·refine BF (AC (AE (J (FZ Ic Rj Z Z Z) (V (Bi Z Z Z Z Z Z Z JO) (V (Bi Z Z Z Z Z Z Z sz4) (AD (A8 ?_)))))));exact ⟨_,[40,50,51],_,A6 Z,Z,Z,by unfold FD;rw [hnn];dsimp only;rw [LV (by have e:j=N.po.length:=(by have h:=h41;omega);rw [e,ωs] at hjb;exact hjb)];rfl,Z⟩
theorem SR.splitH {F:Fr} {s:AS} {ρ:Nat ->Nat ->Value} {act:Act} {w:World} (hs:SR F s ρ act w) (t g f:Nat) {M:MF} {T:TypeId} {kk m:Nat} {h:Hd} {xs:List D} {env':List (Nat×AV)} {hp1 hp':Hp} (hne:Nat.beq g f=false)
  (ht:get s.env t=some (.d (hdr h m))) (hn:m=xs.length) (hM:hfam s.hp f=some [.multi M]) (hr:BJ M h T kk xs) (hE:AZ g s.env=some env') (hH:AX g s.hp=some hp1) (hz:hfam hp1 g=none) (hm:B1 hp1 f (B6 M h)=some hp'):
  ∃v,SR F ⟨s.n,(t,.own g 0 m)::env',(g,[.rowD T kk xs])::hp'⟩ (upd ρ g 0 v) act w:=by
 match h,ht,hr,hm with
 | some (b,cap),ht,hr,hm=>exact ⟨_,hs.splitR t g f (cap:=cap) (b:=b) hne ht hn hM hr.2 hE hH hz hm⟩
 | none,ht,hr,hm=>
  have hxs:xs=[]:=hr;subst hxs hn;have hgf:g≠f:=ψg hne;refine ⟨.slice none 0 0,?_⟩
  have hhp:hp'=hp1:=by
   have key:∀(H H':Hp),hfam H f=some [.multi M] ->B1 H f M=some H' ->H'=H:=by
    intro H
    induction H with
    | nil=>intro H' h;cases h
    | cons p r ih=>
     obtain ⟨k,l⟩:=p;intro H' h1 h2;simp only [hfam] at h1;simp only [B1] at h2
     cases hk:Nat.beq k f with
     | true=>
      rw [hk] at h1 h2;injection h1 with h1
      subst h1;simp only [isM] at h2;injection h2 with h2;exact h2.symm
     | false=>
      rw [hk] at h1 h2;dsimp only at h1 h2
      cases hr:B1 r f M with
      | none=>rw [hr] at h2;cases h2
      | some r'=>
       rw [hr] at h2;injection h2 with h2
       rw [←h2,ih r' h1 hr]
   obtain ⟨a1,a2⟩:=Ar hH
   have hM1:hfam hp1 f=some [.multi M]:=by
    have key2:∀(H H':Hp),Bx (BX g) H=some H' ->hfam H f=some [.multi M] ->hfam H' f=some [.multi M]:=by
     intro H
     induction H with
     | nil=>intro H' _ h;cases h
     | cons p r ih=>
      obtain ⟨k,l⟩:=p;intro H' h1 h2;simp only [Bx] at h1
      cases hr:Bx (BX g) r with
      | none=>rw [hr] at h1;cases h1
      | some r'=>
       rw [hr] at h1
       cases hl:D3 (BX g) l with
       | none=>rw [hl] at h1;cases h1
       | some l'=>
        rw [hl] at h1;injection h1 with h1;subst h1
        simp only [hfam] at h2⊢
        cases hk:Nat.beq k f with
        | true=>
         rw [hk] at h2;injection h2 with h2;subst h2
         simp only [D3,Bw] at hl;injection hl with hl;rw [←hl]
        | false=>rw [hk] at h2;exact ih r' hr h2
    exact key2 _ _ hH hM
   exact key hp1 hp' hM1 hm
  rw [hhp]
  have h1:SR F ⟨s.n,(t,.d (.sl (some true) []))::s.env,s.hp⟩ ρ act w:=⟨hs.size,hs.defs,fun t' a ha=>by
   rcases KJ ha with ⟨rfl,rfl⟩ | ⟨_,ha⟩
   ·have hr:=hs.env t _ ht
    generalize act.tmps.getD t undef=x at hr⊢
    cases hr with
    | d h=>cases h with
     | raw _=>exact .d (.sl 0 (fun b hb=>by cases hb;rfl) (fun _=>rfl) Z (ν _) (ς _) (fun x hx=>by cases hx) (fun h=>absurd Z h) (fun b o hb=>by cases hb))
   ·exact hs.env t' a ha,hs.heap⟩
  obtain ⟨k1,k2⟩:=Ar hH
  have hz':∀i,hget s.hp g i=none:=fun i=>by
   cases hq:hget s.hp g i with
   | none=>rfl
   | some o=>
    obtain ⟨o2,q1,_⟩:=k2 _ _ _ hq;unfold hget at q1;rw [hz] at q1;cases q1
  have h2:=hs.set g 0 (.rowD T kk []) (.slice none 0 0) (hp':=(g,[.rowD T kk []])::hp1) hE hH (fun f' i=>by
   by_cases e:g=f'
   ·subst e;simp only [hget,hfam,χi,ψx,true_and,Ko (o:= .rowD T kk []) Z,hz,Option.bind_none]
    cases i<;>simp
   ·simp only [hget,hfam,Eb e]
    rw [ϑ (fun hh=>e hh.1.symm)]) (fun t cs e=>by rw [hz'] at e;cases e) (fun b hb=>by cases hb) Z Z Z (ν _) (fun _ _ _=>rfl) (fun _=>⟨[],World.ownsRow_nil w 0 T kk,⟨by simp,by simp,fun i x hx=>by simp at hx⟩,by simp⟩)
  refine ⟨h2.size,h2.defs,fun t' a ha=>?_,h2.heap⟩;rcases KJ ha with ⟨rfl,rfl⟩ | ⟨_,ha⟩
  ·have hr:=hs.env t _ ht
   generalize act.tmps.getD t undef=x at hr⊢
   cases hr with
   | d h=>cases h with | raw _=>exact .own OW (ν _)
  ·exact h2.env t' a ha
section
variable {P:Program} {F:Fr} {Q:Exit ->AS ->Prop} {c:Code} {ops:Array Oper} {l:List Oper} {n:Nat} {env env1 env':List (Nat×AV)} {hp hp1 hp2 hp3:Hp}
theorem G0 {o:Oper} (t g f:Nat) {M:MF} {T:TypeId} {kk m:Nat} {h:Hd} {xs:List D} {hp':Hp} {s2:AS} (hr:BJ M h T kk xs) (hne:Nat.beq g f=false) (ht:get env t=some (.d (hdr h m))) (hn:m=xs.length) (hM:hfam hp f=some [.multi M]) (hE:AZ g env=some env') (hH:AX g hp=some hp1) (hz:hfam hp1 g=none) (hm:B1 hp1 f (B6 M h)=some hp')
  (h2:AI P F o ⟨n,(t,.own g 0 m)::env',(g,[.rowD T kk xs])::hp'⟩ s2 (BX g)):AI P F o ⟨n,env,hp⟩ s2 (BX g):=fun ρ act w hs=>by
 obtain ⟨v,h1⟩:=hs.splitH t g f hne ht hn hM hr hE hH hz hm;exact Zcr (fun a w' ⟨ρ',h3,h4⟩=>⟨ρ',h3,fun f i hfi=>(h4 f i hfi).trans (MN fun e=>Qc hfi e.1)⟩) (h2 _ act w h1)
end
theorem CB.row {wb mv:Nat} {nb pb:Nat ->Nat} {N N':Net} {M:MF} (h:CB wb mv nb pb N M) (r0:RI) {w0 w1:RowM} (e0:CT nb pb N r0=w0) (e1:CT nb pb N' r0=w1) (hR:∀r,r≠r0 ->CT nb pb N' r=CT nb pb N r) {b cap:Nat} (hb:B6 M w0.h b=none) (h0:w1.h=some (b,cap)) (hl:w1.xs.length≤cap):
  FP (BQ (B6 M w0.h) b (.row w1.t w1.k cap w1.xs)) (CT nb pb N')∧∀(b':Nat) (t:TypeId) (cs:List D),M b'=some (.cells t cs) ->BQ (B6 M w0.h) b (.row w1.t w1.k cap w1.xs) b'=some (.cells t cs):=by
 subst e0 e1;refine ⟨h.rs.upd r0 hR hb h0 hl,fun b' t cs hm=>keepM hb hm fun c hc=>?_⟩;have:=h.rs.blk hc;rw [hm] at this;cases this
theorem CB.putNd {wb mv:Nat} {nb pb:Nat ->Nat} {N:Net} {M M1:MF} (h:CB wb mv nb pb N M) {i:Nat} {x x':Nd} (hx:N.nd[i]? =some x) (hc:∀(b':Nat) (t:TypeId) (cs:List D),M b'=some (.cells t cs) ->M1 b'=some (.cells t cs)) (hr:FP M1 (CT nb pb {N with nd:=N.nd.set i x'})) (he:(∀e∈x'.ef,e.1<N.po.length)∧∀e∈x'.pl,e.1<N.po.length):
  CB wb mv nb pb {N with nd:=N.nd.set i x'} (BQ M1 (nb i) (Tg x')):=by
 have hb:=h.n i x hx;have hil:=(χ.1 hx).1
 have hne:∀(b:Nat) (t:TypeId) (cs:List D),t≠184 ->M b=some (.cells t cs) ->BQ M1 (nb i) (Tg x') b=some (.cells t cs):=fun b t cs ht hm=>by
  rw [FR]
  ·exact hc _ _ _ hm
  ·rintro rfl;rw [hb] at hm;injection hm with hm;injection hm with hm;exact ht hm.symm
 refine ⟨fun j z hz=>?_,fun j y hy=>hne _ _ _ (by decide) (h.p j y hy),hr.cells (hc _ _ _ hb),?_,fun j k hj hk=>h.ni j k (by simpa using hj) (by simpa using hk),h.pi,fun z hz=>?_,fun y hy=>?_⟩
 ·have hz2:(N.nd.set i x')[j]? =some z:=hz
  clear hz
  have hjl:j<N.nd.length:=by have:=(χ.1 hz2).1;rw [ψd] at this;exact this
  rw [χo] at hz2
  split at hz2
  ·rename_i e;subst e
   have e2:z=x':=by first | exact (Option.some.inj hz2).symm | (rw [θ hil] at hz2;exact (Option.some.inj hz2).symm)
   rw [e2];exact E2 _ _ _
  ·rename_i e
   rw [FR]
   ·exact hc _ _ _ (h.n j z hz2)
   ·intro e2;exact e (h.ni j i hjl hil e2).symm
 ·show BQ M1 (nb i) (Tg x') wb=some (.cells _ [hdr N.nh (N.nd.set i x').length,hdr N.mh N.po.length,_]);rw [ψd];exact hne _ _ _ (by decide) h.w
 ·rcases χe hz with hz | rfl
  ·exact h.e z hz
  ·exact he
 ·have:=h.q y hy
  simpa using this
theorem CB.putPo {wb mv:Nat} {nb pb:Nat ->Nat} {N:Net} {M M1:MF} (h:CB wb mv nb pb N M) {j:Nat} {y y':Po} (hy:N.po[j]? =some y) (hc:∀(b':Nat) (t:TypeId) (cs:List D),M b'=some (.cells t cs) ->M1 b'=some (.cells t cs)) (hr:FP M1 (CT nb pb {N with po:=N.po.set j y'})) (hq:∀i∈y'.q,i<N.nd.length):
  CB wb mv nb pb {N with po:=N.po.set j y'} (BQ M1 (pb j) (Te y')):=by
 have hb:=h.p j y hy;have hjl:=(χ.1 hy).1
 have hne:∀(b:Nat) (t:TypeId) (cs:List D),t≠190 ->M b=some (.cells t cs) ->BQ M1 (pb j) (Te y') b=some (.cells t cs):=fun b t cs ht hm=>by
  rw [FR]
  ·exact hc _ _ _ hm
  ·rintro rfl;rw [hb] at hm;injection hm with hm;injection hm with hm;exact ht hm.symm
 refine ⟨fun i x hx=>hne _ _ _ (by decide) (h.n i x hx),fun i z hz=>?_,hr.cells (hc _ _ _ hb),?_,h.ni,fun i k hi hk=>h.pi i k (by simpa using hi) (by simpa using hk),fun x hx=>?_,fun z hz=>?_⟩
 ·have hz2:(N.po.set j y')[i]? =some z:=hz
  clear hz
  have hil:i<N.po.length:=by have:=(χ.1 hz2).1;rw [ψd] at this;exact this
  rw [χo] at hz2
  split at hz2
  ·rename_i e;subst e
   have e2:z=y':=by first | exact (Option.some.inj hz2).symm | (rw [θ hjl] at hz2;exact (Option.some.inj hz2).symm)
   rw [e2];exact E2 _ _ _
  ·rename_i e
   rw [FR]
   ·exact hc _ _ _ (h.p i z hz2)
   ·intro e2;exact e (h.pi i j hil hjl e2).symm
 ·show BQ M1 (pb j) (Te y') wb=some (.cells _ [hdr N.nh N.nd.length,hdr N.mh (N.po.set j y').length,_]);rw [ψd];exact hne _ _ _ (by decide) h.w
 ·have:=h.e x hx
  simpa using this
 ·rcases χe hz with hz | rfl
  ·exact h.q z hz
  ·exact hq
abbrev effT:TypeId:=188
abbrev plaT:TypeId:=254
abbrev Zk:TypeId:=176
abbrev V7:TypeId:=186
def FN (x:Nd) (b cap:Nat) (e:Nat×Int):Nd:={x with eh:=some (b,cap),ef:=x.ef++ [e]}
def Hy (x:Nd) (b cap:Nat) (e:Nat×Nat):Nd:={x with ph:=some (b,cap),pl:=x.pl++ [e]}
def KI (y:Po) (b cap:Nat) (i:Nat):Po:={y with qh:=some (b,cap),q:=y.q++ [i]}
theorem CB.addE {wb mv:Nat} {nb pb:Nat ->Nat} {N:Net} {M:MF} (h:CB wb mv nb pb N M) {i:Nat} {x:Nd} (hx:N.nd[i]? =some x) (e:Nat×Int) (he:e.1<N.po.length) {b cap:Nat} (hb:B6 M x.eh b=none) (hl:((x.ef++ [e]).map (bh pb)).length≤cap):
  CB wb mv nb pb {N with nd:=N.nd.set i (FN x b cap e)} (BQ (BQ (B6 M x.eh) b (.row effT 2 cap ((x.ef++ [e]).map (bh pb)))) (nb i) (Tg (FN x b cap e))):=by
 have hil:=(χ.1 hx).1
 obtain ⟨h1,h2⟩:=h.row (N':={N with nd:=N.nd.set i (FN x b cap e)}) (.e i) (w0:=⟨x.eh,effT,2,x.ef.map (bh pb)⟩) (w1:=⟨some (b,cap),effT,2,(x.ef++ [e]).map (bh pb)⟩)
  (by show (⟨(N.nd.getD i Bl).eh,_,_,(N.nd.getD i Bl).ef.map _⟩:RowM)=_;rw [Fd hx])
  (by show (⟨((N.nd.set i (FN x b cap e)).getD i Bl).eh,_,_,((N.nd.set i (FN x b cap e)).getD i Bl).ef.map _⟩:RowM)=_;rw [ca hil,θ rfl];rfl)
  (fun r hr=>by
   cases r with
   | q j=>rfl
   | m=>rfl
   | n=>show (⟨_,_,_,(List.range (N.nd.set i (FN x b cap e)).length).map _⟩:RowM)=_;rw [ψd];rfl
   | e k=>
    show (⟨((N.nd.set i (FN x b cap e)).getD k Bl).eh,_,_,((N.nd.set i (FN x b cap e)).getD k Bl).ef.map _⟩:RowM)=⟨(N.nd.getD k Bl).eh,_,_,(N.nd.getD k Bl).ef.map _⟩
    rw [ca hil,ϑ (fun e=>hr (by rw [e]))]
   | p k=>
    show (⟨((N.nd.set i (FN x b cap e)).getD k Bl).ph,_,_,((N.nd.set i (FN x b cap e)).getD k Bl).pl.map _⟩:RowM)=⟨(N.nd.getD k Bl).ph,_,_,(N.nd.getD k Bl).pl.map _⟩
    rw [ca hil,GL hx k Bl]
    split<;>rfl) hb Z hl
 refine h.putNd hx h2 h1 ⟨fun z hz=>?_,(h.e x (ζ hx)).2⟩;rcases υ.1 hz with hz | hz
 ·exact (h.e x (ζ hx)).1 z hz
 ·rw [ξ.1 hz];exact he
theorem CB.addP {wb mv:Nat} {nb pb:Nat ->Nat} {N:Net} {M:MF} (h:CB wb mv nb pb N M) {i:Nat} {x:Nd} (hx:N.nd[i]? =some x) (e:Nat×Nat) (he:e.1<N.po.length) {b cap:Nat} (hb:B6 M x.ph b=none) (hl:((x.pl++ [e]).map (plD pb)).length≤cap):
  CB wb mv nb pb {N with nd:=N.nd.set i (Hy x b cap e)} (BQ (BQ (B6 M x.ph) b (.row plaT 2 cap ((x.pl++ [e]).map (plD pb)))) (nb i) (Tg (Hy x b cap e))):=by
 have hil:=(χ.1 hx).1
 obtain ⟨h1,h2⟩:=h.row (N':={N with nd:=N.nd.set i (Hy x b cap e)}) (.p i) (w0:=⟨x.ph,plaT,2,x.pl.map (plD pb)⟩) (w1:=⟨some (b,cap),plaT,2,(x.pl++ [e]).map (plD pb)⟩)
  (by show (⟨(N.nd.getD i Bl).ph,_,_,(N.nd.getD i Bl).pl.map _⟩:RowM)=_;rw [Fd hx])
  (by show (⟨((N.nd.set i (Hy x b cap e)).getD i Bl).ph,_,_,((N.nd.set i (Hy x b cap e)).getD i Bl).pl.map _⟩:RowM)=_;rw [ca hil,θ rfl];rfl)
  (fun r hr=>by
   cases r with
   | q j=>rfl
   | m=>rfl
   | n=>show (⟨_,_,_,(List.range (N.nd.set i (Hy x b cap e)).length).map _⟩:RowM)=_;rw [ψd];rfl
   | p k=>
    show (⟨((N.nd.set i (Hy x b cap e)).getD k Bl).ph,_,_,((N.nd.set i (Hy x b cap e)).getD k Bl).pl.map _⟩:RowM)=⟨(N.nd.getD k Bl).ph,_,_,(N.nd.getD k Bl).pl.map _⟩
    rw [ca hil,ϑ (fun e=>hr (by rw [e]))]
   | e k=>
    show (⟨((N.nd.set i (Hy x b cap e)).getD k Bl).eh,_,_,((N.nd.set i (Hy x b cap e)).getD k Bl).ef.map _⟩:RowM)=⟨(N.nd.getD k Bl).eh,_,_,(N.nd.getD k Bl).ef.map _⟩
    rw [ca hil,GL hx k Bl]
    split<;>rfl) hb Z hl
 refine h.putNd hx h2 h1 ⟨(h.e x (ζ hx)).1,fun z hz=>?_⟩;rcases υ.1 hz with hz | hz
 ·exact (h.e x (ζ hx)).2 z hz
 ·rw [ξ.1 hz];exact he
theorem CB.addQ {wb mv:Nat} {nb pb:Nat ->Nat} {N:Net} {M:MF} (h:CB wb mv nb pb N M) {j:Nat} {y:Po} (hy:N.po[j]? =some y) {i:Nat} (hi:i<N.nd.length) {b cap:Nat} (hb:B6 M y.qh b=none) (hl:((y.q++ [i]).map fun i=>BK (nb i)).length≤cap):
  CB wb mv nb pb {N with po:=N.po.set j (KI y b cap i)} (BQ (BQ (B6 M y.qh) b (.row Zk 1 cap ((y.q++ [i]).map fun i=>BK (nb i)))) (pb j) (Te (KI y b cap i))):=by
 have hjl:=(χ.1 hy).1
 obtain ⟨h1,h2⟩:=h.row (N':={N with po:=N.po.set j (KI y b cap i)}) (.q j) (w0:=⟨y.qh,Zk,1,y.q.map fun i=>BK (nb i)⟩) (w1:=⟨some (b,cap),Zk,1,(y.q++ [i]).map fun i=>BK (nb i)⟩)
  (by show (⟨(N.po.getD j CV).qh,_,_,(N.po.getD j CV).q.map _⟩:RowM)=_;rw [Fd hy])
  (by show (⟨((N.po.set j (KI y b cap i)).getD j CV).qh,_,_,((N.po.set j (KI y b cap i)).getD j CV).q.map _⟩:RowM)=_;rw [ca hjl,θ rfl];rfl)
  (fun r hr=>by
   cases r with
   | e k=>rfl
   | p k=>rfl
   | n=>rfl
   | m=>show (⟨_,_,_,(List.range (N.po.set j (KI y b cap i)).length).map _⟩:RowM)=_;rw [ψd];rfl
   | q k=>
    show (⟨((N.po.set j (KI y b cap i)).getD k CV).qh,_,_,((N.po.set j (KI y b cap i)).getD k CV).q.map _⟩:RowM)=⟨(N.po.getD k CV).qh,_,_,(N.po.getD k CV).q.map _⟩
    rw [ca hjl,ϑ (fun e=>hr (by rw [e]))]) hb Z hl
 refine h.putPo hy h2 h1 fun z hz=>?_;rcases υ.1 hz with hz | hz
 ·exact h.q y (ζ hy) z hz
 ·rw [ξ.1 hz];exact hi
def EC (x:Nd):Nd:={x with eh:=none,ph:=none}
def CR (y:Po):Po:={y with qh:=none}
def Au (N:Net):Net:=⟨N.nd.map EC,N.po.map CR,none,none⟩
def jnX (x:Nd) (j:Nat) (n:Nat) (a:Int):Nd:={x with ef:=x.ef++ [(j,a)],pl:=if a<0 then x.pl++ [(j,n)] else x.pl}
def jnY (y:Po) (i:Nat) (a:Int):Po:={y with sum:=y.sum+a,q:=if a<0 then y.q++ [i] else y.q}
theorem CB.keepE {wb mv:Nat} {nb pb:Nat ->Nat} {N:Net} {M:MF} (h:CB wb mv nb pb N M) {i:Nat} {x:Nd} (hx:N.nd[i]? =some x) {b:Nat} (hb:B6 M x.eh b=none) {v:Ad} {b':Nat} {t:TypeId} {cs:List D} (hm:M b'=some (.cells t cs)):BQ (B6 M x.eh) b v b'=some (.cells t cs):=
 keepM hb hm fun c hc=>by have:=Qk (h.nn i x hx).2.1 hc;rw [hm] at this;cases this
theorem CB.keepP {wb mv:Nat} {nb pb:Nat ->Nat} {N:Net} {M:MF} (h:CB wb mv nb pb N M) {i:Nat} {x:Nd} (hx:N.nd[i]? =some x) {b:Nat} (hb:B6 M x.ph b=none) {v:Ad} {b':Nat} {t:TypeId} {cs:List D} (hm:M b'=some (.cells t cs)):BQ (B6 M x.ph) b v b'=some (.cells t cs):=
 keepM hb hm fun c hc=>by have:=Qk (h.nn i x hx).2.2 hc;rw [hm] at this;cases this
theorem CB.keepQ {wb mv:Nat} {nb pb:Nat ->Nat} {N:Net} {M:MF} (h:CB wb mv nb pb N M) {j:Nat} {y:Po} (hy:N.po[j]? =some y) {b:Nat} (hb:B6 M y.qh b=none) {v:Ad} {b':Nat} {t:TypeId} {cs:List D} (hm:M b'=some (.cells t cs)):BQ (B6 M y.qh) b v b'=some (.cells t cs):=
 keepM hb hm fun c hc=>by have:=Qk (h.pp j y hy).2 hc;rw [hm] at this;cases this
set_option maxHeartbeats 1000000 in
theorem join_c {wb mv:Nat} {nb pb:Nat ->Nat} {N:Net} {M:MF} (h:CB wb mv nb pb N M) {i j:Nat} {x:Nd} {y:Po} (hx:N.nd[i]? =some x) (hy:N.po[j]? =some y) (a:Int) (ha: -100000000000000000≤a∧a≤100000000000000000) (hs: -1000000000000000000≤y.sum∧y.sum≤1000000000000000000) (he:x.ef.length≤100000) (hp:x.pl.length≤100000) (hq:y.q.length≤100000):
  AM Tryz.prog 144 [.d (pD (nb i) 0),.d (pD (pb j) 0),.d (AF a)] (HN M) fun r H'=>r= .tup []∧∃N' M',H'=HN M'∧CB wb mv nb pb N' M'∧N'.nh=N.nh∧N'.mh=N.mh∧(∃x',N'.nd=N.nd.set i x'∧EC x'=EC (jnX x j y.q.length a))∧∃y',N'.po=N.po.set j y'∧CR y'=CR (jnY y i a):=by
 have hxb:=h.n i x hx;have hre:=(h.nn i x hx).2.1;have hrp:=(h.nn i x hx).2.2;have hil:=(χ.1 hx).1;have hjl:=(χ.1 hy).1;have hqz:=T8 (h.pp j y hy).2;refine BB Tryz.func144 Z Z Tryz.ntmps144 Z Z Z fun F hF=>?_;refine AC (AE (goMv Z Z (goMv Z Z (J (DO Z Z) (J (CS Z Jt Z Z Z) (J (Dv (f:=40) Z Z (hxb) Z Vh Z) (goMv Z Z (goMv Z Z ?_))))))));refine J (FZ Y5 pl188 Z Z Z) (V (D7 1 sl181 Z Z Z Z Z Z Z Z) (V (G0 10 60 40 hre Z Z (by simp) Z Z Z Z Z (Hz (emb:=bh pb) x.ef [(j,a)] Z Z Z Z Z Z Z Z sl181 (by simp only [Φ];omega) Z Z Z Z)) (Eh 15 60 40 hF Z Z Z (by simp) (by simp) Z Z Z Z Z Z Z (fun _ _=>rfl) fun b1 c1 hb1 hc1=>(J (DO Z Z) (J (CS Z Jt Z Z Z) (V (OX (f:=40) Z Z Z Z (h.keepE hx hb1 hxb) ((by show _<9;omega)) Z sz181) (AD (AC ?_))))))));have hR1:=h.addE hx (j,a) hjl hb1 hc1;have hyb:=hR1.p j y hy;refine AE (goMv Z Z (J (DO Z Z) ?_));refine J (CS Z Jr Z Z Z) (J (Dv (f:=40) Z Z (hyb) Z Ke Z) (goMv Z Z (J (BA Z Z (Ω _ (by omega)) Z) (J (DO Z Z) (J (CS Z Jr Z Z Z) (V (OX (f:=40) Z Z Z Z (hyb) ((by show _<10;omega)) Z sz2) (AD (AC ?_))))))));have hR2:=hR1.setPo (y':={y with sum:=y.sum+a}) hy Z Z;have hx2:(N.nd.set i (FN x b1 c1 (j,a)))[i]? =some (FN x b1 c1 (j,a)):=List.getElem?_set_self hil;have hy2:(N.po.set j {y with sum:=y.sum+a})[j]? =some {y with sum:=y.sum+a}:=List.getElem?_set_self hjl;have hx2b:=hR2.n i _ hx2;have hy2b:=hR2.p j _ hy2;have hrp2:=(hR2.nn i _ hx2).2.2;refine AE (goMv Z Z (J (BR Z Z Z) (AD (Ae Z (fun h27=>?_) (fun h27=>?_)))))
 ·refine AC (Ch [[],[],[1],[1,2],[1,2,3],[],[],[6],[6,7],[6,7,8],[6,7,8,9],[5,6,7,8,9,10],[5,6,7,8,9,10,11],[1,2,3,4,5,6,7,8,9,10,11,12],[0,1,2,3,4,5,6,7,8,9,10,11,12,13],[0,1,2,3,4,5,6,7,8,9,10,11,12,13,14],[0,1,2,3,4,5,6,7,8,9,10,11,12,13,14,15]] mixed Z (Cq (AJ [0] [] Z Z (fun _=>AG (Ak Z Z)) ?_)));refine AJ [0] [] Z Z (fun _=>AG (Ak Z Z)) (AJ [29] [] Z Z (fun _=>AG (DO Z Z)) (AJ [30] [] Z Z (fun _=>AG (CS Z Js Z Z Z)) (AJ [31] [40] Z Z (fun _=>AG (Dv (f:=40) Z Z (hx2b) Z Vg Z)) (AJ [1] [] Z Z (fun _=>AG (Ak Z Z)) (AJ [1] [] Z Z (fun _=>AG (Ak Z Z)) (AJ [34] [] Z Z (fun _=>AG (DO Z Z)) (AJ [35] [] Z Z (fun _=>AG (CS Z Gn Z Z Z)) (AJ [36] [40] Z Z (fun _=>AG (Dv (f:=40) Z Z (hy2b) Z GG Z)) ?_))))))));refine AJ [37] [] Z Z (fun _=>AG (VC hqz Z Tryz.underlying175 Z)) (AJ [33,38] [] Z Z (fun _=>AG (FZ VF pl254 Z Z Z)) (Gv [39] [2] [(40,_)] Z Z (fun _=>Gw (D7 2 sl182 Z Z Z Z Z Z Z Z)) (.inr ⟨40,_,Z,Z,Z,Z,Z⟩) Z Z Z Z Z (Gv [32,40] [61,40,2] [(41,_)] Z Z (fun _=>Gw (G0 32 61 40 hrp2 Z Z (by simp [FN]) Z Z Z Z Z (Hz (emb:=plD pb) x.pl [(j,y.q.length)] Z Z Z Z Z Z Z Z sl182 (by simp only [Φ];omega) Z Z Z Z))) (.inr ⟨41,_,Z,Z,Z,Z,Z⟩) Z Z Z Z Z (C5 14 Z Z Z (Af 15 Z Z (Eh 41 61 40 hF Z Z Z (by simp) (by simp) Z Z Z Z Z Z Z (fun _ _=>rfl) fun b2 c2 hb2 hc2=>(J (DO Z Z) (AD ⟨Z,?_⟩))))))));refine Af 16 Z Z (J (CS Z Js Z Z Z) (AD ⟨Z,?_⟩));refine Af 17 Z Z (V (OX (f:=40) Z Z Z Z (hR2.keepP hx2 hb2 hx2b) ((by show _<9;omega)) Z sz182) (AD ⟨Z,?_⟩));refine C9 ?_;have hR3:=hR2.addP hx2 (j,y.q.length) (by show j<(N.po.set j _).length;rw [ψd];exact hjl) hb2 hc2;have hy3b:=hR3.p j _ hy2;have hrq3:=(hR3.pp j _ hy2).2;refine AE (goMv Z Z (goMv Z Z (J (DO Z Z) (J (CS Z Gn Z Z Z) ?_))));refine J (Dv (f:=40) Z Z (hy3b) Z GG Z) (goMv Z Z (V (D7 3 V2 Z Z Z Z Z Z Z Z) (V (G0 48 62 40 hrq3 Z Z (by simp) Z Z Z Z Z (Hz (emb:=fun i=>BK (nb i)) y.q [i] Z Z Z Z Z Z Z Z V2 (by simp only [Φ];omega) Z Z Z Z)) (Eh 51 62 40 hF Z Z Z (by simp) (by simp) Z Z Z Z Z Z Z (fun _ _=>rfl) fun b3 c3 hb3 hc3=>(J (DO Z Z) (J (CS Z Gn Z Z Z) (V (OX (f:=40) Z Z Z Z (hR3.keepQ hy2 hb3 hy3b) ((by show _<10;omega)) Z sz175) (AD ?_))))))));have hR4:=hR3.addQ hy2 (i:=i) (by show i<((N.nd.set i _).set i _).length;rw [ψd,ψd];exact hil) hb3 hc3;exact ⟨_,[40],_,A6 Z,Z,Z,Z,_,_,Z,hR4,Z,Z,⟨_,List.set_set _,by unfold EC Hy FN jnX;simp [h27]⟩,⟨_,List.set_set _,by unfold CR KI jnY;simp [h27]⟩⟩
 ·refine A3 ?_;exact ⟨_,[40],_,A6 Z,Z,Z,Z,_,_,Z,hR2,Z,Z,⟨_,Z,by unfold EC FN jnX;simp [h27]⟩,⟨_,Z,by unfold CR jnY;simp [h27]⟩⟩
end Go.Proofs.YteifpcnphnhaoaaGreat
