import Derived.Test.YteifpcnphnhaoaaGreatMg19
namespace Go.Proofs.YteifpcnphnhaoaaGreat
open Go.RowKit
set_option maxRecDepth 100000
abbrev Hd:=Option (Nat×Nat)
def hdrV:Hd ->Nat ->Value
 | none,_=> .slice none 0 0
 | some (b,c),n=>sV b n c
abbrev hdr (h:Hd) (n:Nat):D:= .raw (hdrV h n)
structure Nd where
 it:AK
 eh:Hd
 ef:List (Nat×Int)
 ph:Hd
 pl:List (Nat×Nat)
 on:Bool
structure Po where
 r:AP
 room:Int
 sum:Int
 qh:Hd
 q:List Nat
 mi:Nat
structure Net where
 nd:List Nd
 po:List Po
 nh:Hd
 mh:Hd
abbrev ndC (x:Nd):List D:=[AF x.it.id,AF x.it.pr,AF x.it.sq,.sl none (x.it.po.map Br),.sl none (x.it.pa.map E3),.sl none (x.it.af.map AF),hdr x.eh x.ef.length,hdr x.ph x.pl.length,Ak x.on]
abbrev poC (y:Po):List D:=[AF y.r.k,Ao y.r.acc.o,AF y.r.acc.k,Ao y.r.acc.a,Ao y.r.f,Ao y.r.t,AF y.room,AF y.sum,hdr y.qh y.q.length,AF (y.mi:Int)]
abbrev bY (pb:Nat ->Nat) (e:Nat×Int):D:= .agg [pD (pb e.1) 0,AF e.2]
abbrev plD (pb:Nat ->Nat) (e:Nat×Nat):D:= .agg [pD (pb e.1) 0,AF (e.2:Int)]
abbrev BL (b:Nat):D:=pD b 0
def BK (M:MF) (h:Hd) (t:TypeId) (k:Nat) (xs:List D):Prop:=match h with
 | none=>xs=[]
 | some (b,c)=>xs.length≤c∧M b=some (.row t k c xs)
abbrev T6 (x:Nd):Af:= .cells 184 (ndC x)
abbrev T4 (y:Po):Af:= .cells 190 (poC y)
theorem Tt {M:MF} {b:Nat} {t':TypeId} {cs:List D} {m':Af} (hb:M b=some (.cells t' cs)) {h:Hd} {t:TypeId} {k:Nat} {xs:List D} (hr:BK M h t k xs):BK (B1 M b m') h t k xs:=by
 match h,hr with
 | none,hr=>exact hr
 | some (b',c),hr=>
  refine ⟨hr.1,?_⟩;rw [Fs]
  ·exact hr.2
  ·rintro rfl;have h2:=hr.2;rw [hb] at h2;cases h2
abbrev K9 (v:Value):D:= .raw v
def CV:Po:=⟨⟨0,TP,[],[]⟩,0,0,none,[],0⟩
def Bl:Nd:=⟨AY,none,[],none,[],false⟩
structure RowM where
 h:Hd
 t:TypeId
 k:Nat
 xs:List D
inductive RI where
 | e (i:Nat)
 | p (i:Nat)
 | q (j:Nat)
 | n
 | m
def CT (nb pb:Nat ->Nat) (N:Net):RI ->RowM
 | .e i=>⟨(N.nd.getD i Bl).eh,188,2,(N.nd.getD i Bl).ef.map (bY pb)⟩
 | .p i=>⟨(N.nd.getD i Bl).ph,254,2,(N.nd.getD i Bl).pl.map (plD pb)⟩
 | .q j=>⟨(N.po.getD j CV).qh,176,1,(N.po.getD j CV).q.map fun i=>BL (nb i)⟩
 | .n=>⟨N.nh,176,1,(List.range N.nd.length).map fun i=>BL (nb i)⟩
 | .m=>⟨N.mh,186,1,(List.range N.po.length).map fun j=>BL (pb j)⟩
def FQ (M:MF) (R:RI ->RowM):Prop:=(∀r,BK M (R r).h (R r).t (R r).k (R r).xs)∧∀r r' b c c',(R r).h=some (b,c) ->(R r').h=some (b,c') ->r=r'
def B5 (M:MF):Hd ->MF
 | none=>M
 | some (b,_)=>Ea M b
theorem FQ.blk {M:MF} {R:RI ->RowM} (h:FQ M R) {r:RI} {b c:Nat} (hb:(R r).h=some (b,c)):M b=some (.row (R r).t (R r).k c (R r).xs):=by
 have:=h.1 r;rw [hb] at this;exact this.2
theorem Ix {M:MF} {h:Hd} {b:Nat} {m:Af} (hm:M b=some m) (hne:∀c,h≠some (b,c)):B5 M h b=some m:=by
 match h,hne with
 | none,_=>exact hm
 | some (b',c),hne=>
  show Ea M b' b=_;rw [Gd (fun e=>hne c (by rw [e]))];exact hm
theorem keepM {M:MF} {h:Hd} {b b':Nat} {m v:Af} (hb:B5 M h b=none) (hm:M b'=some m) (hne:∀c,h≠some (b',c)):B1 (B5 M h) b v b'=some m:=by
 have h1:=Ix hm hne;rw [Fs]
 ·exact h1
 ·rintro rfl;rw [hb] at h1;cases h1
theorem FQ.upd {M:MF} {R R':RI ->RowM} (h:FQ M R) (r0:RI) (hR:∀r,r≠r0 ->R' r=R r) {b cap:Nat} (hb:B5 M (R r0).h b=none) (h0:(R' r0).h=some (b,cap)) (hl:(R' r0).xs.length≤cap):FQ (B1 (B5 M (R r0).h) b (.row (R' r0).t (R' r0).k cap (R' r0).xs)) R':=by
 have hother:∀r,r≠r0 ->∀b' c,(R r).h=some (b',c) ->b'≠b:=fun r hr b' c hrb e=>by
  have h1:=h.blk hrb;have h2:=Ix (h:=(R r0).h) h1 fun c' hc'=>hr (h.2 r r0 b' c c' hrb hc');rw [e,hb] at h2;cases h2
 refine ⟨fun r=>?_,fun r r' b1 c c' h1 h2=>?_⟩
 ·by_cases e:r=r0
  ·subst e;rw [h0];exact ⟨hl,Fm _ _ _⟩
  ·rw [hR r e];have h1:=h.1 r
   cases hh:(R r).h with
   | none=>rw [hh] at h1;exact h1
   | some p=>
    obtain ⟨b',c⟩:=p;rw [hh] at h1;exact ⟨h1.1,keepM hb h1.2 fun c' hc'=>e (h.2 r r0 b' c c' hh hc')⟩
 ·by_cases e:r=r0<;>by_cases e':r'=r0
  ·rw [e,e']
  ·exfalso
   subst e;rw [h0] at h1;injection h1 with h1;injection h1 with h1 _
   rw [hR r' e'] at h2;exact hother r' e' b1 c' h2 h1.symm
  ·exfalso
   subst e';rw [h0] at h2;injection h2 with h2;injection h2 with h2 _
   rw [hR r e] at h1;exact hother r e b1 c h1 h2.symm
  ·rw [hR r e] at h1;rw [hR r' e'] at h2;exact h.2 r r' b1 c c' h1 h2
theorem FQ.cells {M:MF} {R:RI ->RowM} (h:FQ M R) {b:Nat} {t t':TypeId} {cs cs':List D} (_hb:M b=some (.cells t cs)):FQ (B1 M b (.cells t' cs')) R:=
 ⟨fun r=>Tt _hb (h.1 r),h.2⟩
structure CA (wb mv:Nat) (nb pb:Nat ->Nat) (N:Net) (M:MF):Prop where
 n:∀(i:Nat) x,N.nd[i]? =some x ->M (nb i)=some (T6 x)
 p:∀(j:Nat) y,N.po[j]? =some y ->M (pb j)=some (T4 y)
 rs:FQ M (CT nb pb N)
 w:M wb=some (.cells 180 [hdr N.nh N.nd.length,hdr N.mh N.po.length,K9 (.map (some mv))])
 ni:∀i j:Nat,i<N.nd.length ->j<N.nd.length ->nb i=nb j ->i=j
 pi:∀i j:Nat,i<N.po.length ->j<N.po.length ->pb i=pb j ->i=j
 e:∀x∈N.nd,(∀e∈x.ef,e.1<N.po.length)∧∀e∈x.pl,e.1<N.po.length
 q:∀y∈N.po,∀i∈y.q,i<N.nd.length
theorem F8 {α:Type} {l:List α} {i:Nat} {x d:α} (h:l[i]? =some x):l.getD i d=x:=by rw [ϱ,h];rfl
theorem CA.nn {wb mv:Nat} {nb pb:Nat ->Nat} {N:Net} {M:MF} (h:CA wb mv nb pb N M) (i:Nat) (x:Nd) (hx:N.nd[i]? =some x):M (nb i)=some (T6 x)∧BK M x.eh 188 2 (x.ef.map (bY pb))∧BK M x.ph 254 2 (x.pl.map (plD pb)):=by
 have h1:BK M (N.nd.getD i Bl).eh 188 2 ((N.nd.getD i Bl).ef.map (bY pb)):=h.rs.1 (.e i);have h2:BK M (N.nd.getD i Bl).ph 254 2 ((N.nd.getD i Bl).pl.map (plD pb)):=h.rs.1 (.p i);rw [F8 hx] at h1 h2;exact ⟨h.n i x hx,h1,h2⟩
theorem CA.pp {wb mv:Nat} {nb pb:Nat ->Nat} {N:Net} {M:MF} (h:CA wb mv nb pb N M) (j:Nat) (y:Po) (hy:N.po[j]? =some y):M (pb j)=some (T4 y)∧BK M y.qh 176 1 (y.q.map fun i=>BL (nb i)):=by
 have h1:BK M (N.po.getD j CV).qh 176 1 ((N.po.getD j CV).q.map fun i=>BL (nb i)):=h.rs.1 (.q j);rw [F8 hy] at h1;exact ⟨h.p j y hy,h1⟩
theorem cX {α:Type} {l:List α} {i:Nat} {x:α} (hi:i<l.length) (k:Nat) (d:α):(l.set i x).getD k d=if k=i then x else l.getD k d:=by
 rw [ϱ,χq,ϱ]
 by_cases e:k=i
 ·subst e;simp [hi]
 ·rw [ϑ (fun h=>e h.symm),ϑ e]
theorem GL {α:Type} {l:List α} {i:Nat} {x:α} (hx:l[i]? =some x) (k:Nat) (d:α):l.getD k d=if k=i then x else l.getD k d:=by
 by_cases e:k=i
 ·subst e;rw [κ Z,F8 hx]
 ·rw [ϑ e]
theorem CA.setPo {wb mv:Nat} {nb pb:Nat ->Nat} {N:Net} {M:MF} (h:CA wb mv nb pb N M) {j:Nat} {y y':Po} (hy:N.po[j]? =some y) (hq:y'.q=y.q) (hqh:y'.qh=y.qh):CA wb mv nb pb {N with po:=N.po.set j y'} (B1 M (pb j) (T4 y')):=by
 have hb:=h.p j y hy;have hjl:=(χ.1 hy).1
 have hR:CT nb pb {N with po:=N.po.set j y'}=CT nb pb N:=funext fun r=>by
  cases r with
  | e i=>rfl
  | p i=>rfl
  | n=>rfl
  | m=>show (⟨_,_,_,(List.range (N.po.set j y').length).map _⟩:RowM)=_;rw [ψd];rfl
  | q k=>
   show (⟨((N.po.set j y').getD k CV).qh,_,_,((N.po.set j y').getD k CV).q.map _⟩:RowM)=⟨(N.po.getD k CV).qh,_,_,(N.po.getD k CV).q.map _⟩
   rw [cX hjl,GL hy k CV]
   split
   ·rw [hq,hqh]
   ·rfl
 have hne:∀(b:Nat) (t:TypeId) (cs:List D),t≠190 ->M b=some (.cells t cs) ->B1 M (pb j) (T4 y') b=some (.cells t cs):=fun b t cs ht hm=>by
  rw [Fs]
  ·exact hm
  ·rintro rfl;rw [hb] at hm;injection hm with hm;injection hm with hm;exact ht hm.symm
 refine ⟨fun i x hx=>hne _ _ _ (by decide) (h.n i x hx),fun i z hz=>?_,by rw [hR];exact h.rs.cells hb,?_,h.ni,fun i k hi hk=>h.pi i k (by simpa using hi) (by simpa using hk),fun x hx=>?_,fun z hz=>?_⟩
 ·have hil:i<N.po.length:=by have:=(χ.1 hz).1;rw [ψd] at this;exact this
  have hz2:(N.po.set j y')[i]? =some z:=hz
  clear hz
  rw [χq] at hz2
  split at hz2
  ·rename_i e;subst e
   have e2:z=y':=(Option.some.inj hz2).symm;rw [e2];exact Fm _ _ _
  ·rename_i e
   rw [Fs]
   ·exact h.p i z hz2
   ·intro e2;exact e (h.pi i j hil hjl e2).symm
 ·show B1 M (pb j) (T4 y') wb=some (.cells _ [hdr N.nh N.nd.length,hdr N.mh (N.po.set j y').length,_]);rw [ψd];exact hne _ _ _ (by decide) h.w
 ·have:=h.e x hx
  simpa using this
 ·rcases χf hz with hz | rfl
  ·exact h.q z hz
  ·rw [hq];exact h.q y (ζ hy)
theorem CA.setNd {wb mv:Nat} {nb pb:Nat ->Nat} {N:Net} {M:MF} (h:CA wb mv nb pb N M) {i:Nat} {x x':Nd} (hx:N.nd[i]? =some x) (h1:x'.ef=x.ef) (h2:x'.eh=x.eh) (h3:x'.pl=x.pl) (h4:x'.ph=x.ph):CA wb mv nb pb {N with nd:=N.nd.set i x'} (B1 M (nb i) (T6 x')):=by
 have hb:=h.n i x hx;have hil:=(χ.1 hx).1
 have hR:CT nb pb {N with nd:=N.nd.set i x'}=CT nb pb N:=funext fun r=>by
  cases r with
  | q j=>rfl
  | m=>rfl
  | n=>show (⟨_,_,_,(List.range (N.nd.set i x').length).map _⟩:RowM)=_;rw [ψd];rfl
  | e k=>
   show (⟨((N.nd.set i x').getD k Bl).eh,_,_,((N.nd.set i x').getD k Bl).ef.map _⟩:RowM)=⟨(N.nd.getD k Bl).eh,_,_,(N.nd.getD k Bl).ef.map _⟩
   rw [cX hil,GL hx k Bl]
   split
   ·rw [h1,h2]
   ·rfl
  | p k=>
   show (⟨((N.nd.set i x').getD k Bl).ph,_,_,((N.nd.set i x').getD k Bl).pl.map _⟩:RowM)=⟨(N.nd.getD k Bl).ph,_,_,(N.nd.getD k Bl).pl.map _⟩
   rw [cX hil,GL hx k Bl]
   split
   ·rw [h3,h4]
   ·rfl
 have hne:∀(b:Nat) (t:TypeId) (cs:List D),t≠184 ->M b=some (.cells t cs) ->B1 M (nb i) (T6 x') b=some (.cells t cs):=fun b t cs ht hm=>by
  rw [Fs]
  ·exact hm
  ·rintro rfl;rw [hb] at hm;injection hm with hm;injection hm with hm;exact ht hm.symm
 refine ⟨fun j z hz=>?_,fun j y hy=>hne _ _ _ (by decide) (h.p j y hy),by rw [hR];exact h.rs.cells hb,?_,fun j k hj hk=>h.ni j k (by simpa using hj) (by simpa using hk),h.pi,fun z hz=>?_,fun y hy=>?_⟩
 ·have hjl:j<N.nd.length:=by have:=(χ.1 hz).1;rw [ψd] at this;exact this
  have hz2:(N.nd.set i x')[j]? =some z:=hz
  clear hz
  rw [χq] at hz2
  split at hz2
  ·rename_i e;subst e
   have e2:z=x':=(Option.some.inj hz2).symm;rw [e2];exact Fm _ _ _
  ·rename_i e
   rw [Fs]
   ·exact h.n j z hz2
   ·intro e2;exact e (h.ni j i hjl hil e2).symm
 ·show B1 M (nb i) (T6 x') wb=some (.cells _ [hdr N.nh (N.nd.set i x').length,hdr N.mh N.po.length,_]);rw [ψd];exact hne _ _ _ (by decide) h.w
 ·rcases χf hz with hz | rfl
  ·exact h.e z hz
  ·rw [h1,h3];exact h.e x (ζ hx)
 ·have:=h.q y hy
  simpa using this
abbrev HN (M:MF):Hp:=[(40,[.multi M])]
def aftP (y:Po) (c:Int):Int:=max y.room 0+c
def QC (y:Po) (c:Int):Bool:=decide (c<0∧aftP y c<0)
theorem after_c {wb mv:Nat} {nb pb:Nat ->Nat} {N:Net} {M:MF} (h:CA wb mv nb pb N M) {j:Nat} {y:Po} (hy:N.po[j]? =some y) (c:Int) (hr: -1000000000000000000≤y.room∧y.room≤1000000000000000000) (hc: -2000000000000000000≤c∧c≤2000000000000000000):
  AN Tryz.prog 198 [.d (pD (pb j) 0),.d (AF c)] (HN M) fun r H'=>r= .d (AF (aftP y c))∧H'=HN M:=by
 have hp:=h.p j y hy;have hm:(if 0>y.room then 0 else y.room)=max y.room 0:=by rw [Int.max_def];split<;>split<;>omega
 refine BB Tryz.func198 Z Z Tryz.ntmps198 Z Z Z fun F hF=>(AC (AE (AB Z Z (AD (AC (AE (goMv Z Z ?_)))))));refine J (DQ Z Z) (J (CS Z QV Z Z Z) (J (EX (f:=40) Z Z (hp) Z Kg Z) (J (Pp Z Z (hm) Z) (goMv Z Z (J (Ay Z Z (Υ _ (by omega)) Z) (AB Z Z (AD (A8 ?_))))))));exact ⟨_,[40],_,A7 Z,Z,Z,Z,Z⟩
theorem LR {wb mv:Nat} {nb pb:Nat ->Nat} {N:Net} {M:MF} (h:CA wb mv nb pb N M) {j:Nat} {y:Po} (hy:N.po[j]? =some y) (c:Int) (hr: -1000000000000000000≤y.room∧y.room≤1000000000000000000) (hc: -2000000000000000000≤c∧c≤2000000000000000000):
  AN Tryz.prog 150 [.d (pD (pb j) 0),.d (AF c)] (HN M) fun r H'=>r= .d (Ak (QC y c))∧H'=HN M:=by
 have ha:=after_c h hy c hr hc;refine BB Tryz.func150 Z Z Tryz.ntmps150 Z Z Z fun F hF=>(AC ?_);refine AE (AB Z Z (AD (AC (AE (goMv Z Z (J (BT Z Z Z) (goMv Z Z (Id 7 Z (fun h7=>?_) (fun h7=>?_)))))))))
 ·refine Ad Z Z Z (goMv Z Z (Ad Z Z Z ?_));refine goMv Z Z (Ad Z Z Z (V (Eu ha Z [40] ⟨Z,trivial⟩ Z Z Z Z Z Z Z Z Z) (Ad Z Z Z (J (BT Z Z Z) (J (fSq Z Z Z Z) (AB Z Z (AD (A8 ?_))))))));exact ⟨_,[40],_,A7 Z,Z,Z,Mk (by unfold QC;first | exact (ωp (by omega)).symm | exact decide_eq_decide.2 ⟨fun h=>⟨by omega,h⟩,fun h=>h.2⟩),Z⟩
 ·refine Aa Z Z Z Z (Aa Z Z Z Z (Aa Z Z Z Z (Aa Z Z Z Z (J (DR Z Z Z Z) (AB Z Z (AD (A8 ?_)))))));exact ⟨_,[40],_,A7 Z,Z,Z,Mk (by unfold QC;first | exact (ωp (by omega)).symm | exact decide_eq_decide.2 ⟨fun h=>⟨by omega,h⟩,fun h=>h.2⟩),Z⟩
section
variable {P:Program} {F:Fr} {s:AS} {d:Nat} {x y:Operand} {T E:TypeId} {ty:TypeId} {pos:String} {aft:Array Edge} {g:Option (Nat×Bool)} {k:IntKind} {i:Int}
theorem Ut {h:Hd} {n:Nat} (hz:h=none ->n=0) (hx:s.ev x=some (.d (hdr h n))) (hT:P.underlying T=some (.slice E)) (hd:Nat.blt d s.n=true):
  AA P F ⟨some d,.call {callee:= .builtin .len,args:= #[x],argTypes:= #[T]},ty,pos,aft,g⟩ s d (.d (AF (n:Int))):=by
 match h,hz,hx with
 | none,hz,hx=>
  have e:=hz rfl;subst e;exact VQ (a:=none) (n:=0) (cap:=0) hx hT hd
 | some (b,c),_,hx=>exact VQ (a:=some ⟨b,0,none⟩) (n:=n) (cap:=c) hx hT hd
theorem Up {h:Hd} {b c n kk:Nat} (he:h=some (b,c)) (m:Nat) (hx:s.ev x=some (.d (hdr h n))) (hy:s.ev y=some (.d (.raw (.int k i)))) (hi:i=(m:Int)) (hm:m<n) (hT:P.underlying T=some (.slice E)) (hE:AZ P E kk=true) (hd:Nat.blt d s.n=true):
  AA P F ⟨some d,.indexAddr T x y,ty,pos,aft,g⟩ s d (.d (pD b (m*kk))):=by
 subst he;exact Wr m hx hy hi hm hT hE hd
end
theorem TW {M:MF} {h:Hd} {t:TypeId} {k:Nat} {α:Type} {f:α ->D} {l:List α} (hr:BK M h t k (l.map f)):h=none ->l.length=0:=fun e=>by
 subst e;have:l.map f=[]:=hr
 simpa using this
theorem T8 {M:MF} {h:Hd} {t:TypeId} {k:Nat} {α:Type} {f:α ->D} {l:List α} (hr:BK M h t k (l.map f)) {j:Nat} (hj:j<l.length):∃b c,h=some (b,c):=by
 cases h with
 | none=>have:=TW hr rfl;omega
 | some p=>exact ⟨p.1,p.2,Z⟩
theorem Qk {M:MF} {h:Hd} {t:TypeId} {k:Nat} {xs:List D} (hr:BK M h t k xs) {b c:Nat} (he:h=some (b,c)):M b=some (.row t k c xs):=by
 subst he;exact hr.2
def Ld (po:List Po) (e:Nat×Int):List Po:=match po[e.1]? with
 | some y=>po.set e.1 {y with sum:=y.sum - e.2}
 | none=>po
def OR (po:List Po) (e:Nat×Nat):List Po:=match po[e.1]? with
 | some y=>po.set e.1 {y with mi:=min y.mi e.2}
 | none=>po
theorem VO {po:List Po} {e:Nat×Int} {y:Po} (h:po[e.1]? =some y):Ld po e=po.set e.1 {y with sum:=y.sum - e.2}:=by unfold Ld;rw [h]
theorem Vr {po:List Po} {e:Nat×Nat} {y:Po} (h:po[e.1]? =some y):OR po e=po.set e.1 {y with mi:=min y.mi e.2}:=by unfold OR;rw [h]
def ER (x:Nd):Nd:={x with on:=false}
def rmN (N:Net) (i:Nat) (x:Nd):Net:={N with nd:=N.nd.set i (ER x),po:=x.pl.foldl OR (x.ef.foldl Ld N.po)}
theorem Ku {α β:Type} {f:β ->α ->β} {l:List α} {k:Nat} (hk:k<l.length) (b:β):(l.take (k+1)).foldl f b=f ((l.take k).foldl f b) l[k]:=by
 rw [φ hk,List.foldl_append];rfl
def RC (po:List Po) (b:Int):Prop:=∀y∈po,-b≤y.sum∧y.sum≤b
theorem Yr {po:List Po} {b c:Int} (h:RC po b) (hbc:b≤c) {j:Nat} {y:Po} (hy: -c≤y.sum∧y.sum≤c):RC (po.set j y) c:=fun z hz=>by
 rcases χf hz with hz | rfl
 ·have:=h z hz;omega
 ·exact hy
theorem Z6 {wb mv:Nat} {nb pb:Nat ->Nat} {N:Net} {M:MF} (h:CA wb mv nb pb N M) {i:Nat} {x:Nd} (hx:N.nd[i]? =some x) (hB:RC N.po 1000000000000000000) (he:∀e∈x.ef,-100000000000000000≤e.2∧e.2≤100000000000000000) (hel:x.ef.length≤60) (hpl:x.pl.length≤1000) (hpb:∀e∈x.pl,e.2≤1000000) (hmb:∀y∈N.po,y.mi≤1000000):
  AN Tryz.prog 140 [.d (pD (nb i) 0)] (HN M) fun r H'=>r= .tup []∧∃M',H'=HN M'∧CA wb mv nb pb (rmN N i x) M':=by
 have hxb:=(h.nn i x hx).1;have hil:=(χ.1 hx).1;have h1:=h.setNd (x':=ER x) hx Z Z Z Z;have hx1:(N.nd.set i (ER x))[i]? =some (ER x):=by rw [List.getElem?_set_self hil]
 have hez:=TW (h.nn i x hx).2.1;have hpz:=TW (h.nn i x hx).2.2;have hxe:=h.e x (ζ hx);refine BB Tryz.func140 Z Z Tryz.ntmps140 Z Z Z fun F hF=>(AC ?_);refine AE (goMv Z Z (J (DQ Z Z) (J (CS Z Eg Z Z Z) (V (O2 (f:=40) Z Z Z Z (hxb) ((by show _<9;omega)) Z sz4) (AD (AC (AC (AE ?_))))))));refine goMv Z Z (J (DQ Z Z) (J (CS Z Js Z Z Z) (J (EX (f:=40) Z Z ((Fm _ _ _)) Z V9 Z) (J (Ut hez Z Tryz.underlying181 Z) (goMv Z Z (AD (A5 (B6 (α:=Nat×List Po×MF) (fun q=>⟨51,[(0,.d (pD (nb i) 0)),(12,(.d (hdr x.eh x.ef.length))),(13,(.d (AF (x.ef.length:Int)))),(14,(.d (AF (q.1:Int))))],HN q.2.2⟩) (fun q=>q.1≤x.ef.length∧q.2.1=(x.ef.take q.1).foldl Ld N.po∧CA wb mv nb pb {N with nd:=N.nd.set i (ER x),po:=q.2.1} q.2.2∧RC q.2.1 (1000000000000000000+100000000000000000*(q.1:Int))∧(∀y∈q.2.1,y.mi≤1000000)∧q.2.1.length=N.po.length) (fun q=>x.ef.length - q.1) ((0,N.po,B1 M (nb i) (T6 (ER x)))) (⟨Γ _,Z,h1,by show RC N.po (1000000000000000000+100000000000000000*((0:Nat):Int));simpa using hB,hmb,Z⟩) (A1 hF [40] Z Z ⟨Z,Z,Z,Z,trivial⟩) ?_))))))));rintro ⟨k,po,M1⟩ ⟨hk0,hpo,hR,hS,hmi,hpol⟩;dsimp only at hk0 hpo hR hS hmi hpol⊢;refine AC (AE (J (BT Z Z Z) (AD (AC (Ah Z (fun h15=>?_) (fun h15=>?_))))))
 ·have hk1:k<x.ef.length:=Bf h15;refine A3 (AC (A5 (AC ?_)));obtain ⟨eb,ec,hee⟩:=T8 (h.nn i x hx).2.1 hk1;have hrow:=Qk (hR.nn i (ER x) hx1).2.1 hee;have hjl:x.ef[k].1<po.length:=by rw [hpol];exact hxe.1 _ (θ hk1)
  obtain ⟨y,hy⟩:∃y,po[x.ef[k].1]? =some y:=⟨_,ω hjl⟩
  have hyb:=hR.p _ y hy;have hys:=hS y (ζ hy);have heb:=he _ (θ hk1);refine AE ?_;refine J (Up hee (k) Z Z Z hk1 Tryz.underlying181 RB Z) (J (Dc (f:=40) (e:=k) Z (Z) Z (hrow) (Ag hk1) Z ZR Z) (V (CO 1 Y1 Z Z Z Z) (V (Bi Z Z Z Z Z Z Z RB) (AD (Cc [[],[0],[0,1],[0,1,2],[0,1,2,3],[],[5],[0,1,2,3,4,5,6],[0,1,2,3,4,5,6,7],[0,1,2,3,4,5,6,7,8],[0,1,2,3,4,5,6,7,8,9]] mixed Z (Cj (AI [3] [] Z Z (fun _=>AG (A4 Z QX Z Z Z)) (AI [18] [1] Z Z (fun _=>AG (A9 Z Z Z E8 Z)) ?_))))))));refine AI [19] [] Z Z (fun _=>AG (DQ Z Z)) (AI [20] [] Z Z (fun _=>AG (CS Z Jq Z Z Z)) (AI [21] [40] Z Z (fun _=>AG (EX (f:=40) Z Z (hyb) Z Kg Z)) (AI [3] [] Z Z (fun _=>AG (A4 Z QW Z Z Z)) (AI [23] [1] Z Z (fun _=>AG (A9 Z Z Z Kg Z)) (C1 7 Z Z Z (Ae 8 Z Z (J (LI Z Z (Υ _ (by omega)) Z) (AD ⟨Z,?_⟩))))))));refine Ae 9 Z Z (J (DQ Z Z) (AD ⟨Z,?_⟩));refine Ae 10 Z Z (J (CS Z Jq Z Z Z) (AD ⟨Z,?_⟩));refine Ae 11 Z Z (V (O2 (f:=40) Z Z Z Z (hyb) ((by show _<10;omega)) Z sz2) (AD ⟨Z,?_⟩));refine C6 (AE (J (Ay Z Z (AT (k+1) (by omega)) Z) (goMv Z Z (AD ?_))));exact ⟨(k+1,po.set x.ef[k].1 {y with sum:=y.sum - x.ef[k].2},B1 M1 (pb x.ef[k].1) (T4 {y with sum:=y.sum - x.ef[k].2})),⟨by show k+1≤_;omega,by show po.set _ _=_;rw [Ku hk1,←hpo,VO hy],hR.setPo hy Z Z,by show RC _ (1000000000000000000+100000000000000000*((k+1:Nat):Int));exact Yr hS (by omega) (by show _≤y.sum - x.ef[k].2∧y.sum - x.ef[k].2≤_;omega),fun z hz=>by rcases χf hz with hz | rfl;exact hmi z hz;exact hmi y (ζ hy),by show (po.set _ _).length=_;rw [ψd];exact hpol⟩,by show x.ef.length - (k+1)<x.ef.length - k;omega,A1 hF [40] Z (Z) ⟨Z,Z,Z,Z,trivial⟩⟩
 ·refine BF (AC ?_);have hpo1:po=x.ef.foldl Ld N.po:=by rw [hpo,Ξ (by have h:=h15;omega)]
  have hxb1:=(hR.nn i (ER x) hx1).1;refine AE ?_;refine goMv Z Z (J (DQ Z Z) (J (CS Z Jr Z Z Z) (J (EX (f:=40) Z Z (hxb1) Z V8 Z) (J (Ut hpz Z Tryz.underlying182 Z) (goMv Z Z (AD (A5 (B6 (α:=Nat×List Po×MF) (fun q=>⟨51,[(32,(.d (hdr x.ph x.pl.length))),(33,(.d (AF (x.pl.length:Int)))),(34,(.d (AF (q.1:Int))))],HN q.2.2⟩) (fun q=>q.1≤x.pl.length∧q.2.1=(x.pl.take q.1).foldl OR (x.ef.foldl Ld N.po)∧CA wb mv nb pb {N with nd:=N.nd.set i (ER x),po:=q.2.1} q.2.2∧(∀y∈q.2.1,y.mi≤1000000)∧q.2.1.length=N.po.length) (fun q=>x.pl.length - q.1) ((0,po,M1)) (⟨Γ _,hpo1,hR,hmi,hpol⟩) (A1 hF [40] Z Z ⟨Z,Z,Z,trivial⟩) ?_))))))));rintro ⟨j,po2,M2⟩ ⟨hj0,hpo2,hR2,hmi2,hpol2⟩;dsimp only at hj0 hpo2 hR2 hmi2 hpol2⊢;refine AC (AE (J (BT Z Z Z) (AD (AC (Ah Z (fun h35=>?_) (fun h35=>?_))))))
  ·have hj1:j<x.pl.length:=Bf h35;refine A3 (AC (A5 (AC ?_)));obtain ⟨pbk,pcc,hpe⟩:=T8 (h.nn i x hx).2.2 hj1;have hrow2:=Qk (hR2.nn i (ER x) hx1).2.2 hpe;have hjl2:x.pl[j].1<po2.length:=by rw [hpol2];exact hxe.2 _ (θ hj1)
   obtain ⟨z,hz⟩:∃z,po2[x.pl[j].1]? =some z:=⟨_,ω hjl2⟩
   have hzb:=hR2.p _ z hz;have hzm:=hmi2 z (ζ hz);have hmin:(if ((x.pl[j].2:Nat):Int)<((z.mi:Nat):Int) then ((x.pl[j].2:Nat):Int) else ((z.mi:Nat):Int))=((min z.mi x.pl[j].2:Nat):Int):=by split<;>omega
   refine AE (J (Up hpe (j) Z Z Z hj1 Tryz.underlying182 Oa Z) (J (Dc (f:=40) (e:=j) Z (Z) Z (hrow2) (Ag hj1) Z ZQ Z) (V (CO 2 Uv Z Z Z Z) ?_)));refine V (Bi Z Z Z Z Z Z Z Oa) (AD (Cc [[],[0],[],[2],[2,3],[2,3,4],[2,3,4,5],[],[7],[2,3,4,5,6,7,8],[0,1,2,3,4,5,6,7,8,9],[0,1,2,3,4,5,6,7,8,9,10],[0,1,2,3,4,5,6,7,8,9,10,11]] mixed Z (Cj (AI [5] [] Z Z (fun _=>AG (A4 Z Gq Z Z Z)) (AI [38] [2] Z Z (fun _=>AG (A9 Z Z Z E8 Z)) (AI [5] [] Z Z (fun _=>AG (A4 Z Gq Z Z Z)) (AI [40] [2] Z Z (fun _=>AG (A9 Z Z Z E8 Z)) (AI [41] [] Z Z (fun _=>AG (DQ Z Z)) ?_))))))));refine AI [42] [] Z Z (fun _=>AG (CS Z Jp Z Z Z)) (AI [43] [40] Z Z (fun _=>AG (EX (f:=40) Z Z (hzb) Z Aq Z)) (AI [5] [] Z Z (fun _=>AG (A4 Z QU Z Z Z)) (AI [45] [2] Z Z (fun _=>AG (A9 Z Z Z Aq Z)) (AI [44,46] [] Z Z (fun _=>AG (KY Z Z (hmin) Z)) (C1 10 Z Z Z (Ae 11 Z Z (J (DQ Z Z) (AD ⟨Z,?_⟩))))))));refine Ae 12 Z Z (J (CS Z Jp Z Z Z) (AD ⟨Z,?_⟩));refine Ae 13 Z Z (V (O2 (f:=40) Z Z Z Z (hzb) ((by show _<10;omega)) Z BD) (AD ⟨Z,?_⟩));refine C6 ?_;skip;refine AE (J (Ay Z Z (AT (j+1) (by omega)) Z) (goMv Z Z (AD ?_)));exact ⟨(j+1,po2.set x.pl[j].1 {z with mi:=min z.mi x.pl[j].2},B1 M2 (pb x.pl[j].1) (T4 {z with mi:=min z.mi x.pl[j].2})),⟨by show j+1≤_;omega,by show po2.set _ _=_;rw [Ku hj1,←hpo2,Vr hz],hR2.setPo hz Z Z,fun w hw=>by rcases χf hw with hw | rfl;exact hmi2 w hw;show min z.mi _≤_;omega,by show (po2.set _ _).length=_;rw [ψd];exact hpol2⟩,by show x.pl.length - (j+1)<x.pl.length - j;omega,A1 hF [40] Z (Z) ⟨Z,Z,Z,trivial⟩⟩
  ·refine BF ?_;have hpo3:po2=x.pl.foldl OR (x.ef.foldl Ld N.po):=by rw [hpo2,Ξ (by have h:=h35;omega)]
   exact ⟨_,[40],_,A7 Z,Z,Z,Z,M2,Z,by unfold rmN;rw [←hpo3];exact hR2⟩
def BS (N:Net):List Int:=N.nd.map fun x=>x.it.id
def Fd (nb:Nat ->Nat) (ids:List Int):List (Int×Value):=(List.range ids.length).map fun i=>(ids.getD i 0,pV (nb i) 0)
theorem Qa {nb:Nat ->Nat} {ids:List Int} (hn:ids.Nodup) {i:Nat} (hi:i<ids.length):A6 (Fd nb ids) ids[i] (.pointer none)=pV (nb i) 0:=by
 refine DJ ?_ (ϖ.2 ⟨i,ς.2 hi,by rw [CI 0 hi]⟩)
 have:(Fd nb ids).map Prod.fst=ids:=by
  unfold Fd;rw [ωv];refine χc (by simp) fun j h1 h2=>?_;simp only [ωd,ψu,Function.comp];exact CI 0 h2
 rw [this];exact hn
abbrev HW (mv:Nat) (bs:Option (List Nat×Nat)) (L:List (Int×Value)) (M:MF):Hp:=[(40,[.multi M]),(50,[.map bs (BQ AF K9 L)]),(51,[.addr 50 0 (.map (some mv))])]
structure OC where
 id:Int
 re:Int
 r:AP
 by_:Int
def EM:AP:=⟨0,TP,[],[]⟩
def exc0:OC:=⟨0,0,EM,0⟩
abbrev bS (e:OC):D:= .agg [AF e.id,AF e.re,AF e.r.k,Ao e.r.acc.o,AF e.r.acc.k,Ao e.r.acc.a,Ao e.r.f,Ao e.r.t,AF e.by_]
abbrev excR (o:Option OC):D:= .tup [bS (o.getD exc0),Ak o.isSome]
def badP (N:Net) (e:Nat×Nat):Bool:=decide ((N.po.getD e.1 CV).mi<e.2)
def U4 (N:Net) (x:Nd) (e:Nat×Nat):OC:=⟨x.it.id,1,(N.po.getD e.1 CV).r,(N.nd.getD ((N.po.getD e.1 CV).q.getD (N.po.getD e.1 CV).mi 0) Bl).it.id⟩
def Cq (N:Net) (id:Int):Bool:=!(N.nd.getD ((BS N).idxOf id) Bl).on
def HB (N:Net) (x:Nd):Option OC:=match x.pl.find? (badP N) with
 | some e=>some (U4 N x e)
 | none=>match x.it.af.find? (Cq N) with
  | some id=>some ⟨x.it.id,2,EM,id⟩
  | none=>none
theorem QP {α:Type} {p:α ->Bool}:∀{l:List α} {k:Nat} (hk:k<l.length),(∀x∈l.take k,p x=false) ->p l[k]=true ->l.find? p=some l[k]
 | a::l,0,_,_,h=>by simp at h;simp [h]
 | a::l,k+1,hk,h0,h=>by
  have h1:p a=false:=h0 a (by simp);have ih:=QP (l:=l) (k:=k) (by simpa using hk) (fun x hx=>h0 x (by simp [hx])) (by simpa using h);rw [List.find?_cons,h1];simpa using ih
theorem P2 {α:Type} {p:α ->Bool} {l:List α} (h:∀x∈l,p x=false):l.find? p=none:=List.find?_eq_none.2 fun x hx=>by rw [h x hx];simp
structure NetW (N:Net):Prop where
 i:(BS N).Nodup
 a:∀x∈N.nd,∀id∈x.it.af,id∈BS N
 l:∀x∈N.nd,x.ef.length≤60∧x.pl.length≤1000∧x.it.af.length≤1000
 e:∀x∈N.nd,∀e∈x.ef,-100000000000000000≤e.2∧e.2≤100000000000000000
 p:∀x∈N.nd,∀e∈x.pl,e.2<(N.po.getD e.1 CV).q.length∧e.2≤1000000
 m:∀y∈N.po,y.mi≤1000000
 rm:∀y∈N.po,-1000000000000000000≤y.room∧y.room≤1000000000000000000
 n:N.nd.length≤1000∧N.po.length≤1000
 ql:∀y∈N.po,y.q.length≤1000
set_option maxHeartbeats 1000000 in
theorem inadm_c {wb mv:Nat} {nb pb:Nat ->Nat} {N:Net} {M:MF} (bs:Option (List Nat×Nat)) (h:CA wb mv nb pb N M) (hw:NetW N) {i:Nat} {x:Nd} (hx:N.nd[i]? =some x):
  AN Tryz.prog 193 [.d (pD wb 0),.d (pD (nb i) 0)] (HW mv bs (Fd nb (BS N)) M) fun r H'=>r= .d (excR (HB N x))∧H'=HW mv bs (Fd nb (BS N)) M:=by
 have hwb:=h.w;have hxm:=ζ hx;obtain ⟨hxb,hre,hrp⟩:=h.nn i x hx;have hpz:=TW hrp;obtain ⟨_,hpl,hafl⟩:=hw.l x hxm;have hxe:=h.e x hxm;have hxp:=hw.p x hxm;have hxa:=hw.a x hxm;refine BB Tryz.func193 Z Z Tryz.ntmps193 Z Z Z fun F hF=>(AC (AE (V (CO 1 If Z Z Z Z) (AB Z Z (AD (AC (AC (AE ?_))))))));refine goMv Z Z (J (DQ Z Z) (J (CS Z Jr Z Z Z) (J (EX (f:=40) Z Z (hxb) Z V8 Z) (J (Ut hpz Z Tryz.underlying182 Z) (goMv Z Z (AD (A5 (B6 (α:=Nat) (fun k=>⟨85,[(0,.d (pD wb 0)),(1,.d (pD (nb i) 0)),(4,(.ptr 1 0 0)),(13,(.d (hdr x.ph x.pl.length))),(14,(.d (AF (x.pl.length:Int)))),(15,(.d (AF (k:Int))))],(1,[.blk 245 [.d (AF 0),.d (AF 0),.d (AF 0),.d (Ao []),.d (AF 0),.d (Ao []),.d (Ao []),.d (Ao []),.d (AF 0)]])::HW mv bs (Fd nb (BS N)) M⟩) (fun k=>k≤x.pl.length∧∀e∈x.pl.take k,badP N e=false) (fun k=>x.pl.length - k) (0) (⟨Γ _,by simp⟩) (A1 hF [1,40,50,51] Z Z ⟨Z,Z,Z,Z,Z,Z,trivial⟩) ?_))))))));rintro k ⟨hk0,hkb⟩;refine AC (AE (J (BT Z Z Z) (AD (AC (Ah Z (fun h16=>?_) (fun h16=>?_))))))
 ·have hk1:k<x.pl.length:=Bf h16;refine A3 (AC (A5 (AC ?_)));obtain ⟨eb,ec,hee⟩:=T8 hrp hk1;have hrow:=Qk hrp hee;have hjl:x.pl[k].1<N.po.length:=hxe.2 _ (θ hk1)
  obtain ⟨y,hy⟩:∃y,N.po[x.pl[k].1]? =some y:=⟨_,ω hjl⟩
  have hgy:N.po.getD x.pl[k].1 CV=y:=by rw [ϱ,hy];rfl
  obtain ⟨hyb,hyq⟩:=h.pp _ y hy;have hpk:=hxp _ (θ hk1);rw [hgy] at hpk;refine AE (J (Up hee (k) Z Z Z hk1 Tryz.underlying182 Oa Z) ?_);refine J (Dc (f:=40) (e:=k) Z (Z) Z (hrow) (Ag hk1) Z ZQ Z) (V (CO 2 Uv Z Z Z Z) (V (Bi Z Z Z Z Z Z Z Oa) (AD (AC (Cc [[],[0],[0,1],[0,1,2],[0,1,2,3],[],[5],[0,1,2,3,4,5,6]] mixed Z (Cj (AI [7] [] Z Z (fun _=>AG (A4 Z Gq Z Z Z)) (AI [19] [2] Z Z (fun _=>AG (A9 Z Z Z E8 Z)) ?_))))))));refine AI [20] [] Z Z (fun _=>AG (DQ Z Z)) (AI [21] [] Z Z (fun _=>AG (CS Z Jp Z Z Z)) (AI [22] [40] Z Z (fun _=>AG (EX (f:=40) Z Z (hyb) Z Aq Z)) (AI [7] [] Z Z (fun _=>AG (A4 Z QU Z Z Z)) (AI [24] [2] Z Z (fun _=>AG (A9 Z Z Z Aq Z)) (C1 7 Z Z Z (Ae 8 Z Z (J (BT Z Z Z) (AD ⟨Z,?_⟩))))))));refine C6 (Ah Z (fun h26=>?_) (fun h26=>?_))
  ·refine AC ?_;have hmq:y.mi<y.q.length:=by have h:=h26;omega
   obtain ⟨qb,qc,hqe⟩:=T8 hyq hmq;have hqrow:=Qk hyq hqe;have hni:y.q[y.mi]<N.nd.length:=h.q y (ζ hy) _ (θ hmq)
   obtain ⟨z,hz⟩:∃z,N.nd[y.q[y.mi]]? =some z:=⟨_,ω hni⟩
   obtain ⟨hzb,_,_⟩:=h.nn _ z hz;have hbad:HB N x=some ⟨x.it.id,1,y.r,z.it.id⟩:=by unfold HB;rw [QP hk1 hkb (by unfold badP;rw [hgy];exact ωi (by have h:=h26;omega))];unfold U4;dsimp only;rw [hgy,CI 0 hmq,ϱ,hz];rfl
   refine Cc [[],[0],[0,1],[0,1,2],[0,1,2,3],[],[5],[5,6],[5,6,7],[5,6,7,8],[],[10],[10,11],[10,11,12],[10,11,12,13],[],[15],[15,16],[15,16,17],[15,16,17,18],[10,11,12,13,14,15,16,17,18,19],[10,11,12,13,14,15,16,17,18,19,20],[10,11,12,13,14,15,16,17,18,19,20,21],[10,11,12,13,14,15,16,17,18,19,20,21,22],[10,11,12,13,14,15,16,17,18,19,20,21,22,23],[10,11,12,13,14,15,16,17,18,19,20,21,22,23,24],[0,1,2,3,4,5,6,7,8,9,10,11,12,13,14,15,16,17,18,19,20,21,22,23,24,25],[0,1,2,3,4,5,6,7,8,9,10,11,12,13,14,15,16,17,18,19,20,21,22,23,24,25,26],[0,1,2,3,4,5,6,7,8,9,10,11,12,13,14,15,16,17,18,19,20,21,22,23,24,25,26,27]] mixed Z (Cj (AI [1] [] Z Z (fun _=>AG (Ai Z Z)) (AI [27] [] Z Z (fun _=>AG (DQ Z Z)) (AI [28] [] Z Z (fun _=>AG (CS Z F9 Z Z Z)) ?_))));refine AI [29] [] Z Z (fun _=>AG (CS Z MV Z Z Z)) (AI [30] [40] Z Z (fun _=>AG (EX (f:=40) Z Z (hxb) Z Aq Z)) (AI [7] [] Z Z (fun _=>AG (A4 Z Gq Z Z Z)) (AI [32] [2] Z Z (fun _=>AG (A9 Z Z Z E8 Z)) (AI [33] [] Z Z (fun _=>AG (DQ Z Z)) (AI [34] [] Z Z (fun _=>AG (CS Z MK Z Z Z)) (AI [35] [40] Z Z (fun _=>AG (DG (f:=40) Z Z (hyb) CY Z Z (by simp [D.one]) Z)) (AI [7] [] Z Z (fun _=>AG (A4 Z Gq Z Z Z)) (AI [37] [2] Z Z (fun _=>AG (A9 Z Z Z E8 Z)) ?_))))))));refine AI [38] [] Z Z (fun _=>AG (DQ Z Z)) (AI [39] [] Z Z (fun _=>AG (CS Z Gr Z Z Z)) (AI [40] [40] Z Z (fun _=>AG (EX (f:=40) Z Z (hyb) Z GG Z)) (AI [7] [] Z Z (fun _=>AG (A4 Z Gq Z Z Z)) (AI [42] [2] Z Z (fun _=>AG (A9 Z Z Z E8 Z)) (AI [43] [] Z Z (fun _=>AG (DQ Z Z)) (AI [44] [] Z Z (fun _=>AG (CS Z Jp Z Z Z)) (AI [45] [40] Z Z (fun _=>AG (EX (f:=40) Z Z (hyb) Z Aq Z)) (AI [41,46] [] Z Z (fun _=>AG (Up hqe (y.mi) Z Z Z hmq Tryz.underlying175 LM Z)) ?_))))))));refine AI [47] [40] Z Z (fun _=>AG (Zcp (f:=40) (e:=y.mi) (off:=0) Z (by omega) Z (hqrow) (Ag hmq) Z Mu Z)) (AI [48] [] Z Z (fun _=>AG (DQ Z Z)) (AI [49] [] Z Z (fun _=>AG (CS Z F9 Z Z Z)) (AI [50] [] Z Z (fun _=>AG (CS Z MV Z Z Z)) (AI [51] [40] Z Z (fun _=>AG (EX (f:=40) Z Z (hzb) Z Aq Z)) (C1 26 Z Z Z (Ae 27 Z Z (J (Fe If Re Z Z Z) (AD ⟨Z,?_⟩))))))));refine Ae 28 Z Z (V (Bi Z Z Z Z Z Z Z JQ) (AD ⟨Z,?_⟩));refine Ae 29 Z Z (AB Z Z (AD ⟨Z,?_⟩));refine C6 (A8 ?_);exact ⟨_,[40,50,51],_,A7 Z,Z,Z,by rw [hbad];rfl,Z⟩
  ·refine A3 (AE (J (Ay Z Z (AT (k+1) (by omega)) Z) (goMv Z Z (AD ?_))));exact ⟨k+1,⟨by show k+1≤_;omega,by rw [φ hk1];intro e he;rcases ν.1 he with he | he;exact hkb e he;rw [ξ.1 he];unfold badP;rw [hgy];exact ωp (by have h:=h26;omega)⟩,by show x.pl.length - (k+1)<x.pl.length - k;omega,A1 hF [1,40,50,51] Z (Z) ⟨Z,Z,Z,Z,Z,Z,trivial⟩⟩
 ·refine BF (AC (AC ?_));have hpn:x.pl.find? (badP N)=none:=P2 (by have e:k=x.pl.length:=(by have h:=h16;omega);rw [e,ωt] at hkb;exact hkb);refine AE (goMv Z Z ?_);refine J (DQ Z Z) (J (CS Z F9 Z Z Z) (J (CS Z Dq Z Z Z) (J (EX (f:=40) Z Z (hxb) Z BC Z) (J (Bz Z Tryz.underlying28 Z) (goMv Z Z (AD (A5 (B6 (α:=Nat) (fun j=>⟨85,[(0,.d (pD wb 0)),(1,.d (pD (nb i) 0)),(4,(.ptr 1 0 0)),(59,(.d (.sl none (x.it.af.map AF)))),(60,(.d (AF (x.it.af.length:Int)))),(61,(.d (AF (j:Int))))],(1,[.blk 245 [.d (AF 0),.d (AF 0),.d (AF 0),.d (Ao []),.d (AF 0),.d (Ao []),.d (Ao []),.d (Ao []),.d (AF 0)]])::HW mv bs (Fd nb (BS N)) M⟩) (fun j=>j≤x.it.af.length∧∀id∈x.it.af.take j,Cq N id=false) (fun j=>x.it.af.length - j) (0) (⟨Γ _,by simp⟩) (A1 hF [1,40,50,51] Z Z ⟨Z,Z,Z,Z,Z,Z,trivial⟩) ?_))))))));rintro j ⟨hj0,hjb⟩;refine AC (AE (J (BT Z Z Z) (AD (AC (Ah Z (fun h62=>?_) (fun h62=>?_))))))
  ·have hj1:j<x.it.af.length:=Bf h62;refine A3 (AC (A5 (AC ?_)));have hidm:=hxa _ (θ hj1);have hil:=ψq hidm;have hil2:(BS N).idxOf x.it.af[j]<N.nd.length:=by unfold BS at hil⊢;rw [ψ] at hil;exact hil
   obtain ⟨z,hz⟩:∃z,N.nd[(BS N).idxOf x.it.af[j]]? =some z:=⟨_,ω hil2⟩
   have hgz:N.nd.getD ((BS N).idxOf x.it.af[j]) Bl=z:=by rw [ϱ,hz];rfl
   obtain ⟨hzb,_,_⟩:=h.nn _ z hz;have hby:=Qa (nb:=nb) hw.i hil;rw [φg hil] at hby;refine AE (J (Bb (j) Z Z (Z) (Ag hj1) Tryz.underlying28 Z BD Z) ?_);refine J (Cm Z Z Aq Z) (AB Z Z (AD (AC (AE (goMv Z Z (J (DQ Z Z) (J (CS Z ML Z Z Z) (J (EX (f:=40) Z Z (hwb) Z Va Z) ?_))))))));refine D0 68 51 0 Z Z (goMv Z Z (J (HQ (Fd nb (BS N)) x.it.af[j] (.pointer none) (pV (nb ((BS N).idxOf x.it.af[j])) 0) Z Z Z Vo HP Uw hby Z) (J (DQ Z Z) (J (CS Z Eg Z Z Z) (J (EX (f:=40) Z Z (hzb) Z on4 Z) (J (L7 Z Z) (AD (KP Z (fun h74=>?_) (fun h74=>?_)))))))))
   ·refine AC (AE (goMv Z Z (J (DQ Z Z) (J (CS Z F9 Z Z Z) ?_))));refine J (CS Z MV Z Z Z) (J (EX (f:=40) Z Z (hxb) Z Aq Z) (J (Fe KQ Rd Z Z Z) (goMv Z Z (J (Fe If Re Z Z Z) (V (Bi Z Z Z Z Z Z Z JQ) (AB Z Z (AD (A8 ?_))))))));exact ⟨_,[40,50,51],_,A7 Z,Z,Z,by unfold HB;rw [hpn];dsimp only;rw [QP hj1 hjb (by unfold Cq;rw [hgz];simpa using h74)];rfl,Z⟩
   ·refine A3 (AE (J (Ay Z Z (AT (j+1) (by omega)) Z) (goMv Z Z (AD ?_))));exact ⟨j+1,⟨by show j+1≤_;omega,by rw [φ hj1];intro e he;rcases ν.1 he with he | he;exact hjb e he;rw [ξ.1 he];unfold Cq;rw [hgz];simpa using h74⟩,by show x.it.af.length - (j+1)<x.it.af.length - j;omega,A1 hF [1,40,50,51] Z (Z) ⟨Z,Z,Z,Z,Z,Z,trivial⟩⟩
  ·refine BF (AC (AE (J (Fe If Re Z Z Z) (V (Bi Z Z Z Z Z Z Z JQ) (AB Z Z (AD (A8 ?_)))))));exact ⟨_,[40,50,51],_,A7 Z,Z,Z,by unfold HB;rw [hpn];dsimp only;rw [P2 (by have e:j=x.it.af.length:=(by have h:=h62;omega);rw [e,ωt] at hjb;exact hjb)];rfl,Z⟩
abbrev bQ:FuncId:=230
theorem backF_c (h:Hd) (n:Nat):AN Tryz.prog 194 [.d (hdr h n)] [] fun r H'=>r= .fn bQ [.d (.ptr (hdr h n))]∧H'=[]:=by
 refine BB Tryz.func194 Z Z Tryz.ntmps194 Z Z Z fun F hF=>(AC (AE (V (CE 1 Z Z Z Z Z Z Z) ?_)));refine AB Z Z (AD (AC (AE (PE 1 1 (hdr h n) [] hF Z Z Z (by intro c hc;simp [D.cells] at hc;subst hc;rfl) Z Z Z (J (Zct Z Z) (AB Z Z (AD (A8 ?_))))))));exact ⟨_,[],[],A7 Z,Z,Z,Z,Z⟩
def K5 (q:List Nat):Nat ->List (Nat×Nat)
 | 0=> []
 | c+1=>(c,q.getD c 0)::K5 q c
def bX (nb:Nat ->Nat) (e:Nat×Nat):List AV:=[.d (AF (e.1:Int)),.d (BL (nb e.2))]
section
variable {β:Type}
theorem back1_c (nb:Nat ->Nat) (q:List Nat) (hq:q.length≤100000) {M:MF} {h:Hd} (hrow:BK M h 176 1 (q.map fun i=>BL (nb i))) (l:Nat) (H:β ->Hp) (N:List Nat) (step:β ->Nat×Nat ->β×Bool) (st0:β) (hN:∀st,hpN (H st)=N) (hI:∀st,FX N (H st)=true) (hP:∀st,BU (H st) N=some (H st)) (hM:∀st,hfam (H st) 40=some [.multi M])
  (hfe:L9 Tryz.prog l (bX nb) H step st0 (K5 q q.length)):
  AN Tryz.prog bQ [.d (.raw (Cv l)),.d (.ptr (hdr h q.length))] (H st0) fun r H'=>r= .tup []∧H'=H (HH step st0 (K5 q q.length)):=by
 have hz:=TW hrow;have x5:∀st,AU N (H st)=true:=fun st=>by have h:=ET (H st);rw [hN] at h;exact h
 have x6:∀st,CU N (H st)=some []:=fun st=>by have h:=Or (H st);rw [hN] at h;exact h
 refine BB Tryz.func230 Z Z Tryz.ntmps230 Z Z Z fun F hF=>?_;refine AC (AE (J (Cm Z Z GG Z) (J (Ut hz Z Tryz.underlying175 Z) (J (LI Z Z (Υ _ (by omega)) Z) (AB Z Z (AD (A5 (Gx (α:=Nat×β) (fun p=>⟨19,[(0,.d (.raw (Cv l))),(1,.d (.ptr (hdr h q.length))),(3,(.d (AF ((p.1:Int) - 1))))],H p.2⟩) (fun p=>p.1≤q.length∧L9 Tryz.prog l (bX nb) H step p.2 (K5 q p.1)∧HH step p.2 (K5 q p.1)=HH step st0 (K5 q q.length)) (fun p=>p.1) ((q.length,st0)) (⟨υ _,hfe,Z⟩) (c8 ⟨Z,Z,Z,trivial⟩) ?_))))))));rintro ⟨c,st⟩ ⟨hc0,hfk,hfin⟩;dsimp only at hc0 hfk hfin⊢;refine AC (AC (AE (goMv Z Z (J (EZ Z Z Z) (AD (Ah Z (fun h8=>?_) (fun h8=>?_)))))))
 ·obtain ⟨k,rfl⟩:∃k,c=k+1:=⟨c - 1,by have h:=h8;omega⟩
  refine A3 (AC (A5 (AC ?_)));have hkq:k<q.length:=by omega
  obtain ⟨qb,qc,hqe⟩:=T8 hrow hkq;have hqrow:=Qk hrow hqe;have hk1:((k+1:Nat):Int) - 1=(k:Int):=by omega
  rw [hk1];refine AE (goMv Z Z (goMv Z Z (J (Cm Z Z GG Z) (goMv Z Z (J (Up hqe (k) Z Z Z hkq Tryz.underlying175 LM Z) (J (Zcp (f:=40) (e:=k) (off:=0) Z (by omega) (hM st) hqrow (Ag hkq) Z Mu Z) ?_))))));rw [←CI 0 hkq];refine Ro Z Z hfk.1 N (Ep fun _ _=>rfl) (x5 st) (x6 st) Z Z (fun r H' ⟨e1,e2⟩=>by subst e1 e2;exact ⟨x5 _,hI _,Z⟩) Z fun r H' ⟨e1,e2⟩=>?_;subst e1 e2;rw [ωk];refine J (L7 Z Z) (AD (KP Z (fun h18=>?_) (fun h18=>?_)))
  ·have hgo:(step st (k,q.getD k 0)).2=false:=by simpa using h18
   refine A8 ?_;exact ⟨_,N,_,A7 Z,hP _,x5 _,Z,by rw [←hfin];show H _=H (HH step st ((k,q.getD k 0)::K5 q k));rw [Ds,ϑ (by rw [hgo];decide)]⟩
  ·have hgo:(step st (k,q.getD k 0)).2=true:=by simpa using h18
   refine A3 (AE (goMv Z Z (J (LI Z Z (Υ _ (by omega)) Z) (AB Z Z (AD ?_)))));exact ⟨(k,(step st (k,q.getD k 0)).1),⟨by show k≤_;omega,hfk.2 hgo,by show HH step (step st (k,q.getD k 0)).1 (K5 q k)=_;rw [←hfin];show _=HH step st ((k,q.getD k 0)::K5 q k);rw [Ds,κ hgo]⟩,by show k<k+1;omega,⟨Z,Z,fun _ _=>Ta.get (l:=[(0,_),(1,_),(3,_)]) ⟨Z,Z,Z,trivial⟩⟩⟩
 ·refine BF ?_;exact ⟨_,N,_,A7 Z,hP _,x5 _,Z,by rw [←hfin];have e:c=0:=(by have h:=h8;omega);rw [e];rfl⟩
end
def onN (N:Net) (i:Nat):Bool:=(N.nd.getD i Bl).on
def T5 (N:Net) (x:Nd):Option OC:=if x.on=true then HB N x else none
def XM (N:Net) (y:Po):Option OC:=if QC y y.sum=true then (y.q.reverse.find? (onN N)).map fun i=>⟨(N.nd.getD i Bl).it.id,0,y.r,-1⟩ else none
def FK (N:Net):Option OC:=match N.nd.findSome? (T5 N) with
 | some e=>some e
 | none=>N.po.findSome? (XM N)
theorem Hm {α β:Type} {f:α ->Option β}:∀{l:List α} {k:Nat} (hk:k<l.length) {b:β},(∀x∈l.take k,f x=none) ->f l[k]=some b ->l.findSome? f=some b
 | a::l,0,_,b,_,h=>by simp at h;rw [List.findSome?_cons,h]
 | a::l,k+1,hk,b,h0,h=>by
  have h1:f a=none:=h0 a (by simp);have ih:=Hm (l:=l) (k:=k) (by simpa using hk) (fun x hx=>h0 x (by simp [hx])) (by simpa using h);rw [List.findSome?_cons,h1];exact ih
theorem LY {α β:Type} {f:α ->Option β} {l:List α} (h:∀x∈l,f x=none):l.findSome? f=none:=List.findSome?_eq_none_iff.2 h
def stRO:Bool ->LoopState
 | true=> .done
 | false=> .ready
def pdRO:Bool ->Option Code
 | true=>some .ret
 | false=>none
def HY (N:Net) (_st:Option Nat) (e:Nat×Nat):Option Nat×Bool:=if onN N e.2=true then (some e.2,false) else (none,true)
theorem bO (N:Net) (q:List Nat):∀n,n≤q.length ->HH (HY N) none (K5 q n)=((q.take n).reverse.find? (onN N))
 | 0,_=>rfl
 | n+1,h=>by
  have hn:n<q.length:=by omega
  show HH (HY N) none ((n,q.getD n 0)::K5 q n)=_;rw [Ds,φ hn,List.reverse_append,List.reverse_singleton,List.singleton_append,List.find?_cons,CI 0 hn];unfold HY;dsimp only
  cases ho:onN N q[n] with
  | true=>rfl
  | false=>exact bO N q n (by omega)
theorem WJ {P:Program} {l:Nat} {nb:Nat ->Nat} {H:Option Nat ->Hp} (N:Net) (q:List Nat) (hY:∀k (hk:k<q.length),Fn P l (bX nb (k,q[k])) (H none) fun v H'=>v= .d (.raw (.bool (!onN N q[k])))∧H'=H (if onN N q[k]=true then some q[k] else none)):∀n,n≤q.length ->L9 P l (bX nb) H (HY N) none (K5 q n)
 | 0,_=>trivial
 | n+1,h=>by
  have hn:n<q.length:=by omega
  have hy:=hY n hn;show L9 P l (bX nb) H (HY N) none ((n,q.getD n 0)::K5 q n);rw [CI 0 hn];refine ⟨hy.mono fun v H' ⟨e1,e2⟩=>⟨by rw [e1];unfold HY;cases onN N q[n]<;>rfl,by rw [e2];unfold HY;cases onN N q[n]<;>rfl⟩,fun hgo=>?_⟩
  have hoff:onN N q[n]=false:=by
   cases ho:onN N q[n] with
   | false=>rfl
   | true=>unfold HY at hgo;dsimp only at hgo;rw [ho] at hgo;cases hgo
  have:(HY N none (n,q[n])).1=none:=by unfold HY;dsimp only;rw [hoff];rfl
  rw [this];exact WJ N q hY n (by omega)
abbrev excB (e:OC):AL:= .blk 245 [.d (AF e.id),.d (AF e.re),.d (AF e.r.k),.d (Ao e.r.acc.o),.d (AF e.r.acc.k),.d (Ao e.r.acc.a),.d (Ao e.r.f),.d (Ao e.r.t),.d (AF e.by_)]
def fndE (N:Net) (y:Po) (o:Option Nat):OC:=match o with
 | none=>exc0
 | some i=>⟨(N.nd.getD i Bl).it.id,0,y.r,-1⟩
abbrev hBk (N:Net) (y:Po) (pbk mv:Nat) (bs:Option (List Nat×Nat)) (L:List (Int×Value)) (M:MF) (o:Option Nat):Hp:=[(1,[excB (fndE N y o)]),(2,[.blk 4 [.d (Ak o.isSome)]]),(4,[.blk 186 [.d (BL pbk)]]),(40,[.multi M]),(50,[.map bs (BQ AF K9 L)]),(51,[.addr 50 0 (.map (some mv))])]
set_option maxHeartbeats 2000000 in
theorem next_c {wb mv:Nat} {nb pb:Nat ->Nat} {N:Net} {M:MF} (bs:Option (List Nat×Nat)) (h:CA wb mv nb pb N M) (hw:NetW N) (hs:RC N.po 1000000000000000000):
  AN Tryz.prog 139 [.d (pD wb 0)] (HW mv bs (Fd nb (BS N)) M) fun r H'=>r= .d (excR (FK N))∧H'=HW mv bs (Fd nb (BS N)) M:=by
 have hwb:=h.w;have hnr:BK M N.nh 176 1 ((List.range N.nd.length).map fun i=>BL (nb i)):=h.rs.1 .n;have hpr:BK M N.mh 186 1 ((List.range N.po.length).map fun j=>BL (pb j)):=h.rs.1 .m;have hnz:=TW hnr;have hpz:=TW hpr;rw [ωf] at hnz hpz;have hnl:=hw.n
 obtain ⟨L,hL⟩:∃L,Fd nb (BS N)=L:=⟨_,Z⟩
 have hina:=fun i x hx=>inadm_c (i:=i) (x:=x) bs h hw hx;rw [hL] at hina⊢;refine Nx Tryz.func139 Z Z Tryz.ntmps139 Z Z Z fun F hF hFl=>(AC (AE (V (CO 1 If Z Z Z Z) (V (CO 2 zl4 Z Z Z Z) (AD (AC (AC (AE ?_))))))));refine goMv Z Z (J (DQ Z Z) (J (CS Z IY Z Z Z) (J (EX (f:=40) Z Z (hwb) Z GG Z) (J (Ut hnz Z Tryz.underlying175 Z) (goMv Z Z (AD (A5 (B6 (α:=Nat) (fun k=>⟨74,[(0,.d (pD wb 0)),(2,(.ptr 1 0 0)),(3,(.ptr 2 0 0)),(15,(.d (hdr N.nh N.nd.length))),(16,(.d (AF (N.nd.length:Int)))),(17,(.d (AF (k:Int))))],(1,[excB exc0])::(2,[.blk 4 [.d (Ak false)]])::HW mv bs L M⟩) (fun k=>k≤N.nd.length∧∀x∈N.nd.take k,T5 N x=none) (fun k=>N.nd.length - k) (0) (⟨Γ _,by simp⟩) (A1 hF [1,2,40,50,51] Z Z ⟨Z,Z,Z,Z,Z,Z,trivial⟩) ?_))))))));rintro k ⟨hk0,hkb⟩;refine AC (AE (J (BT Z Z Z) (AD (AC (Ah Z (fun h18=>?_) (fun h18=>?_))))))
 ·have hk1:k<N.nd.length:=Bf h18;refine A3 (AC (A5 (AC ?_)))
  obtain ⟨x,hx⟩:∃x,N.nd[k]? =some x:=⟨_,ω hk1⟩
  have hxk:N.nd[k]=x:=by rw [ω hk1] at hx;injection hx
  obtain ⟨hxb,_,_⟩:=h.nn k x hx;obtain ⟨rb,rc,hre⟩:=T8 hnr (j:=k) (by rw [ωf];exact hk1);have hrow:=Qk hnr hre;refine AE (J (Up hre (k) Z Z Z hk1 Tryz.underlying175 LM Z) (J (Zcp (f:=40) (e:=k) (off:=0) Z (by omega) Z (hrow) ((by rw [η,ψv hk1];rfl)) Z Mu Z) ?_));refine AB Z Z (AD (AC ?_));refine AC (AE (goMv Z Z (J (DQ Z Z) (J (CS Z Eg Z Z Z) (J (EX (f:=40) Z Z (hxb) Z on4 Z) (J (L7 Z Z) (AD (KP Z (fun h25=>?_) (fun h25=>?_)))))))))
  ·have hnone:T5 N x=none:=by unfold T5;rw [ϑ (by simpa using h25)]
   refine BF ?_
   try have hnone:T5 N x=none:=by unfold T5;split<;>first | exact hin | rfl
   refine AE (J (Ay Z Z (AT (k+1) (by omega)) Z) (goMv Z Z (AD ?_)));exact ⟨k+1,⟨by show k+1≤_;omega,by rw [φ hk1];intro e he;rcases ν.1 he with he | he;exact hkb e he;rw [ξ.1 he,hxk];exact hnone⟩,by show N.nd.length - (k+1)<N.nd.length - k;omega,A1 hF [1,2,40,50,51] Z (Z) ⟨Z,Z,Z,Z,Z,Z,trivial⟩⟩
  ·refine A3 (AC (AE (goMv Z Z (goMv Z Z (V (Eu (hina k x hx) Z [40,50,51] ⟨Z,Z,Z,trivial⟩ Z Z Z Z Z Z Z Z Z) ?_)))));refine goMv Z Z (J (D8 Z Z Z) (J (D8 Z Z Z) (V (CO 3 If Z Z Z Z) (V (Bi Z Z Z Z Z Z Z JQ) (AB Z Z (AD (AC (AE ?_))))))))
   cases hin:HB N x
   ·refine goMv Z Z (AD (Db Z (Z) (A3 ?_)))
    try have hnone:T5 N x=none:=by unfold T5;split<;>first | exact hin | rfl
    refine AE (J (Ay Z Z (AT (k+1) (by omega)) Z) (goMv Z Z (AD ?_)));exact ⟨k+1,⟨by show k+1≤_;omega,by rw [φ hk1];intro e he;rcases ν.1 he with he | he;exact hkb e he;rw [ξ.1 he,hxk];exact hnone⟩,by show N.nd.length - (k+1)<N.nd.length - k;omega,A1 hF [1,2,40,50,51] Z (Z) ⟨Z,Z,Z,Z,Z,Z,trivial⟩⟩
   ·refine goMv Z Z ?_;refine AD (D9 Z (Z) (AC (AE (J (BO Z Z rw245 Z Z Z) (V (Bi Z Z Z Z Z Z Z JQ) (V (Bi Z Z Z Z Z Z Z sz4) (AD (A8 ?_))))))));exact ⟨_,[40,50,51],_,A7 Z,Z,Z,by unfold FK;rw [Hm hk1 hkb (by rw [hxk];unfold T5;rw [κ (by simpa using h25)];exact hin)];rfl,Z⟩
 ·refine BF (AC (AC ?_));have hnn:N.nd.findSome? (T5 N)=none:=LY (by have e:k=N.nd.length:=(by have h:=h18;omega);rw [e,ωt] at hkb;exact hkb);refine AE ?_;refine goMv Z Z (J (DQ Z Z) (J (CS Z Jt Z Z Z) (J (EX (f:=40) Z Z (hwb) Z Vb Z) (J (Ut hpz Z Tryz.underlying177 Z) (goMv Z Z (AD (A5 (B6 (α:=Nat) (fun j=>⟨74,[(2,(.ptr 1 0 0)),(3,(.ptr 2 0 0)),(38,(.d (hdr N.mh N.po.length))),(39,(.d (AF (N.po.length:Int)))),(40,(.d (AF (j:Int))))],(1,[excB exc0])::(2,[.blk 4 [.d (Ak false)]])::HW mv bs L M⟩) (fun j=>j≤N.po.length∧∀y∈N.po.take j,XM N y=none) (fun j=>N.po.length - j) (0) (⟨Γ _,by simp⟩) (A1 hF [1,2,40,50,51] Z Z ⟨Z,Z,Z,Z,Z,trivial⟩) ?_))))))));rintro j ⟨hj0,hjb⟩;refine AC (AE (J (BT Z Z Z) (AD (AC (Ah Z (fun h41=>?_) (fun h41=>?_))))))
  ·have hj1:j<N.po.length:=Bf h41;refine A3 (AC (A5 (AC ?_)))
   obtain ⟨y,hy⟩:∃y,N.po[j]? =some y:=⟨_,ω hj1⟩
   have hyk:N.po[j]=y:=by rw [ω hj1] at hy;injection hy
   have hym:=ζ hy;obtain ⟨hyb,hyq⟩:=h.pp j y hy;obtain ⟨rb,rc,hre⟩:=T8 hpr (j:=j) (by rw [ωf];exact hj1);have hrow:=Qk hpr hre;have hys:=hs y hym;have hov:=LR h hy y.sum (hw.rm y hym) (by omega);have hql:=hw.ql y hym;refine AE (J (Up hre (j) Z Z Z hj1 Tryz.underlying177 Ym Z) (J (Zcp (f:=40) (e:=j) (off:=0) Z (by omega) Z (hrow) ((by rw [η,ψv hj1];rfl)) Z E8 Z) ?_));refine V (CO 4 zl186 Z Z Z Z) (V (Bi Z Z Z Z Z Z Z Ym) (AD (AC (AC (Cc [[],[],[1],[1,2],[1,2,3],[0,1,2,3,4],[0,1,2,3,4,5]] mixed Z (Cj ?_))))));refine AI [9] [4] Z Z (fun _=>AG (A9 Z Z Z E8 Z)) (AI [9] [4] Z Z (fun _=>AG (A9 Z Z Z E8 Z)) (AI [45] [] Z Z (fun _=>AG (DQ Z Z)) (AI [46] [] Z Z (fun _=>AG (CS Z Jq Z Z Z)) (AI [47] [40] Z Z (fun _=>AG (EX (f:=40) Z Z (hyb) Z Kg Z)) (C1 5 Z Z Z (Ae 6 Z Z (V (Eu hov Z [40] ⟨Z,trivial⟩ Z Z Z Z Z Z Z Z Z) (AD ⟨Z,?_⟩))))))));refine Ae 7 Z Z ?_
   cases hovy:QC y y.sum
   ·refine J (L7 Z Z) (AD ⟨Z,?_⟩);refine C6 (D9 Z (Z) (BF ?_));have hpnone:XM N y=none:=by unfold XM;first | (rw [ϑ (by rw [hovy];decide)]) | (rw [κ hovy,←ho];rfl)
    refine AE (J (Ay Z Z (AT (j+1) (by omega)) Z) (goMv Z Z (AD ?_)));exact ⟨j+1,⟨by show j+1≤_;omega,by rw [φ hj1];intro e he;rcases ν.1 he with he | he;exact hjb e he;rw [ξ.1 he,hyk];exact hpnone⟩,by show N.po.length - (j+1)<N.po.length - j;omega,A1 hF [1,2,40,50,51] Z (Z) ⟨Z,Z,Z,Z,Z,trivial⟩⟩
   ·refine J (L7 Z Z) (AD ⟨Z,?_⟩);refine C6 (Db Z (Z) (A3 ?_));refine AC (AE (J (A9 Z Z Z E8 Z) (J (DQ Z Z) (J (CS Z Gr Z Z Z) (J (EX (f:=40) Z Z (hyb) Z GG Z) (V (Eu (backF_c y.qh y.q.length) Z [] trivial Z Z Z Z Z Z Z Z Z) (AD (A5 ?_))))))));refine cV [2,3,9,38,39,40,55] Z ?_;refine WZ (γ:=Option Nat) hFl 900 Z Z Z Z Z [1,2,4,40,50,51] (CHr:=hBk N y (pb j) mv bs L M none) (fun o=>o=y.q.reverse.find? (onN N)) (fun o=>hBk N y (pb j) mv bs L M o) (fun o=>stRO o.isSome) (fun o=>pdRO o.isSome) ⟨Z,Z,Z,Z,Z,Z,trivial⟩ Z Z Z (fun _=>rfl) (fun _=>rfl) Z (fun o _=>by cases o<;>simp [stRO]) (fun _ _=>⟨Z,Z⟩) [1,2,4,40,50,51] hF Z Z (fun _ _=>rfl) (fun l A B hA hB=>?_) (fun o ho=>?_)
    ·refine (back1_c nb y.q (by omega) hyq l (fun o:Option Nat=>(900,[.loop ⟨l,74,[(2,.ptr 1 0 0),(3,.ptr 2 0 0),(9,.ptr 4 0 0),(38,.d (hdr N.mh N.po.length)),(39,.d (AF (N.po.length:Int))),(40,.d (AF (j:Int))),(55,.fn bQ [.d (.ptr (hdr y.qh y.q.length))])],stRO o.isSome,pdRO o.isSome, #[56,57],A,B⟩])::hBk N y (pb j) mv bs L M o) [900,1,2,4,40,50,51] (HY N) none (fun _=>rfl) (fun _=>rfl) (fun _=>rfl) (fun _=>rfl) ?_).mono (fun r H' ⟨e1,e2⟩=>⟨e1,_,Z,by rw [e2,bO N y.q y.q.length (υ _),ωt]⟩);refine WJ N y.q (fun k2 hk2=>?_) y.q.length (υ _);have hni:y.q[k2]<N.nd.length:=h.q y hym _ (θ hk2)
     obtain ⟨x,hx⟩:∃x,N.nd[y.q[k2]]? =some x:=⟨_,ω hni⟩
     obtain ⟨hxb,_,_⟩:=h.nn _ x hx;have hgx:N.nd.getD y.q[k2] Bl=x:=by rw [ϱ,hx];rfl
     have hon:onN N y.q[k2]=x.on:=by unfold onN;rw [hgx]
     refine Qp (lf:=900) Z Z Z Z fun F hF hr=>(Bp.code hA (AE (AB Z Z (AD (⟨Z,_,_,Z,Z,Z,Z,?_⟩)))));refine Bp.code hB ?_;refine A5 (AC (AE (goMv Z Z (J (DQ Z Z) (J (CS Z Eg Z Z Z) (J (EX (f:=40) Z Z (hxb) Z on4 Z) (AD (KP Z (fun h61=>?_) (fun h61=>?_)))))))))
     ·refine AC (Cc [[],[0],[0,1],[0,1,2],[0,1,2,3],[],[5],[5,6],[5,6,7],[0,1,2,3,4,5,6,7,8],[0,1,2,3,4,5,6,7,8,9],[0,1,2,3,4,5,6,7,8,9,10]] mixed Z (Cj (AI [11] [] Z Z (fun _=>AG (Ai Z Z)) (AI [62] [] Z Z (fun _=>AG (DQ Z Z)) (AI [63] [] Z Z (fun _=>AG (CS Z F9 Z Z Z)) (AI [64] [] Z Z (fun _=>AG (CS Z MV Z Z Z)) ?_))))));refine AI [65] [40] Z Z (fun _=>AG (EX (f:=40) Z Z (hxb) Z Aq Z)) (AI [9] [4] Z Z (fun _=>AG (A9 Z Z Z E8 Z)) (AI [67] [] Z Z (fun _=>AG (DQ Z Z)) (AI [68] [] Z Z (fun _=>AG (CS Z MK Z Z Z)) (AI [69] [40] Z Z (fun _=>AG (DG (f:=40) Z Z (hyb) CY Z Z (by simp [D.one]) Z)) (C1 9 Z Z Z (Ae 10 Z Z (J (Fe If Re Z Z Z) (AD ⟨Z,?_⟩))))))));refine Ae 11 Z Z (V (Bi Z Z Z Z Z Z Z JQ) (AD ⟨Z,?_⟩));refine Ae 12 Z Z (V (Bi Z Z Z Z Z Z Z sz4) (AD ⟨Z,?_⟩));refine C6 (A8 ?_);have ho1:onN N y.q[k2]=true:=by rw [hon];simpa using h61
      exact ⟨some .ret,_,_,[900,1,2,4,40,50,51],_,Z,Z,Z,Z,Z,Z,by rw [ho1];rfl,by rw [κ ho1];simp only [hBk,fndE,hgx];rfl⟩
     ·refine A3 ?_;have ho1:onN N y.q[k2]=false:=by rw [hon];simpa using h61
      exact ⟨none,_,_,[900,1,2,4,40,50,51],_,Z,Z,Z,Z,Z,Z,by rw [ho1];rfl,by rw [ϑ (by rw [ho1];decide)];rfl⟩
    ·rcases o with _ | i0
     ·have hpnone:XM N y=none:=by unfold XM;first | (rw [ϑ (by rw [hovy];decide)]) | (rw [κ hovy,←ho];rfl)
      refine AE (J (Ay Z Z (AT (j+1) (by omega)) Z) (goMv Z Z (AD ?_)));exact ⟨j+1,⟨by show j+1≤_;omega,by rw [φ hj1];intro e he;rcases ν.1 he with he | he;exact hjb e he;rw [ξ.1 he,hyk];exact hpnone⟩,by show N.po.length - (j+1)<N.po.length - j;omega,A1 hF [1,2,40,50,51] Z (Z) ⟨Z,Z,Z,Z,Z,trivial⟩⟩
     ·show Bp _ _ .ret _ _;refine A8 ?_;exact ⟨_,[40,50,51],_,A7 Z,Z,Z,by unfold FK;rw [hnn];dsimp only;rw [Hm hj1 hjb (by rw [hyk];unfold XM;rw [κ hovy,←ho];rfl)];rfl,Z⟩
  ·refine BF (AC (AE (J (Fe If Re Z Z Z) (V (Bi Z Z Z Z Z Z Z JQ) (V (Bi Z Z Z Z Z Z Z sz4) (AD (A8 ?_)))))));exact ⟨_,[40,50,51],_,A7 Z,Z,Z,by unfold FK;rw [hnn];dsimp only;rw [LY (by have e:j=N.po.length:=(by have h:=h41;omega);rw [e,ωt] at hjb;exact hjb)];rfl,Z⟩
theorem SR.splitH {F:Fr} {s:AS} {ρ:Nat ->Nat ->Value} {act:Act} {w:World} (hs:SR F s ρ act w) (t g f:Nat) {M:MF} {T:TypeId} {kk m:Nat} {h:Hd} {xs:List D} {env':List (Nat×AV)} {hp1 hp':Hp} (hne:Nat.beq g f=false)
  (ht:get s.env t=some (.d (hdr h m))) (hn:m=xs.length) (hM:hfam s.hp f=some [.multi M]) (hr:BK M h T kk xs) (hE:A0 g s.env=some env') (hH:AX g s.hp=some hp1) (hz:hfam hp1 g=none) (hm:B2 hp1 f (B5 M h)=some hp'):
  ∃v,SR F ⟨s.n,(t,.own g 0 m)::env',(g,[.rowD T kk xs])::hp'⟩ (upd ρ g 0 v) act w:=by
 match h,ht,hr,hm with
 | some (b,cap),ht,hr,hm=>exact ⟨_,hs.splitR t g f (cap:=cap) (b:=b) hne ht hn hM hr.2 hE hH hz hm⟩
 | none,ht,hr,hm=>
  have hxs:xs=[]:=hr;subst hxs hn;have hgf:g≠f:=ψg hne;refine ⟨.slice none 0 0,?_⟩
  have hhp:hp'=hp1:=by
   have key:∀(H H':Hp),hfam H f=some [.multi M] ->B2 H f M=some H' ->H'=H:=by
    intro H
    induction H with
    | nil=>intro H' h;cases h
    | cons p r ih=>
     obtain ⟨k,l⟩:=p;intro H' h1 h2;simp only [hfam] at h1;simp only [B2] at h2
     cases hk:Nat.beq k f with
     | true=>
      rw [hk] at h1 h2;injection h1 with h1
      subst h1;simp only [isM] at h2;injection h2 with h2;exact h2.symm
     | false=>
      rw [hk] at h1 h2;dsimp only at h1 h2
      cases hr:B2 r f M with
      | none=>rw [hr] at h2;cases h2
      | some r'=>
       rw [hr] at h2;injection h2 with h2
       rw [←h2,ih r' h1 hr]
   obtain ⟨a1,a2⟩:=Ar hH
   have hM1:hfam hp1 f=some [.multi M]:=by
    have key2:∀(H H':Hp),Bx (BW g) H=some H' ->hfam H f=some [.multi M] ->hfam H' f=some [.multi M]:=by
     intro H
     induction H with
     | nil=>intro H' _ h;cases h
     | cons p r ih=>
      obtain ⟨k,l⟩:=p;intro H' h1 h2;simp only [Bx] at h1
      cases hr:Bx (BW g) r with
      | none=>rw [hr] at h1;cases h1
      | some r'=>
       rw [hr] at h1
       cases hl:D3 (BW g) l with
       | none=>rw [hl] at h1;cases h1
       | some l'=>
        rw [hl] at h1;injection h1 with h1;subst h1
        simp only [hfam] at h2⊢
        cases hk:Nat.beq k f with
        | true=>
         rw [hk] at h2;injection h2 with h2;subst h2
         simp only [D3,Bw] at hl;injection hl with hl;rw [←hl]
        | false=>rw [hk] at h2;exact ih r' hr h2
    exact key2 _ _ hH hM
   exact key hp1 hp' hM1 hm
  rw [hhp]
  have h1:SR F ⟨s.n,(t,.d (.sl (some true) []))::s.env,s.hp⟩ ρ act w:=⟨hs.size,hs.defs,fun t' a ha=>by
   rcases KL ha with ⟨rfl,rfl⟩ | ⟨_,ha⟩
   ·have hr:=hs.env t _ ht
    generalize act.tmps.getD t undef=x at hr⊢
    cases hr with
    | d h=>cases h with
     | raw _=>exact .d (.sl 0 (fun b hb=>by cases hb;rfl) (fun _=>rfl) Z (υ _) (Γ _) (fun x hx=>by cases hx) (fun h=>absurd Z h) (fun b o hb=>by cases hb))
   ·exact hs.env t' a ha,hs.heap⟩
  obtain ⟨k1,k2⟩:=Ar hH
  have hz':∀i,hget s.hp g i=none:=fun i=>by
   cases hq:hget s.hp g i with
   | none=>rfl
   | some o=>
    obtain ⟨o2,q1,_⟩:=k2 _ _ _ hq;unfold hget at q1;rw [hz] at q1;cases q1
  have h2:=hs.set g 0 (.rowD T kk []) (.slice none 0 0) (hp':=(g,[.rowD T kk []])::hp1) hE hH (fun f' i=>by
   by_cases e:g=f'
   ·subst e;simp only [hget,hfam,χj,ψy,true_and,Kr (o:= .rowD T kk []) Z,hz,Option.bind_none]
    cases i<;>simp
   ·simp only [hget,hfam,Ej e]
    rw [ϑ (fun hh=>e hh.1.symm)]) (fun t cs e=>by rw [hz'] at e;cases e) (fun b hb=>by cases hb) Z Z Z (υ _) (fun _ _ _=>rfl) (fun _=>⟨[],World.ownsRow_nil w 0 T kk,⟨by simp,by simp,fun i x hx=>by simp at hx⟩,by simp⟩)
  refine ⟨h2.size,h2.defs,fun t' a ha=>?_,h2.heap⟩;rcases KL ha with ⟨rfl,rfl⟩ | ⟨_,ha⟩
  ·have hr:=hs.env t _ ht
   generalize act.tmps.getD t undef=x at hr⊢
   cases hr with
   | d h=>cases h with | raw _=>exact .own O1 (υ _)
  ·exact h2.env t' a ha
section
variable {P:Program} {F:Fr} {Q:Exit ->AS ->Prop} {c:Code} {ops:Array Oper} {l:List Oper} {n:Nat} {env env1 env':List (Nat×AV)} {hp hp1 hp2 hp3:Hp}
theorem G3 {o:Oper} (t g f:Nat) {M:MF} {T:TypeId} {kk m:Nat} {h:Hd} {xs:List D} {hp':Hp} {s2:AS} (hr:BK M h T kk xs) (hne:Nat.beq g f=false) (ht:get env t=some (.d (hdr h m))) (hn:m=xs.length) (hM:hfam hp f=some [.multi M]) (hE:A0 g env=some env') (hH:AX g hp=some hp1) (hz:hfam hp1 g=none) (hm:B2 hp1 f (B5 M h)=some hp')
  (h2:AJ P F o ⟨n,(t,.own g 0 m)::env',(g,[.rowD T kk xs])::hp'⟩ s2 (BW g)):AJ P F o ⟨n,env,hp⟩ s2 (BW g):=fun ρ act w hs=>by
 obtain ⟨v,h1⟩:=hs.splitH t g f hne ht hn hM hr hE hH hz hm;exact Zco (fun a w' ⟨ρ',h3,h4⟩=>⟨ρ',h3,fun f i hfi=>(h4 f i hfi).trans (MU fun e=>Qd hfi e.1)⟩) (h2 _ act w h1)
end
theorem CA.row {wb mv:Nat} {nb pb:Nat ->Nat} {N N':Net} {M:MF} (h:CA wb mv nb pb N M) (r0:RI) {w0 w1:RowM} (e0:CT nb pb N r0=w0) (e1:CT nb pb N' r0=w1) (hR:∀r,r≠r0 ->CT nb pb N' r=CT nb pb N r) {b cap:Nat} (hb:B5 M w0.h b=none) (h0:w1.h=some (b,cap)) (hl:w1.xs.length≤cap):
  FQ (B1 (B5 M w0.h) b (.row w1.t w1.k cap w1.xs)) (CT nb pb N')∧∀(b':Nat) (t:TypeId) (cs:List D),M b'=some (.cells t cs) ->B1 (B5 M w0.h) b (.row w1.t w1.k cap w1.xs) b'=some (.cells t cs):=by
 subst e0 e1;refine ⟨h.rs.upd r0 hR hb h0 hl,fun b' t cs hm=>keepM hb hm fun c hc=>?_⟩;have:=h.rs.blk hc;rw [hm] at this;cases this
theorem CA.putNd {wb mv:Nat} {nb pb:Nat ->Nat} {N:Net} {M M1:MF} (h:CA wb mv nb pb N M) {i:Nat} {x x':Nd} (hx:N.nd[i]? =some x) (hc:∀(b':Nat) (t:TypeId) (cs:List D),M b'=some (.cells t cs) ->M1 b'=some (.cells t cs)) (hr:FQ M1 (CT nb pb {N with nd:=N.nd.set i x'})) (he:(∀e∈x'.ef,e.1<N.po.length)∧∀e∈x'.pl,e.1<N.po.length):
  CA wb mv nb pb {N with nd:=N.nd.set i x'} (B1 M1 (nb i) (T6 x')):=by
 have hb:=h.n i x hx;have hil:=(χ.1 hx).1
 have hne:∀(b:Nat) (t:TypeId) (cs:List D),t≠184 ->M b=some (.cells t cs) ->B1 M1 (nb i) (T6 x') b=some (.cells t cs):=fun b t cs ht hm=>by
  rw [Fs]
  ·exact hc _ _ _ hm
  ·rintro rfl;rw [hb] at hm;injection hm with hm;injection hm with hm;exact ht hm.symm
 refine ⟨fun j z hz=>?_,fun j y hy=>hne _ _ _ (by decide) (h.p j y hy),hr.cells (hc _ _ _ hb),?_,fun j k hj hk=>h.ni j k (by simpa using hj) (by simpa using hk),h.pi,fun z hz=>?_,fun y hy=>?_⟩
 ·have hz2:(N.nd.set i x')[j]? =some z:=hz
  clear hz
  have hjl:j<N.nd.length:=by have:=(χ.1 hz2).1;rw [ψd] at this;exact this
  rw [χq] at hz2
  split at hz2
  ·rename_i e;subst e
   have e2:z=x':=by first | exact (Option.some.inj hz2).symm | (rw [κ hil] at hz2;exact (Option.some.inj hz2).symm)
   rw [e2];exact Fm _ _ _
  ·rename_i e
   rw [Fs]
   ·exact hc _ _ _ (h.n j z hz2)
   ·intro e2;exact e (h.ni j i hjl hil e2).symm
 ·show B1 M1 (nb i) (T6 x') wb=some (.cells _ [hdr N.nh (N.nd.set i x').length,hdr N.mh N.po.length,_]);rw [ψd];exact hne _ _ _ (by decide) h.w
 ·rcases χf hz with hz | rfl
  ·exact h.e z hz
  ·exact he
 ·have:=h.q y hy
  simpa using this
theorem CA.putPo {wb mv:Nat} {nb pb:Nat ->Nat} {N:Net} {M M1:MF} (h:CA wb mv nb pb N M) {j:Nat} {y y':Po} (hy:N.po[j]? =some y) (hc:∀(b':Nat) (t:TypeId) (cs:List D),M b'=some (.cells t cs) ->M1 b'=some (.cells t cs)) (hr:FQ M1 (CT nb pb {N with po:=N.po.set j y'})) (hq:∀i∈y'.q,i<N.nd.length):
  CA wb mv nb pb {N with po:=N.po.set j y'} (B1 M1 (pb j) (T4 y')):=by
 have hb:=h.p j y hy;have hjl:=(χ.1 hy).1
 have hne:∀(b:Nat) (t:TypeId) (cs:List D),t≠190 ->M b=some (.cells t cs) ->B1 M1 (pb j) (T4 y') b=some (.cells t cs):=fun b t cs ht hm=>by
  rw [Fs]
  ·exact hc _ _ _ hm
  ·rintro rfl;rw [hb] at hm;injection hm with hm;injection hm with hm;exact ht hm.symm
 refine ⟨fun i x hx=>hne _ _ _ (by decide) (h.n i x hx),fun i z hz=>?_,hr.cells (hc _ _ _ hb),?_,h.ni,fun i k hi hk=>h.pi i k (by simpa using hi) (by simpa using hk),fun x hx=>?_,fun z hz=>?_⟩
 ·have hz2:(N.po.set j y')[i]? =some z:=hz
  clear hz
  have hil:i<N.po.length:=by have:=(χ.1 hz2).1;rw [ψd] at this;exact this
  rw [χq] at hz2
  split at hz2
  ·rename_i e;subst e
   have e2:z=y':=by first | exact (Option.some.inj hz2).symm | (rw [κ hjl] at hz2;exact (Option.some.inj hz2).symm)
   rw [e2];exact Fm _ _ _
  ·rename_i e
   rw [Fs]
   ·exact hc _ _ _ (h.p i z hz2)
   ·intro e2;exact e (h.pi i j hil hjl e2).symm
 ·show B1 M1 (pb j) (T4 y') wb=some (.cells _ [hdr N.nh N.nd.length,hdr N.mh (N.po.set j y').length,_]);rw [ψd];exact hne _ _ _ (by decide) h.w
 ·have:=h.e x hx
  simpa using this
 ·rcases χf hz with hz | rfl
  ·exact h.q z hz
  ·exact hq
abbrev effT:TypeId:=188
abbrev plaT:TypeId:=254
abbrev Zc:TypeId:=176
abbrev VX:TypeId:=186
def FP (x:Nd) (b cap:Nat) (e:Nat×Int):Nd:={x with eh:=some (b,cap),ef:=x.ef++ [e]}
def IA (x:Nd) (b cap:Nat) (e:Nat×Nat):Nd:={x with ph:=some (b,cap),pl:=x.pl++ [e]}
def KI (y:Po) (b cap:Nat) (i:Nat):Po:={y with qh:=some (b,cap),q:=y.q++ [i]}
theorem CA.addE {wb mv:Nat} {nb pb:Nat ->Nat} {N:Net} {M:MF} (h:CA wb mv nb pb N M) {i:Nat} {x:Nd} (hx:N.nd[i]? =some x) (e:Nat×Int) (he:e.1<N.po.length) {b cap:Nat} (hb:B5 M x.eh b=none) (hl:((x.ef++ [e]).map (bY pb)).length≤cap):
  CA wb mv nb pb {N with nd:=N.nd.set i (FP x b cap e)} (B1 (B1 (B5 M x.eh) b (.row effT 2 cap ((x.ef++ [e]).map (bY pb)))) (nb i) (T6 (FP x b cap e))):=by
 have hil:=(χ.1 hx).1
 obtain ⟨h1,h2⟩:=h.row (N':={N with nd:=N.nd.set i (FP x b cap e)}) (.e i) (w0:=⟨x.eh,effT,2,x.ef.map (bY pb)⟩) (w1:=⟨some (b,cap),effT,2,(x.ef++ [e]).map (bY pb)⟩)
  (by show (⟨(N.nd.getD i Bl).eh,_,_,(N.nd.getD i Bl).ef.map _⟩:RowM)=_;rw [F8 hx])
  (by show (⟨((N.nd.set i (FP x b cap e)).getD i Bl).eh,_,_,((N.nd.set i (FP x b cap e)).getD i Bl).ef.map _⟩:RowM)=_;rw [cX hil,κ rfl];rfl)
  (fun r hr=>by
   cases r with
   | q j=>rfl
   | m=>rfl
   | n=>show (⟨_,_,_,(List.range (N.nd.set i (FP x b cap e)).length).map _⟩:RowM)=_;rw [ψd];rfl
   | e k=>
    show (⟨((N.nd.set i (FP x b cap e)).getD k Bl).eh,_,_,((N.nd.set i (FP x b cap e)).getD k Bl).ef.map _⟩:RowM)=⟨(N.nd.getD k Bl).eh,_,_,(N.nd.getD k Bl).ef.map _⟩
    rw [cX hil,ϑ (fun e=>hr (by rw [e]))]
   | p k=>
    show (⟨((N.nd.set i (FP x b cap e)).getD k Bl).ph,_,_,((N.nd.set i (FP x b cap e)).getD k Bl).pl.map _⟩:RowM)=⟨(N.nd.getD k Bl).ph,_,_,(N.nd.getD k Bl).pl.map _⟩
    rw [cX hil,GL hx k Bl]
    split<;>rfl) hb Z hl
 refine h.putNd hx h2 h1 ⟨fun z hz=>?_,(h.e x (ζ hx)).2⟩;rcases ν.1 hz with hz | hz
 ·exact (h.e x (ζ hx)).1 z hz
 ·rw [ξ.1 hz];exact he
theorem CA.addP {wb mv:Nat} {nb pb:Nat ->Nat} {N:Net} {M:MF} (h:CA wb mv nb pb N M) {i:Nat} {x:Nd} (hx:N.nd[i]? =some x) (e:Nat×Nat) (he:e.1<N.po.length) {b cap:Nat} (hb:B5 M x.ph b=none) (hl:((x.pl++ [e]).map (plD pb)).length≤cap):
  CA wb mv nb pb {N with nd:=N.nd.set i (IA x b cap e)} (B1 (B1 (B5 M x.ph) b (.row plaT 2 cap ((x.pl++ [e]).map (plD pb)))) (nb i) (T6 (IA x b cap e))):=by
 have hil:=(χ.1 hx).1
 obtain ⟨h1,h2⟩:=h.row (N':={N with nd:=N.nd.set i (IA x b cap e)}) (.p i) (w0:=⟨x.ph,plaT,2,x.pl.map (plD pb)⟩) (w1:=⟨some (b,cap),plaT,2,(x.pl++ [e]).map (plD pb)⟩)
  (by show (⟨(N.nd.getD i Bl).ph,_,_,(N.nd.getD i Bl).pl.map _⟩:RowM)=_;rw [F8 hx])
  (by show (⟨((N.nd.set i (IA x b cap e)).getD i Bl).ph,_,_,((N.nd.set i (IA x b cap e)).getD i Bl).pl.map _⟩:RowM)=_;rw [cX hil,κ rfl];rfl)
  (fun r hr=>by
   cases r with
   | q j=>rfl
   | m=>rfl
   | n=>show (⟨_,_,_,(List.range (N.nd.set i (IA x b cap e)).length).map _⟩:RowM)=_;rw [ψd];rfl
   | p k=>
    show (⟨((N.nd.set i (IA x b cap e)).getD k Bl).ph,_,_,((N.nd.set i (IA x b cap e)).getD k Bl).pl.map _⟩:RowM)=⟨(N.nd.getD k Bl).ph,_,_,(N.nd.getD k Bl).pl.map _⟩
    rw [cX hil,ϑ (fun e=>hr (by rw [e]))]
   | e k=>
    show (⟨((N.nd.set i (IA x b cap e)).getD k Bl).eh,_,_,((N.nd.set i (IA x b cap e)).getD k Bl).ef.map _⟩:RowM)=⟨(N.nd.getD k Bl).eh,_,_,(N.nd.getD k Bl).ef.map _⟩
    rw [cX hil,GL hx k Bl]
    split<;>rfl) hb Z hl
 refine h.putNd hx h2 h1 ⟨(h.e x (ζ hx)).1,fun z hz=>?_⟩;rcases ν.1 hz with hz | hz
 ·exact (h.e x (ζ hx)).2 z hz
 ·rw [ξ.1 hz];exact he
theorem CA.addQ {wb mv:Nat} {nb pb:Nat ->Nat} {N:Net} {M:MF} (h:CA wb mv nb pb N M) {j:Nat} {y:Po} (hy:N.po[j]? =some y) {i:Nat} (hi:i<N.nd.length) {b cap:Nat} (hb:B5 M y.qh b=none) (hl:((y.q++ [i]).map fun i=>BL (nb i)).length≤cap):
  CA wb mv nb pb {N with po:=N.po.set j (KI y b cap i)} (B1 (B1 (B5 M y.qh) b (.row Zc 1 cap ((y.q++ [i]).map fun i=>BL (nb i)))) (pb j) (T4 (KI y b cap i))):=by
 have hjl:=(χ.1 hy).1
 obtain ⟨h1,h2⟩:=h.row (N':={N with po:=N.po.set j (KI y b cap i)}) (.q j) (w0:=⟨y.qh,Zc,1,y.q.map fun i=>BL (nb i)⟩) (w1:=⟨some (b,cap),Zc,1,(y.q++ [i]).map fun i=>BL (nb i)⟩)
  (by show (⟨(N.po.getD j CV).qh,_,_,(N.po.getD j CV).q.map _⟩:RowM)=_;rw [F8 hy])
  (by show (⟨((N.po.set j (KI y b cap i)).getD j CV).qh,_,_,((N.po.set j (KI y b cap i)).getD j CV).q.map _⟩:RowM)=_;rw [cX hjl,κ rfl];rfl)
  (fun r hr=>by
   cases r with
   | e k=>rfl
   | p k=>rfl
   | n=>rfl
   | m=>show (⟨_,_,_,(List.range (N.po.set j (KI y b cap i)).length).map _⟩:RowM)=_;rw [ψd];rfl
   | q k=>
    show (⟨((N.po.set j (KI y b cap i)).getD k CV).qh,_,_,((N.po.set j (KI y b cap i)).getD k CV).q.map _⟩:RowM)=⟨(N.po.getD k CV).qh,_,_,(N.po.getD k CV).q.map _⟩
    rw [cX hjl,ϑ (fun e=>hr (by rw [e]))]) hb Z hl
 refine h.putPo hy h2 h1 fun z hz=>?_;rcases ν.1 hz with hz | hz
 ·exact h.q y (ζ hy) z hz
 ·rw [ξ.1 hz];exact hi
def EG (x:Nd):Nd:={x with eh:=none,ph:=none}
def CQ (y:Po):Po:={y with qh:=none}
def Au (N:Net):Net:=⟨N.nd.map EG,N.po.map CQ,none,none⟩
def jnX (x:Nd) (j:Nat) (n:Nat) (a:Int):Nd:={x with ef:=x.ef++ [(j,a)],pl:=if a<0 then x.pl++ [(j,n)] else x.pl}
def jnY (y:Po) (i:Nat) (a:Int):Po:={y with sum:=y.sum+a,q:=if a<0 then y.q++ [i] else y.q}
theorem CA.keepE {wb mv:Nat} {nb pb:Nat ->Nat} {N:Net} {M:MF} (h:CA wb mv nb pb N M) {i:Nat} {x:Nd} (hx:N.nd[i]? =some x) {b:Nat} (hb:B5 M x.eh b=none) {v:Af} {b':Nat} {t:TypeId} {cs:List D} (hm:M b'=some (.cells t cs)):B1 (B5 M x.eh) b v b'=some (.cells t cs):=
 keepM hb hm fun c hc=>by have:=Qk (h.nn i x hx).2.1 hc;rw [hm] at this;cases this
theorem CA.keepP {wb mv:Nat} {nb pb:Nat ->Nat} {N:Net} {M:MF} (h:CA wb mv nb pb N M) {i:Nat} {x:Nd} (hx:N.nd[i]? =some x) {b:Nat} (hb:B5 M x.ph b=none) {v:Af} {b':Nat} {t:TypeId} {cs:List D} (hm:M b'=some (.cells t cs)):B1 (B5 M x.ph) b v b'=some (.cells t cs):=
 keepM hb hm fun c hc=>by have:=Qk (h.nn i x hx).2.2 hc;rw [hm] at this;cases this
theorem CA.keepQ {wb mv:Nat} {nb pb:Nat ->Nat} {N:Net} {M:MF} (h:CA wb mv nb pb N M) {j:Nat} {y:Po} (hy:N.po[j]? =some y) {b:Nat} (hb:B5 M y.qh b=none) {v:Af} {b':Nat} {t:TypeId} {cs:List D} (hm:M b'=some (.cells t cs)):B1 (B5 M y.qh) b v b'=some (.cells t cs):=
 keepM hb hm fun c hc=>by have:=Qk (h.pp j y hy).2 hc;rw [hm] at this;cases this
set_option maxHeartbeats 1000000 in
theorem join_c {wb mv:Nat} {nb pb:Nat ->Nat} {N:Net} {M:MF} (h:CA wb mv nb pb N M) {i j:Nat} {x:Nd} {y:Po} (hx:N.nd[i]? =some x) (hy:N.po[j]? =some y) (a:Int) (ha: -100000000000000000≤a∧a≤100000000000000000) (hs: -1000000000000000000≤y.sum∧y.sum≤1000000000000000000) (he:x.ef.length≤100000) (hp:x.pl.length≤100000) (hq:y.q.length≤100000):
  AN Tryz.prog 144 [.d (pD (nb i) 0),.d (pD (pb j) 0),.d (AF a)] (HN M) fun r H'=>r= .tup []∧∃N' M',H'=HN M'∧CA wb mv nb pb N' M'∧N'.nh=N.nh∧N'.mh=N.mh∧(∃x',N'.nd=N.nd.set i x'∧EG x'=EG (jnX x j y.q.length a))∧∃y',N'.po=N.po.set j y'∧CQ y'=CQ (jnY y i a):=by
 have hxb:=h.n i x hx;have hre:=(h.nn i x hx).2.1;have hrp:=(h.nn i x hx).2.2;have hil:=(χ.1 hx).1;have hjl:=(χ.1 hy).1;have hqz:=TW (h.pp j y hy).2;refine BB Tryz.func144 Z Z Tryz.ntmps144 Z Z Z fun F hF=>?_;refine AC (AE (goMv Z Z (goMv Z Z (J (DQ Z Z) (J (CS Z Js Z Z Z) (J (EX (f:=40) Z Z (hxb) Z V9 Z) (goMv Z Z (goMv Z Z ?_))))))));refine J (Fe Y1 pl188 Z Z Z) (V (Dz 1 sl181 Z Z Z Z Z Z Z Z) (V (G3 10 60 40 hre Z Z (by simp) Z Z Z Z Z (I8 (emb:=bY pb) x.ef [(j,a)] Z Z Z Z Z Z Z Z sl181 (by simp only [Ψ];omega) Z Z Z Z)) (Eo 15 60 40 hF Z Z Z (by simp) (by simp) Z Z Z Z Z Z Z (fun _ _=>rfl) fun b1 c1 hb1 hc1=>(J (DQ Z Z) (J (CS Z Js Z Z Z) (V (O2 (f:=40) Z Z Z Z (h.keepE hx hb1 hxb) ((by show _<9;omega)) Z sz181) (AD (AC ?_))))))));have hR1:=h.addE hx (j,a) hjl hb1 hc1;have hyb:=hR1.p j y hy;refine AE (goMv Z Z (J (DQ Z Z) ?_));refine J (CS Z Jq Z Z Z) (J (EX (f:=40) Z Z (hyb) Z Kg Z) (goMv Z Z (J (Ay Z Z (Υ _ (by omega)) Z) (J (DQ Z Z) (J (CS Z Jq Z Z Z) (V (O2 (f:=40) Z Z Z Z (hyb) ((by show _<10;omega)) Z sz2) (AD (AC ?_))))))));have hR2:=hR1.setPo (y':={y with sum:=y.sum+a}) hy Z Z;have hx2:(N.nd.set i (FP x b1 c1 (j,a)))[i]? =some (FP x b1 c1 (j,a)):=List.getElem?_set_self hil;have hy2:(N.po.set j {y with sum:=y.sum+a})[j]? =some {y with sum:=y.sum+a}:=List.getElem?_set_self hjl;have hx2b:=hR2.n i _ hx2;have hy2b:=hR2.p j _ hy2;have hrp2:=(hR2.nn i _ hx2).2.2;refine AE (goMv Z Z (J (BT Z Z Z) (AD (Ah Z (fun h27=>?_) (fun h27=>?_)))))
 ·refine AC (Cc [[],[],[1],[1,2],[1,2,3],[],[],[6],[6,7],[6,7,8],[6,7,8,9],[5,6,7,8,9,10],[5,6,7,8,9,10,11],[1,2,3,4,5,6,7,8,9,10,11,12],[0,1,2,3,4,5,6,7,8,9,10,11,12,13],[0,1,2,3,4,5,6,7,8,9,10,11,12,13,14],[0,1,2,3,4,5,6,7,8,9,10,11,12,13,14,15]] mixed Z (Cj (AI [0] [] Z Z (fun _=>AG (Ai Z Z)) ?_)));refine AI [0] [] Z Z (fun _=>AG (Ai Z Z)) (AI [29] [] Z Z (fun _=>AG (DQ Z Z)) (AI [30] [] Z Z (fun _=>AG (CS Z Jr Z Z Z)) (AI [31] [40] Z Z (fun _=>AG (EX (f:=40) Z Z (hx2b) Z V8 Z)) (AI [1] [] Z Z (fun _=>AG (Ai Z Z)) (AI [1] [] Z Z (fun _=>AG (Ai Z Z)) (AI [34] [] Z Z (fun _=>AG (DQ Z Z)) (AI [35] [] Z Z (fun _=>AG (CS Z Gr Z Z Z)) (AI [36] [40] Z Z (fun _=>AG (EX (f:=40) Z Z (hy2b) Z GG Z)) ?_))))))));refine AI [37] [] Z Z (fun _=>AG (Ut hqz Z Tryz.underlying175 Z)) (AI [33,38] [] Z Z (fun _=>AG (Fe Uv pl254 Z Z Z)) (Fo [39] [2] [(40,_)] Z Z (fun _=>Fq (Dz 2 sl182 Z Z Z Z Z Z Z Z)) (.inr ⟨40,_,Z,Z,Z,Z,Z⟩) Z Z Z Z Z (Fo [32,40] [61,40,2] [(41,_)] Z Z (fun _=>Fq (G3 32 61 40 hrp2 Z Z (by simp [FP]) Z Z Z Z Z (I8 (emb:=plD pb) x.pl [(j,y.q.length)] Z Z Z Z Z Z Z Z sl182 (by simp only [Ψ];omega) Z Z Z Z))) (.inr ⟨41,_,Z,Z,Z,Z,Z⟩) Z Z Z Z Z (C1 14 Z Z Z (Ae 15 Z Z (Eo 41 61 40 hF Z Z Z (by simp) (by simp) Z Z Z Z Z Z Z (fun _ _=>rfl) fun b2 c2 hb2 hc2=>(J (DQ Z Z) (AD ⟨Z,?_⟩))))))));refine Ae 16 Z Z (J (CS Z Jr Z Z Z) (AD ⟨Z,?_⟩));refine Ae 17 Z Z (V (O2 (f:=40) Z Z Z Z (hR2.keepP hx2 hb2 hx2b) ((by show _<9;omega)) Z sz182) (AD ⟨Z,?_⟩));refine C6 ?_;have hR3:=hR2.addP hx2 (j,y.q.length) (by show j<(N.po.set j _).length;rw [ψd];exact hjl) hb2 hc2;have hy3b:=hR3.p j _ hy2;have hrq3:=(hR3.pp j _ hy2).2;refine AE (goMv Z Z (goMv Z Z (J (DQ Z Z) (J (CS Z Gr Z Z Z) ?_))));refine J (EX (f:=40) Z Z (hy3b) Z GG Z) (goMv Z Z (V (Dz 3 VS Z Z Z Z Z Z Z Z) (V (G3 48 62 40 hrq3 Z Z (by simp) Z Z Z Z Z (I8 (emb:=fun i=>BL (nb i)) y.q [i] Z Z Z Z Z Z Z Z VS (by simp only [Ψ];omega) Z Z Z Z)) (Eo 51 62 40 hF Z Z Z (by simp) (by simp) Z Z Z Z Z Z Z (fun _ _=>rfl) fun b3 c3 hb3 hc3=>(J (DQ Z Z) (J (CS Z Gr Z Z Z) (V (O2 (f:=40) Z Z Z Z (hR3.keepQ hy2 hb3 hy3b) ((by show _<10;omega)) Z sz175) (AD ?_))))))));have hR4:=hR3.addQ hy2 (i:=i) (by show i<((N.nd.set i _).set i _).length;rw [ψd,ψd];exact hil) hb3 hc3;exact ⟨_,[40],_,A7 Z,Z,Z,Z,_,_,Z,hR4,Z,Z,⟨_,List.set_set _,by unfold EG IA FP jnX;simp [h27]⟩,⟨_,List.set_set _,by unfold CQ KI jnY;simp [h27]⟩⟩
 ·refine A3 ?_;exact ⟨_,[40],_,A7 Z,Z,Z,Z,_,_,Z,hR2,Z,Z,⟨_,Z,by unfold EG FP jnX;simp [h27]⟩,⟨_,Z,by unfold CQ jnY;simp [h27]⟩⟩
end Go.Proofs.YteifpcnphnhaoaaGreat
