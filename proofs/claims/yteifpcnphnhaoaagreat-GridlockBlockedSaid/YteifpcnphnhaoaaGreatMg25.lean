import Derived.Test.YteifpcnphnhaoaaGreatMg24
namespace Go.Proofs.YteifpcnphnhaoaaGreat
open Go.RowKit
set_option maxRecDepth 100000
def Gh (l:List Nat):Bool:=decide (l.length<2)
theorem Wa (l:List Nat) (hl:l.length≤100000):AO Tryz.prog 82 [.d (natsD l)] (Ag (Gh l)):=by
 refine Az Tryz.func82 Z Z Tryz.ntmps82 Z Z Z fun F hF=>(AC (AE (AB Z Z ?_)));refine AD (AC (AE (goMv Z Z (J (CM Z Tryz.underlying28 Z) (J (BV Z Z Z) (AB Z Z (AD (A5 ?_))))))));exact ⟨_,[],_,A3 Z,Z,Z,XU (by omega),Z⟩
def hdi (l:List Nat):Int:=((l.getD 0 0:Nat):Int)
theorem circ3_p (a b:List Nat) (ha:0<a.length) (hb:0<b.length) (hba:a.getD 0 0≤100000) (hbb:b.getD 0 0≤100000):AO Tryz.prog 84 [.d (natsD a),.d (natsD b)] (AF (hdi a - hdi b)):=by
 have ea:a.getD 0 0=a[0]:=by rw [ϱ,ω ha];rfl
 have eb:b.getD 0 0=b[0]:=by rw [ϱ,ω hb];rfl
 unfold hdi;rw [ea] at hba⊢;rw [eb] at hbb⊢;refine Az Tryz.func84 Z Z Tryz.ntmps84 Z Z Z fun F hF=>(AC (AE (AB Z Z (AD (AC (Cb [[],[0],[0,1],[],[3],[3,4],[0,1,2,3,4,5],[0,1,2,3,4,5,6]] mixed Z (Cr (AJ [0] [] Z Z (fun _=>AG (Aj Z Z)) ?_))))))));refine AJ [5] [] Z Z (fun _=>AG (Bk (0) Z Z (Z) (Ah ha) Tryz.underlying28 Z BA Z)) (AJ [6] [] Z Z (fun _=>AG (D0 Z Z Aq Z)) (AJ [1] [] Z Z (fun _=>AG (Aj Z Z)) (AJ [8] [] Z Z (fun _=>AG (Bk (0) Z Z (Z) (Ah hb) Tryz.underlying28 Z BA Z)) (AJ [9] [] Z Z (fun _=>AG (D0 Z Z Aq Z)) (C3 6 Z Z Z (Aa 7 Z Z (J (LF Z Z (ωa _ (by omega)) Z) (AD ⟨Z,?_⟩))))))));refine Aa 8 Z Z (AB Z Z (AD ⟨Z,?_⟩));refine C9 (A5 ?_);exact ⟨_,[],[],A3 Z,Z,Z,Z,Z⟩
theorem idxC_p (l:List (List Nat)) (hl:l.length≤100000) (hll:∀c∈l,c.length≤100000):AO Tryz.prog 135 [.d (.sl none (l.map natsD)),.d (.fn 82 [] [])] (AF (OA Gh l)):=by
 refine Az Tryz.func135 Z Z Tryz.ntmps135 Z Z Z fun F hF=>(AC (AE (AB Z Z (AD ?_))));refine AC (AC (AE (goMv Z Z (J (CM Z Tryz.underlying29 Z) (goMv Z Z (AD (A4 (Gm (α:=Nat) (fun k=>⟨19,[(0,.d (.sl none (l.map natsD))),(1,.d (.fn 82 [] [])),(7,(.d (AF (l.length:Int)))),(8,(.d (AF (k:Int))))],[]⟩) (fun k=>k≤l.length∧∀x∈l.take k,Gh x=false) (fun k=>l.length - k) (0) (⟨Δ _,by simp⟩) (dJ ⟨Z,Z,Z,Z,trivial⟩) ?_))))))));rintro k ⟨hk0,hk⟩;refine AC (AE (J (BV Z Z Z) (AD (AC (Ae Z (fun h9=>?_) (fun h9=>?_))))))
 ·have hk1:k<l.length:=Bf h9;refine A1 (AC (A4 (AC (AE (goMv Z Z (AB Z Z (AD (AC ?_))))))));refine AE (goMv Z Z (goMv Z Z (goMv Z Z (J (Bk (k) Z Z (Z) (Ah hk1) Tryz.underlying29 Z Ce Z) (J (D0 Z Z BI Z) (J (KW (Wa l[k] (hll _ (κ hk1))) Z Z) (AD (Ae Z (fun h16=>?_) (fun h16=>?_)))))))))
  ·refine AC (AE (goMv Z Z (AB Z Z (AD (A5 ?_)))));exact ⟨_,[],[],A3 Z,Z,Z,Ac (by unfold OA;rw [Ge hk1 hk (by unfold Gh;simpa using h16)]),Z⟩
  ·refine A1 (AE (J (Ay Z Z (AT (k+1) (by omega)) Z) (goMv Z Z (AD ?_))));exact ⟨k+1,⟨by show k+1≤_;omega,by rw [φ hk1];intro x hx;rcases υ.1 hx with hx | hx;exact hk x hx;rw [ξ.1 hx];unfold Gh;simpa using h16⟩,by show l.length - (k+1)<l.length - k;omega,⟨Z,Z,fun _ _=>Tm.get (l:=[(0,_),(1,_),(7,_),(8,_)]) ⟨Z,Z,Z,Z,trivial⟩⟩⟩
 ·refine BC (AC (AE (AB Z Z (AD (A5 ?_)))));exact ⟨_,[],[],A3 Z,Z,Z,Ac (by unfold OA;rw [IR (fun x hx=>hk x (by rw [Ξ (by have h:=h9;omega)];exact hx))]),Z⟩
def lgs (l:List (List Nat)):List (List Nat):=l.filter fun x=>!Gh x
theorem WL {l:List (List Nat)} (h:∀x∈l,Gh x=false):lgs l=l:=List.filter_eq_self.2 fun x hx=>by rw [h x hx];rfl
theorem lgs_in {l:List (List Nat)} {k:Nat} (hk:k<l.length) (h:Gh l[k]=false):lgs (l.take (k+1))=lgs (l.take k)++ [l[k]]:=by
 unfold lgs;rw [GF hk,θ (by rw [h];rfl)]
theorem WK {l:List (List Nat)} {k:Nat} (hk:k<l.length) (h:Gh l[k]=true):lgs (l.take (k+1))=lgs (l.take k):=by
 unfold lgs;rw [GF hk,ϑ (by rw [h];simp),ωl]
theorem bI (l:List (List Nat)):(lgs l).length≤l.length:=ωj _ _
def eO:Option (List Nat) ->D
 | some l=>natsD l
 | none=> .raw (.slice none 0 0)
theorem cK (l:List (List Nat)):l.map natsD=(l.map some).map eO:=by rw [ωr];rfl
theorem delC_c (l:List (List Nat)) (hl:l.length≤100000) (hll:∀c∈l,c.length≤100000):AM Tryz.prog 81 [.own 10 0 l.length,.d (.fn 82 [] [])] [(10,[.rowD 28 1 (l.map natsD)])] fun r H'=>r= .own 10 0 (lgs l).length∧H'=[(10,[.rowD 28 1 ((lgs l).map natsD++(List.replicate (l.length - (lgs l).length) none).map eO)])]:=by
 have hix:=idxC_p l hl hll
 cases hfi:l.findIdx? Gh with
 | none=>
  have hall:∀x∈l,Gh x=false:=fun x hx=>by have:=List.findIdx?_eq_none_iff.1 hfi x hx;simpa using this
  have hix2:OA Gh l= -1:=by unfold OA;rw [hfi]
  rw [hix2] at hix;have hkp:=WL hall;refine Az Tryz.func81 Z Z Tryz.ntmps81 Z Z Z fun F hF=>(AC (AE (AB Z Z (AD (AC (AE ?_))))));refine goMv Z Z (goMv Z Z (J (Hz [10] hix (by exact ⟨.inr ⟨_,_,Z,.own Z Z (by simp) (Ξ (by simp)),Z⟩,.inl Z,trivial⟩) Z Z) (AB Z Z (AD (AC (AC (AE (goMv Z Z ?_))))))));refine J (KL Z Z Z) (AD (DV Z (Z) (AC (AE (goMv Z Z (AB Z Z (AD (A5 ?_))))))));exact ⟨_,[10],_,A3 Z,Z,Z,by rw [hkp],by rw [hkp];simp⟩
 | some k0=>
  obtain ⟨hk0,hk0p,hk0n⟩:=List.findIdx?_eq_some_iff_getElem.1 hfi;have hix2:OA Gh l=(k0:Int):=by unfold OA;rw [hfi]
  rw [hix2] at hix
  have hpre:∀x∈l.take k0,Gh x=false:=fun x hx=>by
   obtain ⟨j,hj,rfl⟩:=χt.1 hx;have:=hk0n j (by omega)
   simpa using this
  rw [cK l] at hix⊢;have hst:lgs (l.take (k0+1))=l.take k0:=by rw [WK hk0 hk0p,WL hpre]
  refine Az Tryz.func81 Z Z Tryz.ntmps81 Z Z Z fun F hF=>(AC ?_);refine AE (AB Z Z (AD (AC (AE (goMv Z Z (goMv Z Z (J (Hz [10] hix (by exact ⟨.inr ⟨_,_,Z,.own Z Z (by simp) (Ξ (by simp)),Z⟩,.inl Z,trivial⟩) Z Z) (AB Z Z ?_))))))));refine AD (AC (AC (AE (goMv Z Z (J (KL Z Z Z) (AD (EN Z ((ωp (by omega))) (A1 ?_))))))));refine AC (AC (AE (goMv Z Z (J (Ay Z Z (AT (k0+1) (by omega)) Z) (AB Z Z (AD (A4 (B5 (α:=Nat×Nat×List (Option (List Nat))) (fun q=>⟨42,[(0,(.own 10 0 l.length)),(1,(.d (.fn 82 [] []))),(5,(.d (AF (q.1:Int)))),(6,(.d (AF (q.2.1:Int))))],[(10,[.rowD 28 1 (q.2.2.map eO)])]⟩) (fun q=>q.2.1≤l.length∧q.1<q.2.1∧q.2.2.length=l.length∧q.2.2.take q.1=(lgs (l.take q.2.1)).map some∧q.2.2.drop q.2.1=(l.drop q.2.1).map some) (fun q=>l.length - q.2.1) ((k0,k0+1,l.map some)) (⟨by show k0+1≤_;omega,χl _,by show (l.map some).length=_;simp,by show (l.map some).take k0=_;rw [hst,List.map_take],by show (l.map some).drop (k0+1)=_;rw [List.map_drop]⟩) (A0 hF [10] Z Z ⟨Z,Z,Z,Z,trivial⟩) ?_))))))));rintro ⟨i,j,c⟩ ⟨hj0,hij,hcl,hct,hcd⟩;dsimp only at hj0 hij hcl hct hcd⊢;refine AC (AC (AE (goMv Z Z (goMv Z Z (J (KM Z Tryz.underlying29 Z) (J (BV Z Z Z) (AD (Ae Z (fun h19=>?_) (fun h19=>?_)))))))))
  ·have hj1:j<l.length:=Bf h19;refine A1 (AC (A4 (AC (AE ?_))));have hjc:j<c.length:=by omega
   have hcj:c[j]=some l[j]:=by have h1:(c.drop j)[0]? =((l.drop j).map some)[0]?:=by {rw [hcd]};rw [χe,η,χe,χn,ω hjc,ω hj1] at h1;injection h1
   refine goMv Z Z (goMv Z Z (J (Br (j) Z Z (Z) (hj1) Z Tryz.underlying29 Ce Z) (J (Bw Z Z ((show (c.map eO)[j]? =some (natsD l[j]) from by rw [η,ω hjc,hcj];rfl)) Z BI Z) ?_)));refine AB Z Z ?_;refine AD (AC (AE (goMv Z Z (goMv Z Z (J (KW (Wa l[j] (hll _ (κ hj1))) Z Z) (J (Nx Z Z) (AD (Ae Z (fun h29=>?_) (fun h29=>?_)))))))))
   ·have hkj:Gh l[j]=false:=by unfold Gh;simpa using h29
    refine AC (AE (goMv Z Z (goMv Z Z (goMv Z Z (J (Br (i) Z Z (Z) ((by omega)) Z Tryz.underlying29 Ce Z) (V (Fq (c) (some l[j]) Z Z Z Z Z Z (by omega) Z Ce) (AD (AE ?_))))))));refine goMv Z Z (J (Ay Z Z (AT (i+1) (by omega)) Z) (AB Z Z (AD (AE (goMv Z Z (J (Ay Z Z (AT (j+1) (by omega)) Z) (AB Z Z (AD ?_))))))));exact ⟨(i+1,j+1,_),⟨by show j+1≤_;omega,by show i+1<j+1;omega,by show (c.set i (some l[j])).length=_;rw [ψf];exact hcl,by show (c.set i (some l[j])).take (i+1)=(lgs (l.take (j+1))).map some;rw [lgs_in hj1 hkj,ωe,←hct,φ (by rw [ψf];omega),List.getElem_set_self,List.take_set_of_le (ϖ i)];rfl,by show (c.set i (some l[j])).drop (j+1)=(l.drop (j+1)).map some;rw [List.drop_set_of_lt (by omega),←List.tail_drop,←List.tail_drop,hcd,List.map_tail]⟩,by show l.length - (j+1)<l.length - j;omega,A0 hF [10] Z (Z) ⟨Z,Z,Z,Z,trivial⟩⟩
   ·have hkj:Gh l[j]=true:=by unfold Gh;simpa using h29
    refine A1 (AE (goMv Z Z (J (Ay Z Z (AT (j+1) (by omega)) Z) (AB Z Z (AD ?_)))));exact ⟨(i,j+1,c),⟨by show j+1≤_;omega,by show i<j+1;omega,hcl,by show c.take i=(lgs (l.take (j+1))).map some;rw [WK hj1 hkj,hct],by show c.drop (j+1)=(l.drop (j+1)).map some;rw [←List.tail_drop,←List.tail_drop,hcd,List.map_tail]⟩,by show l.length - (j+1)<l.length - j;omega,A0 hF [10] Z (Z) ⟨Z,Z,Z,Z,trivial⟩⟩
  ·refine BC (AC ?_);have hje:j=l.length:=by have h:=h19;omega
   have hfin:c.take i=(lgs l).map some:=by rw [hct,hje,ωw]
   have hil:i=(lgs l).length:=by have h:=Γ List.length hfin;rw [Υ,ψ] at h;omega
   refine AE (goMv Z Z (goMv Z Z (Ry (emb:=eO) (zd:=none) c i Z Z Z Z hcl.symm Z (by omega) Tryz.underlying29 Ce Tryz.zeroValue28 Z Z Z Z Z Z ?_)));refine AD (AC (AE (goMv Z Z (goMv Z Z (J (Cu (i) Z Z Z (by simp only [ψ,ς,Υ,List.length_replicate];omega) Z Tryz.underlying29 Ce Z) (AB Z Z (AD (A5 ?_))))))));exact ⟨_,[10],_,A3 Z,Z,Z,by rw [←hil],by rw [hfin,hcl,hil,ωe,←cK]⟩
end Go.Proofs.YteifpcnphnhaoaaGreat
namespace Go.Proofs.YteifpcnphnhaoaaGreat
end Go.Proofs.YteifpcnphnhaoaaGreat
namespace Go.Proofs.YteifpcnphnhaoaaGreat
open Go.RowKit
set_option maxRecDepth 100000
def Melt (M:MF) (x y:D):Prop:=x=y∨∃h T zs,x=hdr h zs.length∧BF M h T 1 zs∧(∀z∈zs,z.one=true)∧y= .sl none zs
theorem AQ.melt {F:Fr} {s:AS} {ρ:Nat ->Nat ->Value} {act:Act} {w:World} (hs:SR F s ρ act w) {f:Nat} {M:MF} {hp':Hp} (hM:hfam s.hp f=some [.multi M]) (hO1:∀b,F.O ρ hp' b ->F.O ρ s.hp b)
  (hO2:∀i o b,hget s.hp f i=some o ->B7 (ρ f i)=some b ->¬F.O ρ hp' b) {x y:D} {v:Value} (hm:Melt M x y) (hr:AQ w (F.O ρ hp') x v):AQ w (F.O ρ hp') y v:=by
 rcases hm with rfl | ⟨h,T,zs,rfl,hra,hz1,rfl⟩
 ·exact hr
 ·match h,hra with
  | none,hra=>
   have hra:zs=[]:=hra;subst hra
   cases hr with
   | raw _=>exact .sl 0 (fun b hb=>by cases hb) (fun _=>rfl) Z (ϖ _) (Δ _) (fun x hx=>by cases hx) (fun h=>absurd Z h) (fun b o hb=>by cases hb)
  | some (b,c),hra=>
   obtain ⟨hle,hb⟩:=hra
   cases hr with
   | raw _=>
    obtain ⟨hρ,us,g1,g2,g3⟩:=hs.rowN hM hb;obtain ⟨a,cap,e,q1,q2,q3,q4⟩:=G0 g1;injection e with e1 e2 e3
    subst e1 e3
    have hc1:∀z∈zs,z.cells=[z]:=fun z hz=>by
     have h1:=hz1 z hz;have h2:=g2.2.1 z hz
     cases z with
     | agg cs=>simp [D.one] at h1
     | _=>rfl
    refine .sl 1 (fun b hb=>by cases hb) (fun h=>by cases h) Z q1 q2 (fun z hz=>by rw [hc1 z hz];rfl) (fun _=>⟨b,0,Z⟩) (fun b' o hb' i z hi=>?_);injection hb' with hb'
    injection hb' with hb1 hb2
    subst hb1 hb2;have hil:i<zs.length:=(χ.1 hi).1;obtain ⟨b2,cur,r1,r2,r3,r4⟩:=q4 (by omega);injection r1 with r1
    injection r1 with r1
    subst r1;have hlt:b<w.heap.size:=(ωu.1 r2).1
    have hex:∀(q:Nat) c,z.cells[q]? =some c ->∃u,w.cell? ⟨b,0+i*1+q,none⟩=some u∧AQ w (F.O ρ hp') c u:=fun q c' hc=>by
     obtain ⟨u,d1,d2,d3⟩:=g2.2.2 i z hi q c' hc;exact ⟨u,by rw [ψs];exact DJ r2 r4 d1,d3.mono (ϖ _) (fun _ _ _=>rfl) fun b _=>hO1 b⟩
    refine .ptr (fun q=>(w.cell? ⟨b,0+i*1+q,none⟩).getD undef) hlt (hO2 b _ b (by rw [Fn hM,hb];rfl) (by rw [hρ];rfl)) (g3 z (ζ hi)) (fun q c' hc=>?_) (fun q c' hc=>?_)
    ·obtain ⟨u,d1,_⟩:=hex q c' hc;rw [d1];rfl
    ·obtain ⟨u,d1,d2⟩:=hex q c' hc;rw [d1];exact d2
theorem SR.melt {F:Fr} {s:AS} {ρ:Nat ->Nat ->Value} {act:Act} {w:World} (hs:SR F s ρ act w) (g i f:Nat) {M:MF} {T:TypeId} {xs ys:List D} {env':List (Nat×AV)} {hp1 hp2 hp':Hp} (hM:hfam s.hp f=some [.multi M])
  (hE:AY f s.env=some env') (hH:AW f s.hp=some hp1) (hh:CA f hp1=some hp2) (ho:hget hp2 g i=some (.rowD T 1 xs)) (hlen:ys.length=xs.length)
  (hxy:∀(j:Nat) x y,xs[j]? =some x ->ys[j]? =some y ->Melt M x y) (h1:(∀x∈xs,x.one=true)∧∀y∈ys,y.one=true) (hset:BL hp2 g i (.rowD T 1 ys)=some hp'):SR F ⟨s.n,env',hp'⟩ ρ act w:=by
 obtain ⟨h2,hO1,hO2⟩:=hs.forget f hE hH hh (fun j t cs e=>by
  rw [Fn hM] at e
  cases hm:M j with
  | none=>rw [hm] at e;cases e
  | some m=>rw [hm] at e;injection e with e;exact Ab.notBlk e)
 have hone:∀z:D,z.one=true ->z.cells=[z]:=fun z hz=>by
  cases z with
  | agg cs=>simp [D.one] at hz
  | _=>rfl
 refine h2.write g i (.rowD T 1 xs) (.rowD T 1 ys) ho (Ak hset) Z Z Z Z (fun _ _=>rfl) (fun _ _ e=>by cases e) fun hrep=>?_;obtain ⟨us,k1,k2,k3⟩:=h2.heap.sim g i _ ho;refine ⟨us,by rw [hlen];exact k1,⟨by rw [hlen];exact k2.1,fun y hy=>by rw [hone y (h1.2 y hy)];rfl,fun j y hj q c hc=>?_⟩,fun y hy c hc=>by rw [hone y (h1.2 y hy),ξ] at hc;rw [hc];exact h1.2 y hy⟩;have hjl:j<xs.length:=by rw [←hlen];exact (χ.1 hj).1
 have hx:xs[j]? =some xs[j]:=ω hjl;rw [hone y (h1.2 y (ζ hj))] at hc
 cases q with
 | succ q=>cases hc
 | zero=>
  injection hc with hc
  subst hc;obtain ⟨u,d1,d2,d3⟩:=k2.2.2 j _ hx 0 _ (by rw [hone _ (h1.1 _ (κ hjl))];rfl);refine ⟨u,d1,d2,?_⟩;have h3:=AQ.melt hs hM hO1 hO2 (hxy j _ _ hx hj) d3;have h4:=hrep (.d y) u (.d h3)
  cases h4 with | d h4=>exact h4
section
variable {P:Program} {F:Fr} {Q:Exit ->AS ->Prop} {c:Code} {n:Nat} {env env':List (Nat×AV)} {hp hp1 hp2 hp':Hp}
theorem dA (g i f:Nat) {M:MF} {T:TypeId} {xs:List D} (ys:List D) (hM:hfam hp f=some [.multi M])
  (hE:AY f env=some env') (hH:AW f hp=some hp1) (hh:CA f hp1=some hp2) (ho:hget hp2 g i=some (.rowD T 1 xs)) (hlen:ys.length=xs.length)
  (hxy:∀(j:Nat) x y,xs[j]? =some x ->ys[j]? =some y ->Melt M x y) (h1:(∀x∈xs,x.one=true)∧∀y∈ys,y.one=true) (hset:BL hp2 g i (.rowD T 1 ys)=some hp') (h:Bn P F c Q ⟨n,env',hp'⟩):Bn P F c Q ⟨n,env,hp⟩:=
 fun ρ act w hs=>h ρ act w (hs.melt g i f hM hE hH hh ho hlen hxy h1 hset)
end
theorem SR.weakRow {F:Fr} {s:AS} {ρ:Nat ->Nat ->Value} {act:Act} {w:World} (hs:SR F s ρ act w) (g i:Nat) {T:TypeId} {xs ys:List D} {hp':Hp} (ho:hget s.hp g i=some (.rowD T 1 xs)) (hlen:ys.length=xs.length)
  (hxy:∀(j:Nat) x y,xs[j]? =some x ->ys[j]? =some y ->∀w O v,AQ w O x v ->AQ w O y v) (h1:(∀x∈xs,x.one=true)∧∀y∈ys,y.one=true) (hset:BL s.hp g i (.rowD T 1 ys)=some hp'):SR F ⟨s.n,s.env,hp'⟩ ρ act w:=by
 have hone:∀z:D,z.one=true ->z.cells=[z]:=fun z hz=>by
  cases z with
  | agg cs=>simp [D.one] at hz
  | _=>rfl
 refine hs.write g i (.rowD T 1 xs) (.rowD T 1 ys) ho (Ak hset) Z Z Z Z (fun _ _=>rfl) (fun _ _ e=>by cases e) fun hrep=>?_;obtain ⟨us,k1,k2,k3⟩:=hs.heap.sim g i _ ho;refine ⟨us,by rw [hlen];exact k1,⟨by rw [hlen];exact k2.1,fun y hy=>by rw [hone y (h1.2 y hy)];rfl,fun j y hj q c hc=>?_⟩,fun y hy c hc=>by rw [hone y (h1.2 y hy),ξ] at hc;rw [hc];exact h1.2 y hy⟩;have hjl:j<xs.length:=by rw [←hlen];exact (χ.1 hj).1
 have hx:xs[j]? =some xs[j]:=ω hjl;rw [hone y (h1.2 y (ζ hj))] at hc
 cases q with
 | succ q=>cases hc
 | zero=>
  injection hc with hc
  subst hc;obtain ⟨u,d1,d2,d3⟩:=k2.2.2 j _ hx 0 _ (by rw [hone _ (h1.1 _ (κ hjl))];rfl);refine ⟨u,d1,d2,?_⟩;have h4:=hrep (.d y) u (.d (hxy j _ _ hx hj _ _ _ d3))
  cases h4 with | d h4=>exact h4
section
variable {P:Program} {F:Fr} {Q:Exit ->AS ->Prop} {c:Code} {n:Nat} {env:List (Nat×AV)} {hp hp':Hp}
theorem P9 (g i:Nat) {T:TypeId} {xs:List D} (ys:List D) (ho:hget hp g i=some (.rowD T 1 xs)) (hlen:ys.length=xs.length)
  (hxy:∀(j:Nat) x y,xs[j]? =some x ->ys[j]? =some y ->∀w O v,AQ w O x v ->AQ w O y v) (h1:(∀x∈xs,x.one=true)∧∀y∈ys,y.one=true) (hset:BL hp g i (.rowD T 1 ys)=some hp') (h:Bn P F c Q ⟨n,env,hp'⟩):Bn P F c Q ⟨n,env,hp⟩:=
 fun ρ act w hs=>h ρ act w (hs.weakRow g i ho hlen hxy h1 hset)
end
structure Lg (M:MF) (n:Nat) (hs:Nat ->Hd) (ls:Nat ->List Nat):Prop where
 at_:∀j,j<n ->BF M (hs j) 3 1 ((ls j).map AN)
 inj:∀j k b c c',j<n ->k<n ->hs j=some (b,c) ->hs k=some (b,c') ->j=k
abbrev rowH (n:Nat) (hs:Nat ->Hd) (ls:Nat ->List Nat):List D:=(List.range n).map fun j=>hdr (hs j) (ls j).length
theorem JQ {n j:Nat} {hs:Nat ->Hd} {ls:Nat ->List Nat} (h:j<n):(rowH n hs ls)[j]? =some (hdr (hs j) (ls j).length):=by simp [h]
theorem Ez (n:Nat) (hs:Nat ->Hd) (ls:Nat ->List Nat):(rowH n hs ls).length=n:=by simp
theorem R2 {n j:Nat} {hs:Nat ->Hd} {ls:Nat ->List Nat} {h:Hd} {l:List Nat}:(rowH n hs ls).set j (hdr h l.length)=rowH n (Ar hs j h) (Ar ls j l):=
 Lm (fun i _ hne=>by rw [GL hne,GL hne]) (by rw [KH,KH])
theorem Lg.zero (n:Nat):Lg (fun _=>none) n (fun _=>none) (fun _=> []):=⟨fun _ _=>rfl,fun _ _ _ _ _ _ _ h=>by cases h⟩
theorem Lg.app {M:MF} {n j:Nat} {hs:Nat ->Hd} {ls:Nat ->List Nat} (h:Lg M n hs ls) (hj:j<n) {l:List Nat} {b c:Nat} (hb:B1 M (hs j) b=none) (hc:(l.map AN).length≤c):
  Lg (BO (B1 M (hs j)) b (.row 3 1 c (l.map AN))) n (Ar hs j (some (b,c))) (Ar ls j l):=by
 have hne:∀k,k<n ->k≠j ->∀b' c',hs k=some (b',c') ->b'≠b∧BO (B1 M (hs j)) b (.row 3 1 c (l.map AN)) b'=M b':=by
  intro k hk hkj b' c' e;have h1:=h.at_ k hk;rw [e] at h1;have h2:∀c'',hs j≠some (b',c''):=fun c'' e2=>hkj (h.inj k j b' c' c'' hk hj e e2);refine ⟨fun e3=>?_,?_⟩
  ·subst e3;have:=Ir h1.2 h2;rw [hb] at this;cases this
  ·rw [keepM hb h1.2 h2,h1.2]
 refine ⟨fun k hk=>?_,fun k k' b1 c1 c2 hk hk' e1 e2=>?_⟩
 ·by_cases e:k=j
  ·subst e;rw [KH,KH];exact ⟨hc,EX _ _ _⟩
  ·rw [GL e,GL e];have h1:=h.at_ k hk
   match hh:hs k,h1 with
   | none,h1=>exact h1
   | some (b',c'),h1=>exact ⟨h1.1,by rw [(hne k hk e b' c' hh).2];exact h1.2⟩
 ·by_cases ek:k=j<;>by_cases ek':k'=j
  ·rw [ek,ek']
  ·subst ek;rw [KH] at e1;rw [GL ek'] at e2;injection e1 with e1;injection e1 with e1 _;subst e1
   exact ((hne k' hk' ek' _ _ e2).1 Z).elim
  ·subst ek';rw [KH] at e2;rw [GL ek] at e1;injection e2 with e2;injection e2 with e2 _;subst e2
   exact ((hne k hk ek _ _ e1).1 Z).elim
  ·rw [GL ek] at e1;rw [GL ek'] at e2;exact h.inj k k' b1 c1 c2 hk hk' e1 e2
def bo (n:Nat) (ls:Nat ->List Nat):List (List Nat):=(List.range n).map ls
theorem T9 (n:Nat) (ls:Nat ->List Nat):(bo n ls).length=n:=by simp [bo]
theorem Sd {n i:Nat} {ls:Nat ->List Nat} (h:i<n):sucs (bo n ls) i=ls i:=by
 rw [Dy (by rw [T9];exact h)];simp [bo]
theorem Lg.melt {M:MF} {n:Nat} {hs:Nat ->Hd} {ls:Nat ->List Nat} (h:Lg M n hs ls):∀(j:Nat) x y,(rowH n hs ls)[j]? =some x ->((bo n ls).map natsD)[j]? =some y ->Melt M x y:=by
 intro j x y hx hy;have hj:j<n:=by have:=(χ.1 hx).1;rwa [Ez] at this
 rw [JQ hj] at hx;injection hx with hx
 rw [Sf (by rw [T9];exact hj),Sd hj] at hy;injection hy with hy
 subst hx hy;exact .inr ⟨hs j,3,(ls j).map AN,by rw [ψ],h.at_ j hj,fun z hz=>by obtain ⟨a,_,rfl⟩:=ν.1 hz;rfl,Z⟩
theorem JZ (n:Nat) (hs:Nat ->Hd) (ls:Nat ->List Nat):∀x∈rowH n hs ls,x.one=true:=fun x hx=>by
 obtain ⟨a,_,rfl⟩:=ν.1 hx;rfl
theorem aS (g:List (List Nat)):∀x∈g.map natsD,x.one=true:=fun x hx=>by
 obtain ⟨a,_,rfl⟩:=ν.1 hx;rfl
theorem SD (n:Nat):∀(j:Nat) x y,(List.replicate n (D.sl (some true) []))[j]? =some x ->(rowH n (fun _=>none) (fun _=> []))[j]? =some y ->∀w O v,AQ w O x v ->AQ w O y v:=by
 intro j x y hx hy w O v hr;have hj:j<n:=by have:=(χ.1 hx).1;rwa [List.length_replicate] at this
 rw [JQ hj] at hy;injection hy with hy
 have hx':x=D.sl (some true) []:=by rw [List.getElem?_replicate,θ hj] at hx;injection hx with hx;exact hx.symm
 subst hx' hy;exact hr.nrm1
theorem Vk (n:Nat):∀x∈List.replicate n (D.sl (some true) []),x.one=true:=fun x hx=>by rw [(List.mem_replicate.1 hx).2];rfl
theorem grd_ex (g:List (List Nat)) (K:Nat ->Nat):∃out,Qn g K out∧∀y,¬C6 g out y:=by
 have key:∀(m:Nat) (l:List Nat),Qn g K l ->g.length - l.length≤m ->∃out,Qn g K out∧∀y,¬C6 g out y:=by
  intro m
  induction m with
  | zero=>
   intro l hl hm;refine ⟨l,hl,fun y hy=>?_⟩;obtain ⟨h1,h2⟩:=IN hl;have:=DN (φb.2 ⟨hy.2.1,h1⟩) (m:=List.range g.length) fun x hx=>Θ.2 ((Φ.1 hx).elim (fun e=>e▸hy.1) (h2 x));rw [ψl,ωh] at this;omega
  | succ m ih=>
   intro l hl hm
   by_cases he:∃y,C6 g l y
   ·have hmin:∀(b:Nat) y,C6 g l y ->K y≤b ->∃x,C6 g l x∧∀z,C6 g l z ->K x≤K z:=by
     intro b
     induction b with
     | zero=>intro y hy hb;exact ⟨y,hy,fun z _=>by omega⟩
     | succ b ihb=>
      intro y hy hb
      by_cases h2:∃z,C6 g l z∧K z≤b
      ·obtain ⟨z,hz,hzb⟩:=h2;exact ihb z hz hzb
      ·exact ⟨y,hy,fun z hz=>by
        have:¬K z≤b:=fun h=>h2 ⟨z,hz,h⟩
        omega⟩
    obtain ⟨y,hy⟩:=he;obtain ⟨x,hx,hxm⟩:=hmin (K y) y hy (ϖ _);refine ih (l++ [x]) (Sc hl hx hxm) ?_;rw [ς,Ψ];omega
   ·exact ⟨l,hl,fun y hy=>he ⟨y,hy⟩⟩
 exact key _ [] (fun i hi=>by simp at hi) (ϖ _)
theorem K9 (g:List (List Nat)) (K:Nat ->Nat):Qn g K (ordG g K)∧∀y,¬C6 g (ordG g K) y:=Classical.epsilon_spec (p:=fun out=>Qn g K out∧∀y,¬C6 g out y) (grd_ex g K)
theorem ordG_lt {g:List (List Nat)} {K:Nat ->Nat} {k:Nat} (h:k<(ordG g K).length):nth (ordG g K) k<g.length:=(IN (K9 g K).1).2 _ (Ch h)
theorem aQ (g:List (List Nat)) (K:Nat ->Nat):(ordG g K).length≤g.length:=by
 obtain ⟨h1,h2⟩:=IN (K9 g K).1;have:=DN h1 (m:=List.range g.length) fun x hx=>Θ.2 (h2 x hx)
 rwa [ωh] at this
def lfT (of:Nat ->Nat) (n:Nat):Nat ->Nat ->Nat
 | 0=>fun _=>0
 | d+1=>Ar (lfT of n d) (of (n - 1 - d)) (n - 1 - d)
theorem Ha (of:Nat ->Nat) (n:Nat):∀d,d≤n ->∀c,(∃v,n - d≤v∧v<n∧of v=c) ->of (lfT of n d c)=c∧lfT of n d c<n∧∀v,n - d≤v ->v<n ->of v=c ->lfT of n d c≤v
 | 0,_,c,⟨v,h1,h2,_⟩=>by omega
 | d+1,hd,c,⟨v,h1,h2,h3⟩=>by
  unfold lfT
  by_cases e:c=of (n - 1 - d)
  ·subst e;rw [KH];exact ⟨Z,by omega,fun v hv _ _=>by omega⟩
  ·rw [GL e];have hv:v≠n - 1 - d:=fun e2=>e (by rw [←h3,e2]);obtain ⟨q1,q2,q3⟩:=Ha of n d (by omega) c ⟨v,by omega,h2,h3⟩;refine ⟨q1,q2,fun u hu hun hc=>q3 u ?_ hun hc⟩;have:u≠n - 1 - d:=fun e2=>e (by rw [←hc,e2]);omega
def Ti (of:Nat ->Nat) (n cnt:Nat):List Nat:=(List.range cnt).map (lfT of n n)
theorem Lw {of:Nat ->Nat} {n cnt c:Nat} (h:c<cnt):nth (Ti of n cnt) c=lfT of n n c:=by
 unfold Ti;rw [Nw (by simpa using h)];simp
theorem lfL_len (of:Nat ->Nat) (n cnt:Nat):(Ti of n cnt).length=cnt:=by simp [Ti]
theorem Zi (n:Nat) (f:Nat ->Nat):rowN n f=((List.range n).map f).map AN:=by rw [ωr];rfl
theorem lf_inj {n cnt:Nat} {suc:Nat ->List Nat} {of:Nat ->Nat} (h:SccOf n suc of cnt):∀a b,a<cnt ->b<cnt ->nth (Ti of n cnt) a=nth (Ti of n cnt) b ->a=b:=by
 intro a b ha hb e;rw [Lw ha,Lw hb] at e;obtain ⟨v,hv,hv2⟩:=h.use a ha;obtain ⟨u,hu,hu2⟩:=h.use b hb;have h1:=(Ha of n n (ϖ _) a ⟨v,by omega,hv,hv2⟩).1;have h2:=(Ha of n n (ϖ _) b ⟨u,by omega,hu,hu2⟩).1;rw [←h1,e,h2]
def W2 (of:Nat ->Nat) (a:Nat) (l:List Nat):List Nat:=(l.filter fun x=>decide (of a≠of x)).map of
def Lc (g:List (List Nat)) (of:Nat ->Nat) (i k c:Nat):List Nat:=((List.range i).flatMap fun a=>if of a=c then W2 of a (sucs g a) else [])++if of i=c then W2 of i ((sucs g i).take k) else []
theorem cH (g:List (List Nat)) (of:Nat ->Nat):Lc g of 0 0=fun _=> []:=by funext c;simp [Lc,W2]
theorem WZ (g:List (List Nat)) (of:Nat ->Nat) (i:Nat):Lc g of i (sucs g i).length=Lc g of (i+1) 0:=by
 funext c
 unfold Lc;rw [ωw,ψm,List.flatMap_append]
 simp [W2]
theorem St {of:Nat ->Nat} {a k:Nat} {l:List Nat} (hk:k<l.length):W2 of a (l.take (k+1))=W2 of a (l.take k)++if of a≠of (nth l k) then [of (nth l k)] else []:=by
 unfold W2;rw [φ hk,ψc,ωe,Nw hk]
 congr 1
 by_cases h:of a≠of l[k]
 ·rw [θ h,List.filter_cons_of_pos (by simpa using h)];rfl
 ·rw [ϑ h,List.filter_cons_of_neg (by simpa using h)];rfl
theorem cI {g:List (List Nat)} {of:Nat ->Nat} {i k:Nat} (hk:k<(sucs g i).length) (h:of i≠of (nth (sucs g i) k)):Ar (Lc g of i k) (of i) (Lc g of i k (of i)++ [of (nth (sucs g i) k)])=Lc g of i (k+1):=by
 funext c
 by_cases e:c=of i
 ·subst e;rw [KH];unfold Lc;rw [θ Z,θ Z,St hk,θ h,ψk]
 ·rw [GL e];unfold Lc;rw [ϑ fun h=>e h.symm,ϑ fun h=>e h.symm]
theorem cJ {g:List (List Nat)} {of:Nat ->Nat} {i k:Nat} (hk:k<(sucs g i).length) (h:¬of i≠of (nth (sucs g i) k)):Lc g of i k=Lc g of i (k+1):=by
 funext c
 unfold Lc;rw [St hk,ϑ h,ωl]
def HK (g:List (List Nat)) (i:Nat):Nat:=((List.range i).map fun a=>(sucs g a).length).sum
theorem W1 (of:Nat ->Nat) (a:Nat) (l:List Nat):(W2 of a l).length≤l.length:=by unfold W2;rw [ψ];exact ωj _ _
theorem W0 (g:List (List Nat)) (of:Nat ->Nat) (i k c:Nat):(Lc g of i k c).length≤HK g i+((sucs g i).take k).length:=by
 have key:∀m,((List.range m).flatMap fun a=>if of a=c then W2 of a (sucs g a) else []).length≤HK g m:=by
  intro m
  induction m with
  | zero=>exact Δ _
  | succ m ih=>
   unfold HK at ih⊢;rw [ψm,List.flatMap_append,ς,ωe,χc,List.flatMap_singleton,φi,List.sum_singleton];refine Nat.add_le_add ih ?_
   split
   ·exact W1 _ _ _
   ·exact Δ _
 unfold Lc;rw [ς];refine Nat.add_le_add (key i) ?_
 split
 ·exact W1 _ _ _
 ·exact Δ _
theorem O8 (g:List (List Nat)) {i j:Nat} (h:i≤j):HK g i≤HK g j:=by
 induction j with
 | zero=>
  have:i=0:=by omega
  subst this;exact ϖ _
 | succ j ih=>
  by_cases e:i=j+1
  ·subst e;exact ϖ _
  ·have:=ih (by omega);have h2:HK g (j+1)=HK g j+(sucs g j).length:=by unfold HK;rw [ψm,ωe,χc];simp
   omega
structure GT (g:List (List Nat)):Prop where
 gb:GB g
 tot:HK g g.length≤1048576
def Ju (g:List (List Nat)) (of:Nat ->Nat) (cnt:Nat):List (List Nat):=bo cnt (Lc g of g.length 0)
theorem edG_gb {g:List (List Nat)} {of:Nat ->Nat} {cnt:Nat} (hg:GT g) (h:SccOf g.length (sucs g) of cnt):GB (Ju g of cnt):=by
 have hn:=hg.gb.n;have hle:=h.le;refine ⟨by rw [Ju,T9];omega,fun l hl=>?_,fun l hl x hx=>?_⟩
 ·obtain ⟨c,_,rfl⟩:=ν.1 hl;have:=W0 g of g.length 0 c;have:=hg.tot
  simp at*;omega
 ·obtain ⟨c,_,rfl⟩:=ν.1 hl;rw [Ju,T9]
  have key:∀a l,a<g.length ->(∀x∈l,x<g.length) ->x∈W2 of a l ->x<cnt:=fun a l _ hl hx=>by
   unfold W2 at hx;obtain ⟨y,hy,rfl⟩:=ν.1 hx;exact h.lt y (hl y (Ω.1 hy).1)
  unfold Lc at hx;rcases υ.1 hx with hx | hx
  ·obtain ⟨a,ha,hx⟩:=χk.1 hx
   split at hx
   ·exact key a _ (Θ.1 ha) (fun y hy=>hg.gb.suc (Θ.1 ha) hy) hx
   ·cases hx
  ·rw [List.take_zero] at hx
   split at hx
   ·simp [W2] at hx
   ·cases hx
def DC (seq:List Nat):Nat ->Nat ->Nat
 | 0=>fun _=>0
 | k+1=>Ar (DC seq k) (nth seq k) k
theorem Vy (seq:List Nat) {cnt:Nat} (h0:0<cnt) (hs:seq.length≤cnt):∀k,k≤seq.length ->∀c,DC seq k c<cnt
 | 0,_,c=>h0
 | k+1,hk,c=>by
  unfold DC
  by_cases e:c=nth seq k
  ·subst e;rw [KH];omega
  ·rw [GL e];exact Vy seq h0 hs k (by omega) c
noncomputable def conS (g:List (List Nat)) (of:Nat ->Nat) (cnt:Nat):List Nat:=ordG (Ju g of cnt) (nth (Ti of g.length cnt))
noncomputable def conM (g:List (List Nat)) (of:Nat ->Nat) (cnt:Nat):Nat ->Nat:=DC (conS g of cnt) (conS g of cnt).length
def FC (no:Nat ->Nat) (i c:Nat):List Nat:=(List.range i).filter fun v=>decide (no v=c)
def ofT (of no:Nat ->Nat) (i v:Nat):Nat:=if v<i then no v else of v
theorem X2 (no:Nat ->Nat) (i:Nat):Ar (FC no i) (no i) (FC no i (no i)++ [i])=FC no (i+1):=by
 funext c
 by_cases e:c=no i
 ·subst e;rw [KH];unfold FC;rw [ψm,ψc,List.filter_cons_of_pos (by simp)];rfl
 ·rw [GL e];unfold FC;rw [ψm,ψc,List.filter_cons_of_neg (by simpa using fun h=>e h.symm)];simp
theorem aO (no:Nat ->Nat) (i c:Nat):(FC no i c).length≤i:=by
 unfold FC;exact ωf (ωj _ _) (by simp)
theorem aX (of no:Nat ->Nat) (i:Nat):Ar (ofT of no i) i (no i)=ofT of no (i+1):=by
 funext v
 by_cases e:v=i
 ·subst e;rw [KH,ofT,θ (by omega)]
 ·rw [GL e];unfold ofT
  by_cases h:v<i
  ·rw [θ h,θ (by omega)]
  ·rw [ϑ h,ϑ (by omega)]
structure CN (n:Nat) (suc:Nat ->List Nat) (no:Nat ->Nat) (cnt:Nat):Prop where
 lt:∀v,v<n ->no v<cnt
 scc:∀i j,i<n ->j<n ->(no i=no j↔Rh suc i j∧Rh suc j i)
 use:∀c,c<cnt ->∃v,v<n∧no v=c
 top:∀u v,u<n ->v<n ->v∈suc u ->no u≤no v
 mn:∀c,c<cnt ->∀i,i<n ->c≤no i ->(∀k,k<n ->c≤no k ->Rh suc k i ->Rh suc i k) ->∃j,j<n∧no j=c∧j≤i
theorem CN.rh {n:Nat} {suc:Nat ->List Nat} {no:Nat ->Nat} {cnt:Nat} (h:CN n suc no cnt) (hs:∀v,v<n ->∀y∈suc v,y<n) {u v:Nat} (hu:u<n) (hr:Rh suc u v):v<n∧no u≤no v:=by
 induction hr with
 | refl=>exact ⟨hu,ϖ _⟩
 | step _ e ih=>
  have h2:=hs _ ih.1 _ e;exact ⟨h2,ωf ih.2 (h.top _ _ ih.1 h2 e)⟩
theorem CN.crit {n:Nat} {suc:Nat ->List Nat} {no:Nat ->Nat} {cnt:Nat} (h:CN n suc no cnt) (hs:∀v,v<n ->∀y∈suc v,y<n) {c i:Nat} (hi:i<n) (hc:no i=c):∀k,k<n ->c≤no k ->Rh suc k i ->Rh suc i k:=fun k hk hck hr=>by
 have:=(h.rh hs hk hr).2;exact ((h.scc i k hi hk).1 (by omega)).1
theorem exmin (p:Nat ->Prop):∀(m x:Nat),p x ->x≤m ->∃y,p y∧∀z,p z ->y≤z:=by
 intro m
 induction m with
 | zero=>intro x hx hm;exact ⟨x,hx,fun z _=>by omega⟩
 | succ m ih=>
  intro x hx hm
  by_cases h:∃y,p y∧y≤m
  ·obtain ⟨y,hy,hym⟩:=h;exact ih y hy hym
  ·exact ⟨x,hx,fun z hz=>by
    have:¬z≤m:=fun h2=>h ⟨z,hz,h2⟩
    omega⟩
theorem Ni {n:Nat} {suc:Nat ->List Nat} {no no':Nat ->Nat} {cnt cnt':Nat} (h:CN n suc no cnt) (h':CN n suc no' cnt') (hs:∀v,v<n ->∀y∈suc v,y<n):
  ∀c,c≤cnt ->c≤cnt' ->∀v,v<n ->∀d,d<c ->(no v=d↔no' v=d)
 | 0,_,_,v,_,d,hd=>by omega
 | c+1,h1,h2,v,hv,d,hd=>by
  have ih:=Ni h h' hs c (by omega) (by omega)
  by_cases e:d<c
  ·exact ih v hv d e
  ·have e:d=c:=by omega
   subst e
   have hge:∀v,v<n ->(d≤no v↔d≤no' v):=fun v hv=>by
    constructor
    ·intro h3;rcases χm (no' v) d with h4 | h4
     ·have:=(ih v hv _ h4).2 rfl;omega
     ·exact h4
    ·intro h3;rcases χm (no v) d with h4 | h4
     ·have:=(ih v hv _ h4).1 rfl;omega
     ·exact h4
   obtain ⟨x,hx,hxd⟩:=h.use d (by omega);obtain ⟨i,⟨hi,hid⟩,him⟩:=exmin (fun y=>y<n∧no y=d) x x ⟨hx,hxd⟩ (ϖ _);obtain ⟨j,hj,hjd,hji⟩:=h'.mn d (by omega) i hi ((hge i hi).1 (by omega)) fun k hk hck hr=>h.crit hs hi hid k hk ((hge k hk).2 hck) hr;obtain ⟨i2,hi2,hi2d,hi2j⟩:=h.mn d (by omega) j hj ((hge j hj).2 (by omega)) fun k hk hck hr=>h'.crit hs hj hjd k hk ((hge k hk).1 hck) hr;have:=him i2 ⟨hi2,hi2d⟩;have hij:i=j:=by omega
   subst hij;rw [←hid,h.scc v i hv hi,hid,←hjd,h'.scc v i hv hi]
theorem cn_uniq {n:Nat} {suc:Nat ->List Nat} {no no':Nat ->Nat} {cnt cnt':Nat} (h:CN n suc no cnt) (h':CN n suc no' cnt') (hs:∀v,v<n ->∀y∈suc v,y<n):cnt=cnt'∧∀v,v<n ->no v=no' v:=by
 have key:∀{no no':Nat ->Nat} {cnt cnt':Nat},CN n suc no cnt ->CN n suc no' cnt' ->cnt≤cnt':=by
  intro no no' cnt cnt' h h';rcases χm cnt' cnt with hlt | hge
  ·obtain ⟨v,hv,hvc⟩:=h.use cnt' hlt;have h1:=h'.lt v hv;have:=(Ni h h' hs cnt' (by omega) (ϖ _) v hv (no' v) h1).2 rfl;omega
  ·exact hge
 have e:cnt=cnt':=Nat.le_antisymm (key h h') (key h' h);subst e;exact ⟨Z,fun v hv=>((Ni h h' hs cnt (ϖ _) (ϖ _) v hv (no' v) (h'.lt v hv)).2 Z)⟩
theorem Q0 {g:List (List Nat)} {of:Nat ->Nat} {cnt c x:Nat} (hc:c<cnt):x∈sucs (Ju g of cnt) c↔∃a,a<g.length∧of a=c∧∃y∈sucs g a,of a≠of y∧of y=x:=by
 rw [Ju,Sd hc];unfold Lc W2;rw [List.take_zero];simp only [List.filter_nil,List.map_nil,ite_self,ωl,χk,Θ]
 constructor
 ·rintro ⟨a,ha,hx⟩
  split at hx
  ·rename_i e
   obtain ⟨y,hy,rfl⟩:=ν.1 hx;obtain ⟨hy1,hy2⟩:=Ω.1 hy;exact ⟨a,ha,e,y,hy1,ωy hy2,Z⟩
  ·cases hx
 ·rintro ⟨a,ha,e,y,hy,hne,rfl⟩;refine ⟨a,ha,?_⟩;rw [θ e];exact ν.2 ⟨y,Ω.2 ⟨hy,ωc hne⟩,Z⟩
theorem Vz {seq:List Nat} (hn:seq.Nodup):∀m,m≤seq.length ->∀k,k<m ->DC seq m (nth seq k)=k
 | 0,_,k,hk=>by omega
 | m+1,hm,k,hk=>by
  unfold DC
  by_cases e:k=m
  ·subst e;rw [KH]
  ·rw [GL,Vz hn m (by omega) k (by omega)];rw [Nw (by omega),Nw (by omega)];intro e2;exact e ((List.getElem_inj hn).1 e2)
theorem con_all {g:List (List Nat)} (hg:GB g) {of:Nat ->Nat} {cnt:Nat} (h:SccOf g.length (sucs g) of cnt) {K:Nat ->Nat} {seq:List Nat} (hm:∀y,¬C6 (Ju g of cnt) seq y):∀c,c<cnt ->c∈seq:=by
 let Rc:Nat ->Nat ->Prop:=fun d c=>∃u v,u<g.length∧v<g.length∧of u=d∧of v=c∧Rh (sucs g) u v
 have dec:∀c,DecidablePred fun d=>Rc d c:=fun c d=>Classical.propDecidable _
 let f:Nat ->Nat:=fun c=>((List.range cnt).filter fun d=> @decide (Rc d c) (dec c d)).length
 have hstep:∀k c,k<cnt ->c∈sucs (Ju g of cnt) k ->f k<f c:=by
  intro k c hk hc;obtain ⟨a,ha,rfl,y,hy,hne,rfl⟩:=(Q0 hk).1 hc;have hyl:=hg.suc ha hy
  have:=DN (l:=of y::(List.range cnt).filter fun d=> @decide (Rc d (of a)) (dec (of a) d)) (m:=(List.range cnt).filter fun d=> @decide (Rc d (of y)) (dec (of y) d)) (φb.2 ⟨fun hm=>by
   obtain ⟨_,h2⟩:=Ω.1 hm;obtain ⟨u,v,hu,hv,e1,e2,hr⟩:= @of_decide_eq_true _ (dec _ _) h2;have h3:=(h.scc u y hu hyl).1 e1;have h4:=(h.scc v a hv ha).1 e2
   exact hne ((h.scc a y ha hyl).2 ⟨Rh.one hy,h3.2.trans (hr.trans h4.1)⟩),List.nodup_range.filter _⟩) (fun x hx=>by
   rcases Φ.1 hx with rfl | hx
   ·exact Ω.2 ⟨Θ.2 (h.lt y hyl), @decide_eq_true _ (dec _ _) ⟨y,y,hyl,hyl,Z,Z,.refl y⟩⟩
   ·obtain ⟨h1,h2⟩:=Ω.1 hx;obtain ⟨u,v,hu,hv,e1,e2,hr⟩:= @of_decide_eq_true _ (dec _ _) h2;have h4:=(h.scc v a hv ha).1 e2
    exact Ω.2 ⟨h1, @decide_eq_true _ (dec _ _) ⟨u,y,hu,hyl,e1,Z,hr.trans (h4.1.trans (Rh.one hy))⟩⟩)
  rw [ψl] at this;exact this
 have key:∀(m c:Nat),f c≤m ->c<cnt ->c∈seq:=by
  intro m
  induction m with
  | zero=>
   intro c hf hc;refine Classical.byContradiction fun hn=>hm c ⟨by rw [Ju,T9];exact hc,hn,fun k hk _ hin=>?_⟩;rw [Ju,T9] at hk;have:=hstep k c hk hin;omega
  | succ m ih=>
   intro c hf hc;refine Classical.byContradiction fun hn=>hm c ⟨by rw [Ju,T9];exact hc,hn,fun k hk hkn hin=>?_⟩;rw [Ju,T9] at hk;exact hkn (ih k (by have:=hstep k c hk hin;omega) hk)
 exact fun c hc=>key (f c) c (ϖ _) hc
theorem Uq {g:List (List Nat)} (hg:GT g) {of:Nat ->Nat} {cnt:Nat} (h:SccOf g.length (sucs g) of cnt):CN g.length (sucs g) (fun v=>conM g of cnt (of v)) cnt:=by
 obtain ⟨h1,h2⟩:=K9 (Ju g of cnt) (nth (Ti of g.length cnt));have hsq:ordG (Ju g of cnt) (nth (Ti of g.length cnt))=conS g of cnt:=rfl;rw [hsq] at h1 h2;have hM:∀c,conM g of cnt c=DC (conS g of cnt) (conS g of cnt).length c:=fun _=>rfl;have hall:=con_all hg.gb h (K:=nth (Ti of g.length cnt)) h2;obtain ⟨hnd,hlt⟩:=IN h1;have hEl:(Ju g of cnt).length=cnt:=by rw [Ju,T9]
 rw [hEl] at hlt
 obtain ⟨seq,hseq⟩:∃seq,conS g of cnt=seq:=⟨_,Z⟩
 rw [hseq] at h1 h2 hall hnd hlt;simp only [hseq] at hM
 have hlen:seq.length=cnt:=Nat.le_antisymm (by have:=DN hnd (m:=List.range cnt) fun x hx=>Θ.2 (hlt x hx);rwa [ωh] at this)
  (by have:=DN (List.nodup_range (n:=cnt)) (m:=seq) fun x hx=>hall x (Θ.1 hx);rwa [ωh] at this)
 have hat:∀k,k<cnt ->conM g of cnt (nth seq k)=k:=fun k hk=>by rw [hM];exact Vz hnd _ (ϖ _) k (by omega)
 have hpos:∀c,c<cnt ->∃k,k<cnt∧nth seq k=c∧conM g of cnt c=k:=fun c hc=>by
  obtain ⟨k,hk,rfl⟩:=χp.1 (hall c hc);exact ⟨k,by omega,Nw hk,by rw [←Nw hk];exact hat k (by omega)⟩
 have hnin:∀c d,c<cnt ->c≤conM g of cnt d ->d<cnt ->d∉seq.take c:=fun c d hc hcd hd hm=>by
  obtain ⟨k,hk,e⟩:=χp.1 hm;rw [Υ] at hk;rw [List.getElem_take,←Nw (by omega)] at e;rw [←e,hat k (by omega)] at hcd;omega
 refine ⟨fun v hv=>?_,fun i j hi hj=>?_,fun c hc=>?_,fun u v hu hv he=>?_,fun c hc i hi hci hcr=>?_⟩
 ·obtain ⟨k,hk,_,e⟩:=hpos (of v) (h.lt v hv);show conM g of cnt (of v)<cnt;omega
 ·rw [←h.scc i j hi hj]
  constructor
  ·intro e;obtain ⟨k,_,e1,e2⟩:=hpos (of i) (h.lt i hi);obtain ⟨m,_,e3,e4⟩:=hpos (of j) (h.lt j hj);have e:conM g of cnt (of i)=conM g of cnt (of j):=e;rw [←e1,←e3,show k=m by omega]
  ·intro e;show conM g of cnt (of i)=conM g of cnt (of j);rw [e]
 ·obtain ⟨v,hv,e⟩:=h.use (nth seq c) (hlt _ (Ch (by omega)));exact ⟨v,hv,by show conM g of cnt (of v)=c;rw [e];exact hat c hc⟩
 ·show conM g of cnt (of u)≤conM g of cnt (of v)
  by_cases e:of u=of v
  ·rw [e];exact ϖ _
  ·obtain ⟨p,hp,e1,e2⟩:=hpos (of v) (h.lt v hv);have hav:=(h1 p (by omega)).1;rw [e1] at hav;have hin:of u∈seq.take p:=Classical.byContradiction fun hn=>hav.2.2 (of u) (by rw [hEl];exact h.lt u hu) hn ((Q0 (h.lt u hu)).2 ⟨u,hu,Z,v,he,e,Z⟩);obtain ⟨k,hk,e3⟩:=χp.1 hin;rw [Υ] at hk;rw [List.getElem_take,←Nw (by omega)] at e3;rw [←e3,hat k (by omega),e2];omega
 ·have hci:c≤conM g of cnt (of i):=hci
  have hav:C6 (Ju g of cnt) (seq.take c) (of i):=by
   refine ⟨by rw [hEl];exact h.lt i hi,hnin c _ hc hci (h.lt i hi),fun k hk hkn hin=>?_⟩;rw [hEl] at hk;obtain ⟨a,ha,rfl,y,hy,hne,hyi⟩:=(Q0 hk).1 hin;have hyl:=hg.gb.suc ha hy
   have hca:c≤conM g of cnt (of a):=by
    rcases χm (conM g of cnt (of a)) c with hl | hl
    ·obtain ⟨m,hm,e1,e2⟩:=hpos (of a) (h.lt a ha);exact (hkn (χp.2 ⟨m,by rw [Υ];omega,by rw [List.getElem_take,←Nw (by omega)];exact e1⟩)).elim
    ·exact hl
   have hyi2:=(h.scc y i hyl hi).1 hyi;have hai:Rh (sucs g) a i:=(Rh.one hy).trans hyi2.1;have:=(h.scc a i ha hi).2 ⟨hai,hcr a ha hca hai⟩;exact hne (by rw [this,hyi])
  have hK:=(h1 c (by omega)).2 _ hav;have hcc:nth seq c<cnt:=hlt _ (Ch (by omega));rw [Lw hcc,Lw (h.lt i hi)] at hK;obtain ⟨v,hv,hvc⟩:=h.use _ hcc;obtain ⟨q1,q2,_⟩:=Ha of g.length g.length (ϖ _) (nth seq c) ⟨v,by omega,hv,hvc⟩;obtain ⟨_,_,q3⟩:=Ha of g.length g.length (ϖ _) (of i) ⟨i,by omega,hi,Z⟩;exact ⟨_,q2,by show conM g of cnt (of _)=c;rw [q1];exact hat c hc,ωf hK (q3 i (by omega) hi Z)⟩
abbrev S4 (l:List Int):D:= .sl none (l.map AF)
abbrev grI (g:List (List Int)):D:= .sl none (g.map S4)
def KS (g:List (List Int)) (i:Nat):Nat:=((g.take i).map List.length).sum
def YX (n:Nat) (l:List Int):Prop:=∃x∈l,¬(0≤x∧x<(n:Int))
instance (n:Nat) (l:List Int):Decidable (YX n l):=inferInstanceAs (Decidable (∃x∈l,¬(0≤x∧x<(n:Int))))
def TR (g:List (List Int)):Int:=if 65536<g.length∨1048576<KS g g.length then 8 else if ∃l∈g,YX g.length l then 2 else 0
theorem KR {g:List (List Int)} {i:Nat} (h:i<g.length):KS g (i+1)=KS g i+g[i].length:=by
 unfold KS;rw [φ h,ωe,χc];simp
theorem VM {g:List (List Int)} (h:∀l∈g,l.length≤2000000):∀i,i≤g.length ->KS g i≤i*2000000
 | 0,_=>by simp [KS]
 | i+1,hi=>by
  have:=VM h i (by omega);have:=h g[i] (κ (by omega));rw [KR (by omega)];omega
theorem getI {l:List Int} {k:Nat} (h:k<l.length):(l.map AF)[k]? =some (AF l[k]):=Ah h
theorem getgI {g:List (List Int)} {i:Nat} (h:i<g.length):(g.map S4)[i]? =some (S4 g[i]):=Ah h
theorem chk8 {g:List (List Int)} (h:65536<g.length∨1048576<KS g g.length):(8:Int)=TR g:=by unfold TR;rw [θ h]
theorem chk2 {g:List (List Int)} (h1:¬65536<g.length) (h2:¬1048576<KS g g.length) (h:∃l∈g,YX g.length l):(2:Int)=TR g:=by
 unfold TR;rw [ϑ (fun h=>h.elim h1 h2),θ h]
theorem chk0 {g:List (List Int)} (h1:¬65536<g.length) (h2:¬1048576<KS g g.length) (h:¬∃l∈g,YX g.length l):(0:Int)=TR g:=by
 unfold TR;rw [ϑ (fun h=>h.elim h1 h2),ϑ h]
theorem ce (g:List (List Int)) (hn:g.length≤1000000) (hl:∀l∈g,l.length≤2000000):AO Tryz.prog 133 [.d (grI g)] (AF (TR g)):=by
 refine Az Tryz.func133 Z Z Tryz.ntmps133 Z Z Z fun F hF=>(AC (AE (AB Z Z (AD (AC (AE (AB Z Z (AD ?_))))))));refine AC (AC (AE (goMv Z Z (J (JE Z (ψ ..) Tryz.underlying147 Z) (goMv Z Z (AD (A4 (Gm (α:=Nat) (fun k=>⟨50,[(0,.d (grI g)),(3,(.d (AN (KS g k)))),(10,(.d (grI g))),(11,(.d (AN g.length))),(12,(.d (AN k)))],[]⟩) (fun k=>k≤g.length) (fun k=>g.length - k) (0) (Δ _) (dJ ⟨Z,Z,Z,Z,Z,trivial⟩) ?_))))))));intro k hk;refine AC (AE (J (BV Z Z Z) (AD (AC (Ae Z (fun h13=>?_) (fun h13=>?_))))))
 ·refine A1 (AC (A4 (AC ?_)));have hkl:k<g.length:=Bf h13;have htl:=VM hl k (by omega);have hll:=hl _ (κ hkl);have hts:=KR hkl;refine AE (J (Bk (k) Z Z (Z) (getgI hkl) Tryz.underlying147 Z Ce Z) (J (D0 Z Z BI Z) (AB Z Z (AD (AE (goMv Z Z (goMv Z Z ?_)))))));refine J (JE Z (ψ ..) Tryz.underlying28 Z) (J (Ay Z Z (ωa _ (by omega)) Z) (Io 19 (.d (AN (KS g (k+1)))) Z (eqv (Γ AF (by omega))) (AB Z Z (AD (AE (J (Ay Z Z (ωa _ (by omega)) Z) (goMv Z Z (AD ?_))))))));exact ⟨k+1,by omega,by omega,⟨Z,Z,fun _ _=>Tm.get (l:=[(0,_),(3,_),(10,_),(11,_),(12,_)]) ⟨Z,Z,Z,Z,Z,trivial⟩⟩⟩
 ·refine BC (AC (AC ?_));have hke:k=g.length:=by have:=h13;omega
  subst hke;refine AE (goMv Z Z (J (JE Z (ψ ..) Tryz.underlying147 Z) (J (ML Z Z Z) (goMv Z Z (Id 24 Z (fun h24=>?_) (fun h24=>?_))))))
  ·refine A9 Z Z Z Z ?_;refine A9 Z Z Z Z (J (Fb Z Z Z Z) (AD (DV Z Z (AC (AE (AB Z Z (AD (A5 ?_))))))));exact ⟨_,[],[],A3 Z,Z,Z,eqv (Γ AF (chk8 (by omega))),Z⟩
  ·refine Af Z Z Z (goMv Z Z (Af Z Z Z (J (ML Z Z Z) (J (DZ Z Z Z Z) (AD (Ae Z (fun h27=>?_) (fun h27=>?_)))))))
   ·refine AC (AE (AB Z Z (AD (A5 ?_))));exact ⟨_,[],[],A3 Z,Z,Z,eqv (Γ AF (chk8 (by omega))),Z⟩
   ·refine A1 (AC (AC ?_));have hc1:¬65536<g.length:=by omega
    have hc2:¬1048576<KS g g.length:=by omega
    refine AE (goMv Z Z (J (JE Z (ψ ..) Tryz.underlying147 Z) (goMv Z Z (AD (A4 (Gm (α:=Nat) (fun i=>⟨50,[(0,.d (grI g)),(28,(.d (grI g))),(29,(.d (AN g.length))),(30,(.d (AN i)))],[]⟩) (fun i=>i≤g.length∧∀l∈g.take i,¬YX g.length l) (fun i=>g.length - i) (0) (⟨Δ _,fun l hl=>by simp at hl⟩) (dJ ⟨Z,Z,Z,Z,trivial⟩) ?_))))));rintro i ⟨hi,hb⟩;refine AC (AE (J (BV Z Z Z) (AD (AC (Ae Z (fun h31=>?_) (fun h31=>?_))))))
    ·refine A1 (AC (A4 (AC ?_)));have hil:i<g.length:=Bf h31;have hll:=hl _ (κ hil);refine AE (J (Bk (i) Z Z (Z) (getgI hil) Tryz.underlying147 Z Ce Z) (J (D0 Z Z BI Z) (AB Z Z ?_)));refine AD (AC (AE (goMv Z Z (J (JE Z (ψ ..) Tryz.underlying28 Z) (goMv Z Z (AD (A4 (Gm (α:=Nat) (fun j=>⟨50,[(0,.d (grI g)),(28,(.d (grI g))),(29,(.d (AN g.length))),(30,(.d (AN i))),(34,(.d (S4 g[i]))),(35,(.d (AN g[i].length))),(36,(.d (AN j)))],[]⟩) (fun j=>j≤g[i].length∧∀x∈g[i].take j,0≤x∧x<(g.length:Int)) (fun j=>g[i].length - j) (0) (⟨Δ _,fun x hx=>by simp at hx⟩) (dJ ⟨Z,Z,Z,Z,Z,Z,Z,trivial⟩) ?_))))))));rintro j ⟨hj,hx⟩;refine AC (AE (J (BV Z Z Z) (AD (AC (Ae Z (fun h37=>?_) (fun h37=>?_))))))
     ·refine A1 (AC (A4 (AC ?_)));have hjl:j<g[i].length:=Bf h37;refine AE (J (Bk (j) Z Z (Z) (getI hjl) Tryz.underlying28 Z BA Z) ?_);refine J (D0 Z Z Aq Z) (AB Z Z (AD (AC (AE (goMv Z Z (J (BV Z Z Z) (goMv Z Z (Id 42 Z (fun h42=>?_) (fun h42=>?_)))))))))
      ·refine A9 Z Z Z Z (A9 Z Z Z Z (A9 Z Z Z Z ?_));refine A9 Z Z Z Z (J (Fb Z Z Z Z) (AD (DV Z Z (AC (AE (AB Z Z (AD (A5 ?_))))))));exact ⟨_,[],[],A3 Z,Z,Z,eqv (Γ AF (chk2 hc1 hc2 ⟨g[i],κ hil,g[i][j],κ hjl,by omega⟩)),Z⟩
      ·refine Af Z Z Z (goMv Z Z ?_);refine Af Z Z Z (goMv Z Z (Af Z Z Z (J (JE Z (ψ ..) Tryz.underlying147 Z) (Af Z Z Z (J (EO Z Z Z) (J (DZ Z Z Z Z) (AD (Ae Z (fun h47=>?_) (fun h47=>?_)))))))))
       ·refine AC (AE (AB Z Z (AD (A5 ?_))));exact ⟨_,[],[],A3 Z,Z,Z,eqv (Γ AF (chk2 hc1 hc2 ⟨g[i],κ hil,g[i][j],κ hjl,by omega⟩)),Z⟩
       ·refine A1 (AE (J (Ay Z Z (ωa _ (by omega)) Z) (goMv Z Z (AD ?_))));exact ⟨j+1,⟨by omega,fun x hxm=>by rw [φ hjl] at hxm;exact (υ.1 hxm).elim (hx x) fun e=>by rw [ξ.1 e];exact ⟨by omega,by omega⟩⟩,by omega,⟨Z,Z,fun _ _=>Tm.get (l:=[(0,_),(28,_),(29,_),(30,_),(34,_),(35,_),(36,_)]) ⟨Z,Z,Z,Z,Z,Z,Z,trivial⟩⟩⟩
     ·refine BC ?_;have hje:j=g[i].length:=by have:=h37;omega
      have hrow:¬YX g.length g[i]:=fun ⟨x,hx1,hx2⟩=>hx2 (hx x (by rw [hje,ωw];exact hx1));refine AE (J (Ay Z Z (ωa _ (by omega)) Z) (goMv Z Z (AD ?_)));exact ⟨i+1,⟨by omega,fun l hlm=>by rw [φ hil] at hlm;exact (υ.1 hlm).elim (hb l) fun e=>by rw [ξ.1 e];exact hrow⟩,by omega,⟨Z,Z,fun _ _=>Tm.get (l:=[(0,_),(28,_),(29,_),(30,_)]) ⟨Z,Z,Z,Z,trivial⟩⟩⟩
    ·refine BC (AC (AE (AB Z Z (AD (A5 ?_)))));have hie:i=g.length:=by have:=h31;omega
     exact ⟨_,[],[],A3 Z,Z,Z,eqv (Γ AF (chk0 hc1 hc2 (fun ⟨l,hl1,hl2⟩=>hb l (by rw [hie,ωw];exact hl1) hl2))),Z⟩
theorem VQ {n:Nat} {suc:Nat ->List Nat} {r:Nat} {S:TS} {cs0:List (Nat×Nat)} {v k:Nat} (h:TB n suc r S cs0 v k) (hk:k=(suc v).length) (hl:S.low v≠S.idx v):
  ∃cs1 u ku,cs0=cs1++ [(u,ku)]∧TH n suc r {S with low:=Ar S.low u (min (S.low u) (S.low v)),cs:=cs0} none:=by
 subst hk;have hv:=Ih h;have hle:=(h.ti.lw v hv.2.1).1;obtain ⟨cs1,u,ku,e,ht⟩:=ti_pop1 h.ti h.hcs (by omega);exact ⟨cs1,u,ku,e,ht,h.k1,h.old,.inl h.rt⟩
theorem VP {n:Nat} {suc:Nat ->List Nat} {r:Nat} {S:TS} {cs0:List (Nat×Nat)} {v k:Nat} {st1 st2:List Nat} (h:TB n suc r S cs0 v k) (hk:k=(suc v).length) (hl:S.low v=S.idx v) (hst:S.st=st1++v::st2):
  TH n suc r {S with of:=fun x=>if x∈v::st2 then (S.cnt:Int) else S.of x,st:=st1,cs:=cs0,cnt:=S.cnt+1} none∧∀cs1 u ku,cs0=cs1++ [(u,ku)] ->Ar S.low u (min (S.low u) (S.low v))=S.low:=by
 subst hk;obtain ⟨h1,h2⟩:=ti_pop2 h.ti h.hcs hl hst;refine ⟨⟨h2,h.k1,h.old,.inl h.rt⟩,fun cs1 u ku e=>funext fun x=>?_⟩
 by_cases ex:x=u
 ·subst ex;have:=h1 (x,ku) (by rw [e];exact ψi _ (ξ.2 Z));rw [KH];dsimp only at this;omega
 ·rw [GL ex]
theorem ZB {n:Nat} {suc:Nat ->List Nat} {r:Nat} {S:TS} {cs1:List (Nat×Nat)} {v k u ku:Nat} (h:TB n suc r S (cs1++ [(u,ku)]) v k):u<n∧v≠u:=by
 have hm:(u,ku)∈S.cs:=by rw [h.hcs];exact ψr _ (ψi _ (ξ.2 Z))
 refine ⟨h.ti.lt u ((h.ti.st u).1 (h.ti.csm _ hm)).1,fun e=>?_⟩;have hp:=h.ti.css;rw [h.hcs] at hp;have:=(HU hp).2 (u,ku) (ψi _ (ξ.2 Z));rw [e] at this;exact φg _ this
theorem JJ {n:Nat} {suc:Nat ->List Nat} {S:TS} {p:Option Nat} {v:Nat} {st1 st2:List Nat} (h:TI n suc S p) (hst:S.st=st1++v::st2):v∉st2:=by
 have hp:=h.srt;rw [hst,List.pairwise_append] at hp;intro hm;exact φg _ ((ψz.1 hp.2.1).1 v hm)
theorem getF2 {l m j:List (Nat×Nat)} {x:Nat×Nat} {k:Nat} (h:k=l.length):((l++ [x]++m++j).map Sh)[k]? =some (Sh x):=by
 subst h;simp
theorem getW {a c j:List Nat} {w k:Nat} (h:k=(a++c).length):((a++(c++ [w])++j).map AN)[k]? =some (AN w):=by
 subst h;rw [show a++(c++ [w])++j=(a++c)++(w::j) by simp,ωe,ωq (by simp)]
 simp
theorem Vs {n w:Nat} {f:Nat ->Int} {c:Nat} {dn:List Nat}:(D6 n (fun x=>if x∈dn then (c:Int) else f x)).set w (AN c)=D6 n (fun x=>if x∈w::dn then (c:Int) else f x):=by
 refine Lm (fun j _ hne=>?_) ?_
 ·dsimp only
  by_cases e:j∈dn
  ·rw [θ e,θ (ωn _ e)]
  ·rw [ϑ e,ϑ fun h=>(Φ.1 h).elim hne e]
 ·dsimp only;rw [θ (ωk ..)]
theorem JU {v w:Nat} {c0 dn st2:List Nat} (h:c0++ [w]++dn=v::st2) (hw:w≠v):c0++w::dn=v::st2∧c0≠ []:=by
 refine ⟨by simpa using h,fun e=>?_⟩;subst e
 simp at h
 exact hw h.1
theorem Lo {v w:Nat} {c0 dn st2:List Nat} (h:c0++ [w]++dn=v::st2) (hw:w=v) (hv:v∉st2):c0=[]∧dn=st2:=by
 subst hw
 cases c0 with
 | nil=>simp at h;exact ⟨Z,h⟩
 | cons a c=>
  simp at h
  exact (hv (by rw [←h.2];simp)).elim
theorem Ei {α:Type} {l:List α} (h:l≠ []):∃a b,l=a++ [b]:=by
 rcases List.eq_nil_or_concat l with e | ⟨a,b,e⟩
 ·exact (h e).elim
 ·exact ⟨a,b,by rw [e,List.concat_eq_append]⟩
theorem tb_else {n:Nat} {suc:Nat ->List Nat} {r:Nat} {S:TS} {p:Option Nat} {cs0:List (Nat×Nat)} {v k:Nat} {r3:List Nat} (h:TH n suc r S p) (h1:S.cs=cs0++ [(v,k)]∧p=none) (hr:∃sj,r3=S.st++sj):
  ∃S1:TS,mu n suc S1=mu n suc S∧TB n suc r S1 cs0 v k∧S.idx=S1.idx∧S.low=S1.low∧S.of=S1.of∧S.st.length=S1.st.length∧S.cnt=S1.cnt∧S.clk=S1.clk∧∃sj,r3=S1.st++sj:=
 ⟨S,Z,tb_old (h1.2▸h) h1.1,Z,Z,Z,Z,Z,Z,hr⟩
theorem Oi {n:Nat} {suc:Nat ->List Nat} {S:TS} {p:Option Nat} (h:TI n suc S p):S.st.length≤n:=by
 have:=h.num;have:=(LH h).1;omega
theorem Ru {f:Nat ->Nat} {i:Nat} (h:∀v,v<i ->f v≠0) (hi:f i≠0):∀v,v<i+1 ->f v≠0:=fun v hv=>by
 by_cases e:v=i
 ·rw [e];exact hi
 ·exact h v (by omega)
theorem th_init {n:Nat} {suc:Nat ->List Nat} {S:TS} {i:Nat} (hti:TI n suc S none) (hcs:S.cs=[]) (hil:i<n) (h0:S.idx i=0) (hold:∀v,v<i ->S.idx v≠0):TH n suc i S (some i):=
 ⟨ti_root hti hcs hil h0,fun f hf=>(by rw [hcs] at hf;cases hf),hold,.inr Z⟩
theorem fr_le {n:Nat} {suc:Nat ->List Nat} {S:TS} {p:Option Nat} (h:TI n suc S p) {l:List (Nat×Nat)} (e:S.cs++pend p=l):l.length≤n+1:=by
 have h1:=(LH h).2;have h2:=Oi h;rw [←e,ς];have:(pend p).length≤1:=by cases p<;>simp [pend]
 omega
theorem Yz {n:Nat} {suc:Nat ->List Nat} {r:Nat} {S:TS} {p:Option Nat} (h:TH n suc r S p) (he:S.cs++pend p=[]):TI n suc S none∧S.cs=[]∧S.idx r≠0:=by
 cases p with
 | some v=>simp [pend] at he
 | none=>exact ⟨h.ti,by simpa [pend] using he,h.rt.resolve_right fun e=>by cases e⟩
structure PF (n:Nat) (suc:Nat ->List Nat) (r:Nat) (S:TS) (cs0:List (Nat×Nat)) (v:Nat) (low:Nat ->Nat):Prop where
 a:low v=S.low v
 b:low v≠S.idx v ->TH n suc r {S with low:=low,cs:=cs0} none
 c:∀st1 st2,low v=S.idx v ->S.st=st1++v::st2 ->TH n suc r {S with low:=low,of:=fun x=>if x∈v::st2 then (S.cnt:Int) else S.of x,st:=st1,cs:=cs0,cnt:=S.cnt+1} none
theorem Lp {n:Nat} {suc:Nat ->List Nat} {r:Nat} {S:TS} {cs1:List (Nat×Nat)} {v k u ku:Nat} (h:TB n suc r S (cs1++ [(u,ku)]) v k) (hk:k=(suc v).length) (hvu:v≠u):
  ∃low,Ar S.low u (min (S.low u) (S.low v))=low∧PF n suc r S (cs1++ [(u,ku)]) v low:=by
 refine ⟨_,Z,⟨GL hvu,fun hl=>?_,fun st1 st2 hl hst=>?_⟩⟩
 ·rw [GL hvu] at hl;obtain ⟨cs2,u2,ku2,e,ht⟩:=VQ h hk hl;have e2:=List.append_inj_right' e rfl;injection e2 with e2
  injection e2 with e2
  subst e2;exact ht
 ·rw [GL hvu] at hl;obtain ⟨h1,h2⟩:=VP h hk hl hst;rw [h2 cs1 u ku rfl];exact h1
theorem Lq {n:Nat} {suc:Nat ->List Nat} {r:Nat} {S:TS} {cs0:List (Nat×Nat)} {v k:Nat} (h:TB n suc r S cs0 v k) (hk:k=(suc v).length) (he:cs0=[]):
  ∃low,S.low=low∧PF n suc r S cs0 v low:=by
 refine ⟨_,Z,⟨Z,fun hl=>?_,fun st1 st2 hl hst=>(VP h hk hl hst).1⟩⟩;obtain ⟨cs2,u2,ku2,e,ht⟩:=VQ h hk hl;rw [he] at e;simp at e
theorem upd_lt {f:Nat ->Int} {k:Nat} (hf:∀v,v<k ->f v= -1):∀v,v<k+1 ->Ar f k (-1) v= -1:=fun v hv=>by
 by_cases e:v=k
 ·rw [e,KH]
 ·rw [GL e];exact hf v (by omega)
set_option maxHeartbeats 1000000 in
theorem TG (g:List (List Nat)) (hg:GB g):AM Tryz.prog 180 [.d (Jb g)] [] fun r H'=>∃of cnt,SccOf g.length (sucs g) of cnt∧r= .tup [.own 2 0 g.length,.d (AN cnt)]∧H'=[(2,[.rowD 3 1 (rowN g.length of)])]:=by
 have hn:=hg.n;refine Az Tryz.func180 Z Z Tryz.ntmps180 Z Z Z fun F hF=>(AC (AE (AB Z Z (AB Z Z (AD (AC (AE (goMv Z Z ?_))))))));refine J (JE Z (ψ ..) Tryz.underlying147 Z) (AB Z Z (AD (AC (Cb [[],[0],[],[2],[],[4],[0,1],[0,1,2,3,6],[0,1,2,3,4,5,6,7]] mixed Z (Cr (AJ [4] [] Z Z (fun _=>AG (Aj Z Z)) (Gn [21] [0] [(22,_)] Z Z (fun _=>Gp (EY 0 BW Z Z Z (by omega) zd3 Z Z Z Z)) (.inr ⟨22,_,Z,Z,Z,Z,Z⟩) Z Z Z Z Z (AJ [4] [] Z Z (fun _=>AG (Aj Z Z)) ?_))))))));refine Gn [23] [1] [(24,_)] Z Z (fun _=>Gp (EY 1 BW Z Z Z (by omega) zd3 Z Z Z Z)) (.inr ⟨24,_,Z,Z,Z,Z,Z⟩) Z Z Z Z Z (AJ [4] [] Z Z (fun _=>AG (Aj Z Z)) (Gn [25] [2] [(26,_)] Z Z (fun _=>Gp (EY 2 BW Z Z Z (by omega) zd3 Z Z Z Z)) (.inr ⟨26,_,Z,Z,Z,Z,Z⟩) Z Z Z Z Z (AJ [22] [] Z Z (fun _=>AG (IA Z Z)) (AJ [24] [] Z Z (fun _=>AG (IA Z Z)) (C3 8 Z Z Z (Aa 9 Z Z (AB Z Z (AD ⟨Z,?_⟩))))))));refine C9 (AC (AC ?_));rw [repI];refine AE (goMv Z Z (J (KM Z Tryz.underlying28 Z) (goMv Z Z (AD (A4 (B5 (α:=Nat×(Nat ->Int)) (fun q=>⟨214,[(0,.d (Jb g)),(5,(.own 0 0 g.length)),(6,(.own 1 0 g.length)),(7,(.own 2 0 g.length)),(28,(.d (AN g.length))),(29,(.d (AN q.1)))],[(0,[.rowD 3 1 (D6 g.length fun _=>0)]),(1,[.rowD 3 1 (D6 g.length fun _=>0)]),(2,[.rowD 3 1 (D6 g.length q.2)])]⟩) (fun q=>q.1≤g.length∧∀v,v<q.1 ->q.2 v= -1) (fun q=>g.length - q.1) ((0,fun _=>0)) (⟨Δ _,fun v h=>absurd h (Nat.not_lt_zero _)⟩) (A0 hF [0,1,2] Z Z ⟨Z,Z,Z,Z,Z,Z,trivial⟩) ?_))))));rintro ⟨k,f⟩ ⟨hk,hf⟩;dsimp only at hk hf⊢;refine AC (AE (J (BV Z Z Z) (AD (AC (Ae Z (fun h30=>?_) (fun h30=>?_))))))
 ·refine A1 (AC (A4 (AC ?_)));have hkl:k<g.length:=Bf h30;refine AE (goMv Z Z (AB Z Z (AD (AE ?_))));refine goMv Z Z (goMv Z Z (J (Br (k) Z Z (Z) (hkl) Z Tryz.underlying28 BA Z) (V (Qe Z Z Z Z Z (by rw [HS];exact hkl) Zj Z BA) (AD (AE (J (Ay Z Z (ωa _ (by omega)) Z) (goMv Z Z (AD ?_))))))));exact ⟨(k+1,Ar f k (-1)),⟨hkl,upd_lt hf⟩,by show g.length - (k+1)<g.length - k;omega,A0 hF [0,1,2] Z (Z) ⟨Z,Z,Z,Z,Z,Z,trivial⟩⟩
 ·refine BC (AC ?_);have hke:k=g.length:=by have:=h30;omega
  subst hke;have hfe:D6 g.length f=D6 g.length (fun _=> -1):=ωi fun v hv=>by rw [hf v (Θ.1 hv)]
  rw [hfe];refine AE (AB Z Z ?_);skip;refine AD (AC (AE (AB Z Z (AB Z Z (AD (AC ?_))))));refine AC (AE (goMv Z Z (J (JE Z (ψ ..) Tryz.underlying147 Z) (goMv Z Z (AD (A4 (O4 9 3 BW Z Z Z Z (B5 (α:=Nat×TS×List Nat) (fun q=>⟨214,[(0,.d (Jb g)),(5,(.own 0 0 g.length)),(6,(.own 1 0 g.length)),(7,(.own 2 0 g.length)),(9,(.own 3 0 q.2.1.st.length)),(10,(.d (AN q.2.1.cnt))),(11,(.d (AN q.2.1.clk))),(37,(.d (AN g.length))),(38,(.d (AN q.1)))],[(0,[.rowD 3 1 (rowN g.length q.2.1.idx)]),(1,[.rowD 3 1 (rowN g.length q.2.1.low)]),(2,[.rowD 3 1 (D6 g.length q.2.1.of)]),(3,[.rowD 3 1 (q.2.2.map AN)])]⟩) (fun q=>q.1≤g.length∧TI g.length (sucs g) q.2.1 none∧q.2.1.cs=[]∧(∀v,v<q.1 ->q.2.1.idx v≠0)∧∃sj,q.2.2=q.2.1.st++sj) (fun q=>g.length - q.1) ((0,⟨fun _=>0,fun _=>0,fun _=> -1,[],[],0,0⟩,[])) (⟨Δ _,ti_zero _ _,Z,fun v h=>absurd h (Nat.not_lt_zero _),[],Z⟩) (A0 hF [0,1,2,3] Z Z ⟨Z,Z,Z,Z,Z,Z,Z,Z,Z,trivial⟩) ?_))))))));rintro ⟨i,S,r3⟩ ⟨hi,hti,hcs,hold,hr3⟩;dsimp only at hi hti hcs hold hr3⊢;refine AC (AE (J (BV Z Z Z) (AD (AC (Ae Z (fun h39=>?_) (fun h39=>?_))))))
  ·refine A1 (AC (A4 (AC ?_)));have hil:i<g.length:=Bf h39;refine AE (goMv Z Z (AB Z Z (AD (AC ?_))));refine AC (AE (goMv Z Z (goMv Z Z (J (Br (i) Z Z (Z) (hil) Z Tryz.underlying28 BA Z) (J (Bw Z Z (Ht hil) Z Aq Z) (J (DX Z Z Z) (AD (Ae Z (fun h45=>?_) (fun h45=>?_)))))))))
   ·refine BC ?_
    first | have hE:=Yz hth (hfr▸χx.1 (by omega)) | skip
    refine AE (J (Ay Z Z (ωa _ (by omega)) Z) (goMv Z Z (AD ?_)));exact ⟨(i+1,S,r3),⟨hil,hti,hcs,Ru hold (fun e2=>h45 (Γ Int.ofNat e2)),hr3⟩,by show g.length - (i+1)<g.length - i;omega,A0 hF [0,1,2,3] Z (Z) ⟨Z,Z,Z,Z,Z,Z,Z,Z,Z,trivial⟩⟩
   ·refine A1 (AC ?_);have h0:S.idx i=0:=Int.ofNat.inj (χw.1 h45);refine AE (goMv Z Z (J (FV Yf aI Z Z Z) (V (D1 4 RW Z Z Z Z Z Z Z Z) (AB Z Z (AD (A4 (B5 (α:=TS×Option Nat×List (Nat×Nat)×List Nat×List (Nat×Nat)) (fun q=>⟨214,[(0,.d (Jb g)),(5,(.own 0 0 g.length)),(6,(.own 1 0 g.length)),(7,(.own 2 0 g.length)),(9,(.own 3 0 q.1.st.length)),(10,(.d (AN q.1.cnt))),(11,(.d (AN q.1.clk))),(13,(.own 4 0 q.2.2.1.length)),(37,(.d (AN g.length))),(38,(.d (AN i)))],[(0,[.rowD 3 1 (rowN g.length q.1.idx)]),(1,[.rowD 3 1 (rowN g.length q.1.low)]),(2,[.rowD 3 1 (D6 g.length q.1.of)]),(3,[.rowD 3 1 (q.2.2.2.1.map AN)]),(4,[.rowD 318 2 (q.2.2.2.2.map Sh)])]⟩) (fun q=>TH g.length (sucs g) i q.1 q.2.1∧q.2.2.1=q.1.cs++pend q.2.1∧(∃sj,q.2.2.2.1=q.1.st++sj)∧∃cj,q.2.2.2.2=q.2.2.1++cj) (fun q=>mu g.length (sucs g) q.1) ((S,some i,[(i,0)],r3,[(i,0)])) (⟨th_init hti hcs hil h0 hold,by rw [hcs];rfl,hr3,[],Z⟩) (A0 hF [0,1,2,3,4] Z Z ⟨Z,Z,Z,Z,Z,Z,Z,Z,Z,Z,trivial⟩) ?_)))))));rintro ⟨S,p,fr,r3,r4⟩ ⟨hth,hfr,hr3,cj,hr4⟩;dsimp only at hth hfr hr3 hr4⊢;have hclk:=LH hth.ti;refine AC (AC (AE (goMv Z Z (J (KM Z Tryz.underlying319 Z) (J (ML Z Z Z) (AD (Ae Z (fun h51=>?_) (fun h51=>?_))))))))
    ·refine A1 (A4 (AC ?_));have hne:S.cs++pend p≠ []:=fun e=>by rw [hfr,e] at h51;exact absurd h51 (by decide)
     obtain ⟨cs0,v,k,hcs2,hvn,hk0,hk1⟩:=th_last hth hne;have hfrl:=fr_le hth.ti hcs2;have hfr2:=hfr.trans hcs2;subst hfr2;have hlen1:(((cs0++ [(v,k)]).length:Nat):Int) - 1=(cs0.length:Int):=by simp
     have hlen2:cs0.length<(cs0++ [(v,k)]).length:=by simp
     subst hr4;refine AE (goMv Z Z (goMv Z Z (J (KM Z Tryz.underlying319 Z) (J (LF Z Z (ωa _ (by omega)) Z) (J (Br (cs0.length) Z Z (hlen1) (hlen2) Z Tryz.underlying319 RD Z) (AB Z Z (AD (AC ?_))))))));refine AC (AE (goMv Z Z (J (OB Z Z) (J (MJ Z E3 Z Z Z) (J (Bw Z Z (FT Z) Z Aq Z) (J (KL Z Z Z) (AD (Ae Z (fun h61=>?_) (fun h61=>?_)))))))))
     ·refine AC ?_;obtain ⟨hcs3,hp3⟩:=hk0 (Int.ofNat.inj h61);have hcl:=hclk.1;refine AE (goMv Z Z (J (Ay Z Z (ωa _ (by omega)) Z) (Io 63 (.d (AN (S.clk+1))) Z (eqv (Γ AF (by omega))) (AB Z Z (AD (AC (Cb [[],[],[1],[1,2],[1,2,3],[],[],[6],[6,7],[6,7,8],[],[],[0,1,2,3,4,6,7,8,9,10],[0,1,2,3,4,6,7,8,9,10,12],[0,1,2,3,4,5,6,7,8,9,10,11,12,13],[0,1,2,3,4,5,6,7,8,9,10,11,12,13,14]] mixed Z (Cr ?_))))))));refine AJ [5] [] Z Z (fun _=>AG (Aj Z Z)) (AJ [14] [] Z Z (fun _=>AG (Aj Z Z)) (AJ [65] [] Z Z (fun _=>AG (OB Z Z)) (AJ [66] [] Z Z (fun _=>AG (MJ Z VE Z Z Z)) (At [67] Z Z (fun _=>AG (Bw Z Z (FT Z) Z Aq Z)) (AJ [6] [] Z Z (fun _=>AG (Aj Z Z)) (AJ [14] [] Z Z (fun _=>AG (Aj Z Z)) (AJ [70] [] Z Z (fun _=>AG (OB Z Z)) (AJ [71] [] Z Z (fun _=>AG (MJ Z VE Z Z Z)) ?_))))))));refine At [72] Z Z (fun _=>AG (Bw Z Z (FT Z) Z Aq Z)) (AJ [11] [] Z Z (fun _=>AG (Aj Z Z)) (AJ [11] [] Z Z (fun _=>AG (Aj Z Z)) (At [64,68] Z Z (fun _=>AG (Br (v) Z Z (Z) (hvn) Z Tryz.underlying28 BA Z)) (Gn [76,74] [0] [] Z Z (fun _=>Gp (Qe Z Z Z Z Z (by rw [dE];exact hvn) dF Z BA)) (.inl ⟨Z,Z⟩) Z Z Z Z Z (C3 14 Z Z Z (Aa 15 Z Z (J (Br (v) Z Z (Z) (hvn) Z Tryz.underlying28 BA Z) (AD ⟨Z,?_⟩))))))));refine Aa 16 Z Z (V (Qe Z Z Z Z Z (by rw [dE];exact hvn) dF Z BA) (AD ⟨Z,?_⟩));refine C9 ?_;obtain ⟨sj,hsj⟩:=hr3;subst hsj;have hstl:=Oi hth.ti;refine AE (goMv Z Z (goMv Z Z (J (OB Z Z) (J (MJ Z VE Z Z Z) (J (Bw Z Z (FT Z) Z Aq Z) (V (D1 21 BW Z Z Z Z Z Z Z Z) (V (Ev Z Z Z (by simp) Z Z (by simp) BW (by omega) Z Z (takeJ S.st sj) Z Z) (AB Z Z ?_))))))));subst hp3;have htb0:=ZA hth;have hmu0:mu g.length (sucs g) _=mu g.length (sucs g) S:=ar (S:=S) (l:=Ar S.low v (S.clk+1)) (st:=S.st++ [v]) (c:=S.clk+1) hvn (hth.ti.pnd v Z).2.1
      obtain ⟨S1,hS1⟩:∃S1:TS,S1=⟨Ar S.idx v (S.clk+1),Ar S.low v (S.clk+1),S.of,S.st++ [v],S.cs++ [(v,0)],S.cnt,S.clk+1⟩:=⟨_,Z⟩
      have e1:Ar S.idx v (S.clk+1)=S1.idx:=by rw [hS1]
      have e2:Ar S.low v (S.clk+1)=S1.low:=by rw [hS1]
      have e3:S.of=S1.of:=by rw [hS1]
      have e4:S.st.length+1=S1.st.length:=by rw [hS1];simp
      have e5:S.cnt=S1.cnt:=by rw [hS1]
      have e6:S.clk+1=S1.clk:=by rw [hS1]
      have hr31:∃sj,S.st++ [v]=S1.st++sj:=⟨[],by rw [hS1,ωl]⟩
      obtain ⟨r3,hr3e⟩:∃r3,S.st++ [v]=r3:=⟨_,Z⟩
      rw [←hS1] at htb0 hmu0;rw [e1,e2,e3,e4,e5,e6,hr3e];rw [hr3e] at hr31;have hmu:=hmu0;have htb:TB g.length (sucs g) i S1 cs0 v k:=by rw [hcs3,←Int.ofNat.inj h61] at htb0;exact htb0
      refine AD (AC (AC ?_));refine Cb [[],[0],[0,1],[0,1,2],[],[],[5],[5,6],[5,6,7],[4,5,6,7,8],[4,5,6,7,8,9],[4,5,6,7,8,9,10],[0,1,2,3,4,5,6,7,8,9,10,11]] mixed Z (Cr (AJ [14] [] Z Z (fun _=>AG (Aj Z Z)) (AJ [85] [] Z Z (fun _=>AG (OB Z Z)) (AJ [86] [] Z Z (fun _=>AG (MJ Z E3 Z Z Z)) (At [87] Z Z (fun _=>AG (Bw Z Z (FT Z) Z Aq Z)) (AJ [0] [] Z Z (fun _=>AG (Aj Z Z)) (AJ [14] [] Z Z (fun _=>AG (Aj Z Z)) (AJ [90] [] Z Z (fun _=>AG (OB Z Z)) ?_))))))));refine AJ [91] [] Z Z (fun _=>AG (MJ Z VE Z Z Z)) (At [92] Z Z (fun _=>AG (Bw Z Z (FT Z) Z Aq Z)) (AJ [89,93] [] Z Z (fun _=>AG (Bk (v) Z Z (Z) (Sf hvn) Tryz.underlying147 Z Ce Z)) (AJ [94] [] Z Z (fun _=>AG (D0 Z Z BI Z)) (AJ [95] [] Z Z (fun _=>AG (JE Z (ψ ..) Tryz.underlying28 Z)) (C3 12 Z Z Z (Aa 13 Z Z (J (BV Z Z Z) (AD ⟨Z,?_⟩))))))));refine C9 (Ae Z (fun h97=>?_) (fun h97=>?_))
      ·refine AC ?_;have hkl:k<(sucs g v).length:=Bf h97;have hjn:nth (sucs g v) k<g.length:=hg.suc hvn (Ch hkl);have hgn:=Kn hkl;have hjk:(sucs g v)[k]? =some (nth (sucs g v) k):=SA hkl
       obtain ⟨j,hje⟩:∃j,nth (sucs g v) k=j:=⟨_,Z⟩
       rw [hje] at hjn hgn hjk;have hsl:=hg.len hvn;refine Cb [[],[],[1],[1,2],[1,2,3],[0,1,2,3,4],[0,1,2,3,4,5],[],[7],[7,8],[7,8,9],[0,1,2,3,4,5,6,7,8,9,10],[0,1,2,3,4,5,6,7,8,9,10,11],[0,1,2,3,4,5,6,7,8,9,10,11,12]] mixed Z (Cr (AJ [0] [] Z Z (fun _=>AG (Aj Z Z)) (AJ [14] [] Z Z (fun _=>AG (Aj Z Z)) (AJ [99] [] Z Z (fun _=>AG (OB Z Z)) (AJ [100] [] Z Z (fun _=>AG (MJ Z VE Z Z Z)) (At [101] Z Z (fun _=>AG (Bw Z Z (FT Z) Z Aq Z)) (AJ [98,102] [] Z Z (fun _=>AG (Bk (v) Z Z (Z) (Sf hvn) Tryz.underlying147 Z Ce Z)) ?_)))))));refine AJ [103] [] Z Z (fun _=>AG (D0 Z Z BI Z)) (AJ [14] [] Z Z (fun _=>AG (Aj Z Z)) (AJ [105] [] Z Z (fun _=>AG (OB Z Z)) (AJ [106] [] Z Z (fun _=>AG (MJ Z E3 Z Z Z)) (At [107] Z Z (fun _=>AG (Bw Z Z (FT Z) Z Aq Z)) (C3 11 Z Z Z (Aa 12 Z Z (J (Bk (k) Z Z (Z) (hgn) Tryz.underlying28 Z BA Z) (AD ⟨Z,?_⟩))))))));refine Aa 13 Z Z (J (D0 Z Z Aq Z) (AD ⟨Z,?_⟩));refine Aa 14 Z Z (AB Z Z (AD ⟨Z,?_⟩));refine C9 (AC (AE (goMv Z Z (J (OB Z Z) (J (MJ Z E3 Z Z Z) ?_)))));refine J (Bw Z Z (FT Z) Z Aq Z) (J (Ay Z Z (ωa _ (by omega)) Z) (Io 115 (.d (AN (k+1))) Z (eqv (Γ AF (by omega))) (J (OB Z Z) (J (MJ Z E3 Z Z Z) (V (KU (z':=Sh (v,k+1)) Z Z Z Z (FT Z) Z (ϖ 2) (setF Z) Z Z BA) (AD (AC (AC ?_))))))));rw [show (cs0++ [(v,k)]).length=(cs0++ [(v,k+1)]).length by simp] at hfrl⊢;refine AE (goMv Z Z (goMv Z Z (J (Br (j) Z Z (Z) (hjn) Z Tryz.underlying28 BA Z) (J (Bw Z Z (Ht hjn) Z Aq Z) (J (KL Z Z Z) (AD (Ae Z (fun h122=>?_) (fun h122=>?_))))))))
       ·refine AE ?_;refine goMv Z Z (goMv Z Z (J (FV Yf aI Z Z Z) (V (D1 22 RW Z Z Z Z Z Z Z Z) (V (Ev Z Z Z (by simp) Z Z (by simp) RW (by omega) Z Z (takeF (x:=(j,0)) (cs0++ [(v,k+1)]) cj) Z Z) (Io 127 (.own 4 0 (cs0++ [(v,k+1)]++ [(j,0)]).length) Z (by simp) (AB Z Z (AD (BC ?_))))))));exact ⟨(⟨S1.idx,S1.low,S1.of,S1.st,cs0++ [(v,k+1)],S1.cnt,S1.clk⟩,some j,cs0++ [(v,k+1)]++ [(j,0)],r3,cs0++ [(v,k+1)]++ [(j,0)]),⟨ZC htb hjk hjn (Int.ofNat.inj h122),Z,hr31,[],(ωl _).symm⟩,by rw [←hmu];exact Kf htb.hcs hkl,A0 hF [0,1,2,3,4] Z (Z) ⟨Z,Z,Z,Z,Z,Z,Z,Z,Z,Z,trivial⟩⟩
       ·refine AC (AE (goMv Z Z (goMv Z Z (J (Br (j) Z Z (Z) (hjn) Z Tryz.underlying28 BA Z) (J (Bw Z Z (R1 hjn) Z Aq Z) (J (BV Z Z Z) (AD (Ae Z (fun h132=>?_) (fun h132=>?_)))))))))
        ·refine Cb [[],[],[1],[1,2],[1,2,3],[],[],[6],[6,7],[6,7,8],[5,6,7,8,9],[5,6,7,8,9,10],[],[],[12,13],[12,13,14],[5,6,7,8,9,10,11,12,13,14,15],[0,1,2,3,4,5,6,7,8,9,10,11,12,13,14,15,16],[0,1,2,3,4,5,6,7,8,9,10,11,12,13,14,15,16,17]] mixed Z (Cr (AJ [6] [] Z Z (fun _=>AG (Aj Z Z)) (AJ [14] [] Z Z (fun _=>AG (Aj Z Z)) (AJ [134] [] Z Z (fun _=>AG (OB Z Z)) ?_))));refine AJ [135] [] Z Z (fun _=>AG (MJ Z VE Z Z Z)) (At [136] Z Z (fun _=>AG (Bw Z Z (FT Z) Z Aq Z)) (AJ [6] [] Z Z (fun _=>AG (Aj Z Z)) (AJ [14] [] Z Z (fun _=>AG (Aj Z Z)) (AJ [139] [] Z Z (fun _=>AG (OB Z Z)) (AJ [140] [] Z Z (fun _=>AG (MJ Z VE Z Z Z)) (At [141] Z Z (fun _=>AG (Bw Z Z (FT Z) Z Aq Z)) (At [138,142] Z Z (fun _=>AG (Br (v) Z Z (Z) (hvn) Z Tryz.underlying28 BA Z)) (At [143] Z Z (fun _=>AG (Bw Z Z (Ht hvn) Z Aq Z)) ?_))))))));refine AJ [5] [] Z Z (fun _=>AG (Aj Z Z)) (AJ [15] [] Z Z (fun _=>AG (Aj Z Z)) (At [145,146] Z Z (fun _=>AG (Br (j) Z Z (Z) (hjn) Z Tryz.underlying28 BA Z)) (At [147] Z Z (fun _=>AG (Bw Z Z (Ht hjn) Z Aq Z)) (AJ [144,148] [] Z Z (fun _=>AG (KV Z Z (bA _ _) Z)) (C3 17 Z Z Z (Aa 18 Z Z (J (Br (v) Z Z (Z) (hvn) Z Tryz.underlying28 BA Z) (AD ⟨Z,?_⟩))))))));refine Aa 19 Z Z (V (Qe Z Z Z Z Z (by rw [dE];exact hvn) dF Z BA) (AD ⟨Z,?_⟩));refine C9 (BC ?_);exact ⟨(⟨S1.idx,Ar S1.low v (min (S1.low v) (S1.idx j)),S1.of,S1.st,cs0++ [(v,k+1)],S1.cnt,S1.clk⟩,none,cs0++ [(v,k+1)],r3,cs0++ [(v,k+1)]++cj),⟨ZD htb hjk hjn (fun e=>h122 (Γ Int.ofNat e)) h132,(ωl _).symm,hr31,cj,Z⟩,by rw [←hmu];exact Kf htb.hcs hkl,A0 hF [0,1,2,3,4] Z (Z) ⟨Z,Z,Z,Z,Z,Z,Z,Z,Z,Z,trivial⟩⟩
        ·refine A1 (BC ?_);exact ⟨(⟨S1.idx,S1.low,S1.of,S1.st,cs0++ [(v,k+1)],S1.cnt,S1.clk⟩,none,cs0++ [(v,k+1)],r3,cs0++ [(v,k+1)]++cj),⟨VR htb hjk hjn (fun e=>h122 (Γ Int.ofNat e)) h132,(ωl _).symm,hr31,cj,Z⟩,by rw [←hmu];exact Kf htb.hcs hkl,A0 hF [0,1,2,3,4] Z (Z) ⟨Z,Z,Z,Z,Z,Z,Z,Z,Z,Z,trivial⟩⟩
      ·refine A1 (AC ?_);have hke:k=(sucs g v).length:=by have:=(Ih htb).2.2.2;have:=h97;omega
       refine AE (goMv Z Z (J (OB Z Z) (J (MJ Z VE Z Z Z) (J (Bw Z Z (FT Z) Z Aq Z) (AB Z Z ?_)))));refine AD (AC (AE (goMv Z Z (goMv Z Z (J (KM Z Tryz.underlying319 Z) (J (LF Z Z (ωa _ (by omega)) Z) (J (Cu cs0.length Z Z hlen1 (by simp) Z Tryz.underlying319 RD Z) (AB Z Z ?_))))))));refine AD (AC (AC (AE (goMv Z Z (J (KM Z Tryz.underlying319 Z) (J (ML Z Z Z) (AD (Ae Z (fun h162=>?_) (fun h162=>?_)))))))))
       ·refine AC ?_;obtain ⟨cs1,⟨u,ku⟩,hcu⟩:=Ei (l:=cs0) (fun e=>by rw [e] at h162;exact absurd h162 (by decide));subst hcu;obtain ⟨hun,hvu⟩:=ZB htb;have hlen3:(((cs1++ [(u,ku)]).length:Nat):Int) - 1=(cs1.length:Int):=by simp
        have hlen4:cs1.length<(cs1++ [(u,ku)]).length:=by simp
        refine AE (goMv Z Z (goMv Z Z (J (KM Z Tryz.underlying319 Z) (J (LF Z Z (ωa _ (by omega)) Z) (J (Br (cs1.length) Z Z (hlen3) (hlen4) Z Tryz.underlying319 RD Z) (J (MJ Z VE Z Z Z) (J (Bw Z Z (getF2 Z) Z Aq Z) (AB Z Z ?_))))))));refine AD (Cb [[],[],[],[],[2,3],[2,3,4],[],[],[6,7],[6,7,8],[2,3,4,5,6,7,8,9],[0,1,2,3,4,5,6,7,8,9,10],[0,1,2,3,4,5,6,7,8,9,10,11]] mixed Z (Cr (AJ [6] [] Z Z (fun _=>AG (Aj Z Z)) (AJ [17] [] Z Z (fun _=>AG (Aj Z Z)) (AJ [6] [] Z Z (fun _=>AG (Aj Z Z)) (AJ [17] [] Z Z (fun _=>AG (Aj Z Z)) (At [172,173] Z Z (fun _=>AG (Br (u) Z Z (Z) (hun) Z Tryz.underlying28 BA Z)) (At [174] Z Z (fun _=>AG (Bw Z Z (Ht hun) Z Aq Z)) ?_))))))));refine AJ [6] [] Z Z (fun _=>AG (Aj Z Z)) (AJ [16] [] Z Z (fun _=>AG (Aj Z Z)) (At [176,177] Z Z (fun _=>AG (Br (v) Z Z (Z) (hvn) Z Tryz.underlying28 BA Z)) (At [178] Z Z (fun _=>AG (Bw Z Z (Ht hvn) Z Aq Z)) (AJ [175,179] [] Z Z (fun _=>AG (KV Z Z (bA _ _) Z)) (C3 11 Z Z Z (Aa 12 Z Z (J (Br (u) Z Z (Z) (hun) Z Tryz.underlying28 BA Z) (AD ⟨Z,?_⟩))))))));refine Aa 13 Z Z (V (Qe Z Z Z Z Z (by rw [dE];exact hun) dF Z BA) (AD ⟨Z,?_⟩));refine C9 (AC (AC ?_))
        first | (obtain ⟨lowX,hlowX,hPX⟩:=Lp htb hke hvu;rw [hlowX];obtain ⟨cs0X,hcX⟩:∃l,cs1++ [(u,ku)]=l:=⟨_,Z⟩;rw [hcX] at htb hPX⊢) | (obtain ⟨lowX,hlowX,hPX⟩:=Lq htb hke (χx.1 (by omega));rw [hlowX];obtain ⟨cs0X,hcX⟩:∃l,cs0=l:=⟨_,Z⟩;rw [hcX] at htb hPX⊢)
        refine Cb [[],[],[0,1],[0,1,2],[],[],[4,5],[4,5,6],[0,1,2,3,4,5,6,7]] mixed Z (Cr (AJ [6] [] Z Z (fun _=>AG (Aj Z Z)) (AJ [16] [] Z Z (fun _=>AG (Aj Z Z)) (At [182,183] Z Z (fun _=>AG (Br (v) Z Z (Z) (hvn) Z Tryz.underlying28 BA Z)) ?_))));refine At [184] Z Z (fun _=>AG (Bw Z Z (Ht hvn) Z Aq Z)) (AJ [5] [] Z Z (fun _=>AG (Aj Z Z)) (AJ [16] [] Z Z (fun _=>AG (Aj Z Z)) (At [186,187] Z Z (fun _=>AG (Br (v) Z Z (Z) (hvn) Z Tryz.underlying28 BA Z)) (At [188] Z Z (fun _=>AG (Bw Z Z (Ht hvn) Z Aq Z)) (C3 8 Z Z Z (Aa 9 Z Z (J (DX Z Z Z) (AD ⟨Z,?_⟩))))))));refine C9 (Ae Z (fun h190=>?_) (fun h190=>?_))
        ·refine BC ?_;exact ⟨(⟨S1.idx,lowX,S1.of,S1.st,cs0X,S1.cnt,S1.clk⟩,none,cs0X,r3,cs0X++ [(v,k)]++cj),⟨hPX.b (fun e=>h190 (Γ Int.ofNat e)),(ωl _).symm,hr31,[(v,k)]++cj,ψk _ _ _⟩,by rw [←hmu];exact H6 htb.hcs,A0 hF [0,1,2,3,4] Z (Z) ⟨Z,Z,Z,Z,Z,Z,Z,Z,Z,Z,trivial⟩⟩
        ·refine A1 (AC (A4 ?_));obtain ⟨st1,st2,hst⟩:=List.append_of_mem (Ih htb).2.1;obtain ⟨sj,hsj⟩:=hr31;have hndp:=JJ htb.ti hst;have hof:D6 g.length S1.of=D6 g.length (fun x=>if x∈([]:List Nat) then (S1.cnt:Int) else S1.of x):=(by simp);rw [hof,show S1.st.length=(st1++(v::st2)).length by rw [hst]];have hstn:=Oi htb.ti;have hstv:∀x∈st1++v::st2,x<g.length:=(fun x hx=>htb.ti.lt x ((htb.ti.st x).1 (by rw [hst];exact hx)).1);rw [hst] at hsj hstn;refine B5 (α:=List Nat×List Nat) (fun q=>⟨214,[(0,.d (Jb g)),(5,(.own 0 0 g.length)),(6,(.own 1 0 g.length)),(7,(.own 2 0 g.length)),(9,(.own 3 0 (st1++q.1).length)),(10,(.d (AN S1.cnt))),(11,(.d (AN S1.clk))),(13,(.own 4 0 cs0X.length)),(16,(.d (AN v))),(37,(.d (AN g.length))),(38,(.d (AN i)))],[(0,[.rowD 3 1 (rowN g.length S1.idx)]),(1,[.rowD 3 1 (rowN g.length lowX)]),(2,[.rowD 3 1 (D6 g.length (fun x=>if x∈q.2 then (S1.cnt:Int) else S1.of x))]),(3,[.rowD 3 1 (r3.map AN)]),(4,[.rowD 318 2 ((cs0X++ [(v,k)]++cj).map Sh)])]⟩) (fun q=>q.1++q.2=v::st2∧q.1≠ []) (fun q=>q.1.length) ((v::st2,[])) (⟨ωl _,fun e=>by cases e⟩) (A0 hF [0,1,2,3,4] Z Z ⟨Z,Z,Z,Z,Z,Z,Z,Z,Z,Z,Z,trivial⟩) ?_;rintro ⟨c,dn⟩ ⟨hcd,hcne⟩;dsimp only at hcd hcne⊢;refine A4 (AC ?_);obtain ⟨c0,w,hcw⟩:=Ei hcne;subst hcw;have hws:st1++v::st2++sj=st1++(c0++ [w])++(dn++sj):=by rw [←hcd];simp
         have hwn:w<g.length:=hstv w (by rw [←hcd];simp);have hl6:(st1++(c0++ [w])).length≤g.length:=by rw [←hcd] at hstn;simp at hstn⊢;omega
         have hl7:(((st1++(c0++ [w])).length:Nat):Int) - 1=((st1++c0).length:Int):=by simp<;>omega
         have hl8:(st1++c0).length<(st1++(c0++ [w])).length:=by simp
         have hl9:(st1++c0).length≤(r3.map AN).length:=by rw [hsj,hws];simp<;>omega
         have hgw:(r3.map AN)[(st1++c0).length]? =some (AN w):=by rw [hsj,hws];exact getW rfl
         refine AE (goMv Z Z (goMv Z Z (J (KM Z Tryz.underlying28 Z) (J (LF Z Z (ωa _ (by omega)) Z) (J (Br ((st1++c0).length) Z Z (hl7) (hl8) Z Tryz.underlying28 BA Z) (J (Bw Z Z (hgw) Z Aq Z) (AB Z Z ?_)))))));refine AD (AC (AE (goMv Z Z (goMv Z Z (J (KM Z Tryz.underlying28 Z) (J (LF Z Z (ωa _ (by omega)) Z) (J (Cu (st1++c0).length Z Z hl7 hl9 Z Tryz.underlying28 BA Z) (AB Z Z ?_))))))));skip;refine AD (AC (AE (goMv Z Z (goMv Z Z (goMv Z Z (J (Br (w) Z Z (Z) (hwn) Z Tryz.underlying28 BA Z) ?_))))));refine V (Qe Z Z Z Z Z (by rw [HS];exact hwn) Vs Z BA) (AD (AC (AE (goMv Z Z (goMv Z Z (J (KL Z Z Z) (AD (Ae Z (fun h208=>?_) (fun h208=>?_)))))))))
         ·refine BC ?_;obtain ⟨hc0,hdn⟩:=Lo hcd (Int.ofNat.inj h208) hndp;subst hc0;rw [ωl,hdn,Int.ofNat.inj h208];have hcl3:=htb.ti.num;have hcl4:=(LH htb.ti).1;refine AE (goMv Z Z (J (Ay Z Z (ωa _ (by omega)) Z) (Io 210 (.d (AN (S1.cnt+1))) Z (eqv (Γ AF (by omega))) (AB Z Z (AD ?_)))));exact ⟨(⟨S1.idx,lowX,fun x=>if x∈v::st2 then (S1.cnt:Int) else S1.of x,st1,cs0X,S1.cnt+1,S1.clk⟩,none,cs0X,r3,cs0X++ [(v,k)]++cj),⟨hPX.c st1 st2 (Int.ofNat.inj (χw.1 h190)) hst,(ωl _).symm,⟨v::st2++sj,by rw [hsj];simp⟩,[(v,k)]++cj,ψk _ _ _⟩,by rw [←hmu];exact H6 htb.hcs,A0 hF [0,1,2,3,4] Z (Z) ⟨Z,Z,Z,Z,Z,Z,Z,Z,Z,Z,trivial⟩⟩
         ·refine A1 ?_;exact ⟨(c0,w::dn),JU hcd (fun e=>h208 (Γ Int.ofNat e)),by show c0.length<(c0++ [w]).length;simp,A0 hF [0,1,2,3,4] Z (Z) ⟨Z,Z,Z,Z,Z,Z,Z,Z,Z,Z,Z,trivial⟩⟩
       ·refine A1 (AC (AC ?_))
        first | (obtain ⟨lowX,hlowX,hPX⟩:=Lp htb hke hvu;rw [hlowX];obtain ⟨cs0X,hcX⟩:∃l,cs1++ [(u,ku)]=l:=⟨_,Z⟩;rw [hcX] at htb hPX⊢) | (obtain ⟨lowX,hlowX,hPX⟩:=Lq htb hke (χx.1 (by omega));rw [hlowX];obtain ⟨cs0X,hcX⟩:∃l,cs0=l:=⟨_,Z⟩;rw [hcX] at htb hPX⊢)
        refine Cb [[],[],[0,1],[0,1,2],[],[],[4,5],[4,5,6],[0,1,2,3,4,5,6,7]] mixed Z (Cr (AJ [6] [] Z Z (fun _=>AG (Aj Z Z)) (AJ [16] [] Z Z (fun _=>AG (Aj Z Z)) (At [182,183] Z Z (fun _=>AG (Br (v) Z Z (Z) (hvn) Z Tryz.underlying28 BA Z)) ?_))));refine At [184] Z Z (fun _=>AG (Bw Z Z (Ht hvn) Z Aq Z)) (AJ [5] [] Z Z (fun _=>AG (Aj Z Z)) (AJ [16] [] Z Z (fun _=>AG (Aj Z Z)) (At [186,187] Z Z (fun _=>AG (Br (v) Z Z (Z) (hvn) Z Tryz.underlying28 BA Z)) (At [188] Z Z (fun _=>AG (Bw Z Z (Ht hvn) Z Aq Z)) (C3 8 Z Z Z (Aa 9 Z Z (J (DX Z Z Z) (AD ⟨Z,?_⟩))))))));refine C9 (Ae Z (fun h190=>?_) (fun h190=>?_))
        ·refine BC ?_;exact ⟨(⟨S1.idx,lowX,S1.of,S1.st,cs0X,S1.cnt,S1.clk⟩,none,cs0X,r3,cs0X++ [(v,k)]++cj),⟨hPX.b (fun e=>h190 (Γ Int.ofNat e)),(ωl _).symm,hr31,[(v,k)]++cj,ψk _ _ _⟩,by rw [←hmu];exact H6 htb.hcs,A0 hF [0,1,2,3,4] Z (Z) ⟨Z,Z,Z,Z,Z,Z,Z,Z,Z,Z,trivial⟩⟩
        ·refine A1 (AC (A4 ?_));obtain ⟨st1,st2,hst⟩:=List.append_of_mem (Ih htb).2.1;obtain ⟨sj,hsj⟩:=hr31;have hndp:=JJ htb.ti hst;have hof:D6 g.length S1.of=D6 g.length (fun x=>if x∈([]:List Nat) then (S1.cnt:Int) else S1.of x):=(by simp);rw [hof,show S1.st.length=(st1++(v::st2)).length by rw [hst]];have hstn:=Oi htb.ti;have hstv:∀x∈st1++v::st2,x<g.length:=(fun x hx=>htb.ti.lt x ((htb.ti.st x).1 (by rw [hst];exact hx)).1);rw [hst] at hsj hstn;refine B5 (α:=List Nat×List Nat) (fun q=>⟨214,[(0,.d (Jb g)),(5,(.own 0 0 g.length)),(6,(.own 1 0 g.length)),(7,(.own 2 0 g.length)),(9,(.own 3 0 (st1++q.1).length)),(10,(.d (AN S1.cnt))),(11,(.d (AN S1.clk))),(13,(.own 4 0 cs0X.length)),(16,(.d (AN v))),(37,(.d (AN g.length))),(38,(.d (AN i)))],[(0,[.rowD 3 1 (rowN g.length S1.idx)]),(1,[.rowD 3 1 (rowN g.length lowX)]),(2,[.rowD 3 1 (D6 g.length (fun x=>if x∈q.2 then (S1.cnt:Int) else S1.of x))]),(3,[.rowD 3 1 (r3.map AN)]),(4,[.rowD 318 2 ((cs0X++ [(v,k)]++cj).map Sh)])]⟩) (fun q=>q.1++q.2=v::st2∧q.1≠ []) (fun q=>q.1.length) ((v::st2,[])) (⟨ωl _,fun e=>by cases e⟩) (A0 hF [0,1,2,3,4] Z Z ⟨Z,Z,Z,Z,Z,Z,Z,Z,Z,Z,Z,trivial⟩) ?_;rintro ⟨c,dn⟩ ⟨hcd,hcne⟩;dsimp only at hcd hcne⊢;refine A4 (AC ?_);obtain ⟨c0,w,hcw⟩:=Ei hcne;subst hcw;have hws:st1++v::st2++sj=st1++(c0++ [w])++(dn++sj):=by rw [←hcd];simp
         have hwn:w<g.length:=hstv w (by rw [←hcd];simp);have hl6:(st1++(c0++ [w])).length≤g.length:=by rw [←hcd] at hstn;simp at hstn⊢;omega
         have hl7:(((st1++(c0++ [w])).length:Nat):Int) - 1=((st1++c0).length:Int):=by simp<;>omega
         have hl8:(st1++c0).length<(st1++(c0++ [w])).length:=by simp
         have hl9:(st1++c0).length≤(r3.map AN).length:=by rw [hsj,hws];simp<;>omega
         have hgw:(r3.map AN)[(st1++c0).length]? =some (AN w):=by rw [hsj,hws];exact getW rfl
         refine AE (goMv Z Z (goMv Z Z (J (KM Z Tryz.underlying28 Z) (J (LF Z Z (ωa _ (by omega)) Z) (J (Br ((st1++c0).length) Z Z (hl7) (hl8) Z Tryz.underlying28 BA Z) (J (Bw Z Z (hgw) Z Aq Z) (AB Z Z ?_)))))));refine AD (AC (AE (goMv Z Z (goMv Z Z (J (KM Z Tryz.underlying28 Z) (J (LF Z Z (ωa _ (by omega)) Z) (J (Cu (st1++c0).length Z Z hl7 hl9 Z Tryz.underlying28 BA Z) (AB Z Z ?_))))))));skip;refine AD (AC (AE (goMv Z Z (goMv Z Z (goMv Z Z (J (Br (w) Z Z (Z) (hwn) Z Tryz.underlying28 BA Z) ?_))))));refine V (Qe Z Z Z Z Z (by rw [HS];exact hwn) Vs Z BA) (AD (AC (AE (goMv Z Z (goMv Z Z (J (KL Z Z Z) (AD (Ae Z (fun h208=>?_) (fun h208=>?_)))))))))
         ·refine BC ?_;obtain ⟨hc0,hdn⟩:=Lo hcd (Int.ofNat.inj h208) hndp;subst hc0;rw [ωl,hdn,Int.ofNat.inj h208];have hcl3:=htb.ti.num;have hcl4:=(LH htb.ti).1;refine AE (goMv Z Z (J (Ay Z Z (ωa _ (by omega)) Z) (Io 210 (.d (AN (S1.cnt+1))) Z (eqv (Γ AF (by omega))) (AB Z Z (AD ?_)))));exact ⟨(⟨S1.idx,lowX,fun x=>if x∈v::st2 then (S1.cnt:Int) else S1.of x,st1,cs0X,S1.cnt+1,S1.clk⟩,none,cs0X,r3,cs0X++ [(v,k)]++cj),⟨hPX.c st1 st2 (Int.ofNat.inj (χw.1 h190)) hst,(ωl _).symm,⟨v::st2++sj,by rw [hsj];simp⟩,[(v,k)]++cj,ψk _ _ _⟩,by rw [←hmu];exact H6 htb.hcs,A0 hF [0,1,2,3,4] Z (Z) ⟨Z,Z,Z,Z,Z,Z,Z,Z,Z,Z,trivial⟩⟩
         ·refine A1 ?_;exact ⟨(c0,w::dn),JU hcd (fun e=>h208 (Γ Int.ofNat e)),by show c0.length<(c0++ [w]).length;simp,A0 hF [0,1,2,3,4] Z (Z) ⟨Z,Z,Z,Z,Z,Z,Z,Z,Z,Z,Z,trivial⟩⟩
     ·obtain ⟨S1,hmu,htb,e1,e2,e3,e4,e5,e6,hr31⟩:=tb_else hth (hk1 fun e=>h61 (Γ Int.ofNat e)) hr3;rw [e1,e2,e3,e4,e5,e6];refine A1 (AC (AC ?_));refine Cb [[],[0],[0,1],[0,1,2],[],[],[5],[5,6],[5,6,7],[4,5,6,7,8],[4,5,6,7,8,9],[4,5,6,7,8,9,10],[0,1,2,3,4,5,6,7,8,9,10,11]] mixed Z (Cr (AJ [14] [] Z Z (fun _=>AG (Aj Z Z)) (AJ [85] [] Z Z (fun _=>AG (OB Z Z)) (AJ [86] [] Z Z (fun _=>AG (MJ Z E3 Z Z Z)) (At [87] Z Z (fun _=>AG (Bw Z Z (FT Z) Z Aq Z)) (AJ [0] [] Z Z (fun _=>AG (Aj Z Z)) (AJ [14] [] Z Z (fun _=>AG (Aj Z Z)) (AJ [90] [] Z Z (fun _=>AG (OB Z Z)) ?_))))))));refine AJ [91] [] Z Z (fun _=>AG (MJ Z VE Z Z Z)) (At [92] Z Z (fun _=>AG (Bw Z Z (FT Z) Z Aq Z)) (AJ [89,93] [] Z Z (fun _=>AG (Bk (v) Z Z (Z) (Sf hvn) Tryz.underlying147 Z Ce Z)) (AJ [94] [] Z Z (fun _=>AG (D0 Z Z BI Z)) (AJ [95] [] Z Z (fun _=>AG (JE Z (ψ ..) Tryz.underlying28 Z)) (C3 12 Z Z Z (Aa 13 Z Z (J (BV Z Z Z) (AD ⟨Z,?_⟩))))))));refine C9 (Ae Z (fun h97=>?_) (fun h97=>?_))
      ·refine AC ?_;have hkl:k<(sucs g v).length:=Bf h97;have hjn:nth (sucs g v) k<g.length:=hg.suc hvn (Ch hkl);have hgn:=Kn hkl;have hjk:(sucs g v)[k]? =some (nth (sucs g v) k):=SA hkl
       obtain ⟨j,hje⟩:∃j,nth (sucs g v) k=j:=⟨_,Z⟩
       rw [hje] at hjn hgn hjk;have hsl:=hg.len hvn;refine Cb [[],[],[1],[1,2],[1,2,3],[0,1,2,3,4],[0,1,2,3,4,5],[],[7],[7,8],[7,8,9],[0,1,2,3,4,5,6,7,8,9,10],[0,1,2,3,4,5,6,7,8,9,10,11],[0,1,2,3,4,5,6,7,8,9,10,11,12]] mixed Z (Cr (AJ [0] [] Z Z (fun _=>AG (Aj Z Z)) (AJ [14] [] Z Z (fun _=>AG (Aj Z Z)) (AJ [99] [] Z Z (fun _=>AG (OB Z Z)) (AJ [100] [] Z Z (fun _=>AG (MJ Z VE Z Z Z)) (At [101] Z Z (fun _=>AG (Bw Z Z (FT Z) Z Aq Z)) (AJ [98,102] [] Z Z (fun _=>AG (Bk (v) Z Z (Z) (Sf hvn) Tryz.underlying147 Z Ce Z)) ?_)))))));refine AJ [103] [] Z Z (fun _=>AG (D0 Z Z BI Z)) (AJ [14] [] Z Z (fun _=>AG (Aj Z Z)) (AJ [105] [] Z Z (fun _=>AG (OB Z Z)) (AJ [106] [] Z Z (fun _=>AG (MJ Z E3 Z Z Z)) (At [107] Z Z (fun _=>AG (Bw Z Z (FT Z) Z Aq Z)) (C3 11 Z Z Z (Aa 12 Z Z (J (Bk (k) Z Z (Z) (hgn) Tryz.underlying28 Z BA Z) (AD ⟨Z,?_⟩))))))));refine Aa 13 Z Z (J (D0 Z Z Aq Z) (AD ⟨Z,?_⟩));refine Aa 14 Z Z (AB Z Z (AD ⟨Z,?_⟩));refine C9 (AC (AE (goMv Z Z (J (OB Z Z) (J (MJ Z E3 Z Z Z) ?_)))));refine J (Bw Z Z (FT Z) Z Aq Z) (J (Ay Z Z (ωa _ (by omega)) Z) (Io 115 (.d (AN (k+1))) Z (eqv (Γ AF (by omega))) (J (OB Z Z) (J (MJ Z E3 Z Z Z) (V (KU (z':=Sh (v,k+1)) Z Z Z Z (FT Z) Z (ϖ 2) (setF Z) Z Z BA) (AD (AC (AC ?_))))))));rw [show (cs0++ [(v,k)]).length=(cs0++ [(v,k+1)]).length by simp] at hfrl⊢;refine AE (goMv Z Z (goMv Z Z (J (Br (j) Z Z (Z) (hjn) Z Tryz.underlying28 BA Z) (J (Bw Z Z (Ht hjn) Z Aq Z) (J (KL Z Z Z) (AD (Ae Z (fun h122=>?_) (fun h122=>?_))))))))
       ·refine AE ?_;refine goMv Z Z (goMv Z Z (J (FV Yf aI Z Z Z) (V (D1 22 RW Z Z Z Z Z Z Z Z) (V (Ev Z Z Z (by simp) Z Z (by simp) RW (by omega) Z Z (takeF (x:=(j,0)) (cs0++ [(v,k+1)]) cj) Z Z) (Io 127 (.own 4 0 (cs0++ [(v,k+1)]++ [(j,0)]).length) Z (by simp) (AB Z Z (AD (BC ?_))))))));exact ⟨(⟨S1.idx,S1.low,S1.of,S1.st,cs0++ [(v,k+1)],S1.cnt,S1.clk⟩,some j,cs0++ [(v,k+1)]++ [(j,0)],r3,cs0++ [(v,k+1)]++ [(j,0)]),⟨ZC htb hjk hjn (Int.ofNat.inj h122),Z,hr31,[],(ωl _).symm⟩,by rw [←hmu];exact Kf htb.hcs hkl,A0 hF [0,1,2,3,4] Z (Z) ⟨Z,Z,Z,Z,Z,Z,Z,Z,Z,Z,trivial⟩⟩
       ·refine AC (AE (goMv Z Z (goMv Z Z (J (Br (j) Z Z (Z) (hjn) Z Tryz.underlying28 BA Z) (J (Bw Z Z (R1 hjn) Z Aq Z) (J (BV Z Z Z) (AD (Ae Z (fun h132=>?_) (fun h132=>?_)))))))))
        ·refine Cb [[],[],[1],[1,2],[1,2,3],[],[],[6],[6,7],[6,7,8],[5,6,7,8,9],[5,6,7,8,9,10],[],[],[12,13],[12,13,14],[5,6,7,8,9,10,11,12,13,14,15],[0,1,2,3,4,5,6,7,8,9,10,11,12,13,14,15,16],[0,1,2,3,4,5,6,7,8,9,10,11,12,13,14,15,16,17]] mixed Z (Cr (AJ [6] [] Z Z (fun _=>AG (Aj Z Z)) (AJ [14] [] Z Z (fun _=>AG (Aj Z Z)) (AJ [134] [] Z Z (fun _=>AG (OB Z Z)) ?_))));refine AJ [135] [] Z Z (fun _=>AG (MJ Z VE Z Z Z)) (At [136] Z Z (fun _=>AG (Bw Z Z (FT Z) Z Aq Z)) (AJ [6] [] Z Z (fun _=>AG (Aj Z Z)) (AJ [14] [] Z Z (fun _=>AG (Aj Z Z)) (AJ [139] [] Z Z (fun _=>AG (OB Z Z)) (AJ [140] [] Z Z (fun _=>AG (MJ Z VE Z Z Z)) (At [141] Z Z (fun _=>AG (Bw Z Z (FT Z) Z Aq Z)) (At [138,142] Z Z (fun _=>AG (Br (v) Z Z (Z) (hvn) Z Tryz.underlying28 BA Z)) (At [143] Z Z (fun _=>AG (Bw Z Z (Ht hvn) Z Aq Z)) ?_))))))));refine AJ [5] [] Z Z (fun _=>AG (Aj Z Z)) (AJ [15] [] Z Z (fun _=>AG (Aj Z Z)) (At [145,146] Z Z (fun _=>AG (Br (j) Z Z (Z) (hjn) Z Tryz.underlying28 BA Z)) (At [147] Z Z (fun _=>AG (Bw Z Z (Ht hjn) Z Aq Z)) (AJ [144,148] [] Z Z (fun _=>AG (KV Z Z (bA _ _) Z)) (C3 17 Z Z Z (Aa 18 Z Z (J (Br (v) Z Z (Z) (hvn) Z Tryz.underlying28 BA Z) (AD ⟨Z,?_⟩))))))));refine Aa 19 Z Z (V (Qe Z Z Z Z Z (by rw [dE];exact hvn) dF Z BA) (AD ⟨Z,?_⟩));refine C9 (BC ?_);exact ⟨(⟨S1.idx,Ar S1.low v (min (S1.low v) (S1.idx j)),S1.of,S1.st,cs0++ [(v,k+1)],S1.cnt,S1.clk⟩,none,cs0++ [(v,k+1)],r3,cs0++ [(v,k+1)]++cj),⟨ZD htb hjk hjn (fun e=>h122 (Γ Int.ofNat e)) h132,(ωl _).symm,hr31,cj,Z⟩,by rw [←hmu];exact Kf htb.hcs hkl,A0 hF [0,1,2,3,4] Z (Z) ⟨Z,Z,Z,Z,Z,Z,Z,Z,Z,Z,trivial⟩⟩
        ·refine A1 (BC ?_);exact ⟨(⟨S1.idx,S1.low,S1.of,S1.st,cs0++ [(v,k+1)],S1.cnt,S1.clk⟩,none,cs0++ [(v,k+1)],r3,cs0++ [(v,k+1)]++cj),⟨VR htb hjk hjn (fun e=>h122 (Γ Int.ofNat e)) h132,(ωl _).symm,hr31,cj,Z⟩,by rw [←hmu];exact Kf htb.hcs hkl,A0 hF [0,1,2,3,4] Z (Z) ⟨Z,Z,Z,Z,Z,Z,Z,Z,Z,Z,trivial⟩⟩
      ·refine A1 (AC ?_);have hke:k=(sucs g v).length:=by have:=(Ih htb).2.2.2;have:=h97;omega
       refine AE (goMv Z Z (J (OB Z Z) (J (MJ Z VE Z Z Z) (J (Bw Z Z (FT Z) Z Aq Z) (AB Z Z ?_)))));refine AD (AC (AE (goMv Z Z (goMv Z Z (J (KM Z Tryz.underlying319 Z) (J (LF Z Z (ωa _ (by omega)) Z) (J (Cu cs0.length Z Z hlen1 (by simp) Z Tryz.underlying319 RD Z) (AB Z Z ?_))))))));refine AD (AC (AC (AE (goMv Z Z (J (KM Z Tryz.underlying319 Z) (J (ML Z Z Z) (AD (Ae Z (fun h162=>?_) (fun h162=>?_)))))))))
       ·refine AC ?_;obtain ⟨cs1,⟨u,ku⟩,hcu⟩:=Ei (l:=cs0) (fun e=>by rw [e] at h162;exact absurd h162 (by decide));subst hcu;obtain ⟨hun,hvu⟩:=ZB htb;have hlen3:(((cs1++ [(u,ku)]).length:Nat):Int) - 1=(cs1.length:Int):=by simp
        have hlen4:cs1.length<(cs1++ [(u,ku)]).length:=by simp
        refine AE (goMv Z Z (goMv Z Z (J (KM Z Tryz.underlying319 Z) (J (LF Z Z (ωa _ (by omega)) Z) (J (Br (cs1.length) Z Z (hlen3) (hlen4) Z Tryz.underlying319 RD Z) (J (MJ Z VE Z Z Z) (J (Bw Z Z (getF2 Z) Z Aq Z) (AB Z Z ?_))))))));refine AD (Cb [[],[],[],[],[2,3],[2,3,4],[],[],[6,7],[6,7,8],[2,3,4,5,6,7,8,9],[0,1,2,3,4,5,6,7,8,9,10],[0,1,2,3,4,5,6,7,8,9,10,11]] mixed Z (Cr (AJ [6] [] Z Z (fun _=>AG (Aj Z Z)) (AJ [17] [] Z Z (fun _=>AG (Aj Z Z)) (AJ [6] [] Z Z (fun _=>AG (Aj Z Z)) (AJ [17] [] Z Z (fun _=>AG (Aj Z Z)) (At [172,173] Z Z (fun _=>AG (Br (u) Z Z (Z) (hun) Z Tryz.underlying28 BA Z)) (At [174] Z Z (fun _=>AG (Bw Z Z (Ht hun) Z Aq Z)) ?_))))))));refine AJ [6] [] Z Z (fun _=>AG (Aj Z Z)) (AJ [16] [] Z Z (fun _=>AG (Aj Z Z)) (At [176,177] Z Z (fun _=>AG (Br (v) Z Z (Z) (hvn) Z Tryz.underlying28 BA Z)) (At [178] Z Z (fun _=>AG (Bw Z Z (Ht hvn) Z Aq Z)) (AJ [175,179] [] Z Z (fun _=>AG (KV Z Z (bA _ _) Z)) (C3 11 Z Z Z (Aa 12 Z Z (J (Br (u) Z Z (Z) (hun) Z Tryz.underlying28 BA Z) (AD ⟨Z,?_⟩))))))));refine Aa 13 Z Z (V (Qe Z Z Z Z Z (by rw [dE];exact hun) dF Z BA) (AD ⟨Z,?_⟩));refine C9 (AC (AC ?_))
        first | (obtain ⟨lowX,hlowX,hPX⟩:=Lp htb hke hvu;rw [hlowX];obtain ⟨cs0X,hcX⟩:∃l,cs1++ [(u,ku)]=l:=⟨_,Z⟩;rw [hcX] at htb hPX⊢) | (obtain ⟨lowX,hlowX,hPX⟩:=Lq htb hke (χx.1 (by omega));rw [hlowX];obtain ⟨cs0X,hcX⟩:∃l,cs0=l:=⟨_,Z⟩;rw [hcX] at htb hPX⊢)
        refine Cb [[],[],[0,1],[0,1,2],[],[],[4,5],[4,5,6],[0,1,2,3,4,5,6,7]] mixed Z (Cr (AJ [6] [] Z Z (fun _=>AG (Aj Z Z)) (AJ [16] [] Z Z (fun _=>AG (Aj Z Z)) (At [182,183] Z Z (fun _=>AG (Br (v) Z Z (Z) (hvn) Z Tryz.underlying28 BA Z)) ?_))));refine At [184] Z Z (fun _=>AG (Bw Z Z (Ht hvn) Z Aq Z)) (AJ [5] [] Z Z (fun _=>AG (Aj Z Z)) (AJ [16] [] Z Z (fun _=>AG (Aj Z Z)) (At [186,187] Z Z (fun _=>AG (Br (v) Z Z (Z) (hvn) Z Tryz.underlying28 BA Z)) (At [188] Z Z (fun _=>AG (Bw Z Z (Ht hvn) Z Aq Z)) (C3 8 Z Z Z (Aa 9 Z Z (J (DX Z Z Z) (AD ⟨Z,?_⟩))))))));refine C9 (Ae Z (fun h190=>?_) (fun h190=>?_))
        ·refine BC ?_;exact ⟨(⟨S1.idx,lowX,S1.of,S1.st,cs0X,S1.cnt,S1.clk⟩,none,cs0X,r3,cs0X++ [(v,k)]++cj),⟨hPX.b (fun e=>h190 (Γ Int.ofNat e)),(ωl _).symm,hr31,[(v,k)]++cj,ψk _ _ _⟩,by rw [←hmu];exact H6 htb.hcs,A0 hF [0,1,2,3,4] Z (Z) ⟨Z,Z,Z,Z,Z,Z,Z,Z,Z,Z,trivial⟩⟩
        ·refine A1 (AC (A4 ?_));obtain ⟨st1,st2,hst⟩:=List.append_of_mem (Ih htb).2.1;obtain ⟨sj,hsj⟩:=hr31;have hndp:=JJ htb.ti hst;have hof:D6 g.length S1.of=D6 g.length (fun x=>if x∈([]:List Nat) then (S1.cnt:Int) else S1.of x):=(by simp);rw [hof,show S1.st.length=(st1++(v::st2)).length by rw [hst]];have hstn:=Oi htb.ti;have hstv:∀x∈st1++v::st2,x<g.length:=(fun x hx=>htb.ti.lt x ((htb.ti.st x).1 (by rw [hst];exact hx)).1);rw [hst] at hsj hstn;refine B5 (α:=List Nat×List Nat) (fun q=>⟨214,[(0,.d (Jb g)),(5,(.own 0 0 g.length)),(6,(.own 1 0 g.length)),(7,(.own 2 0 g.length)),(9,(.own 3 0 (st1++q.1).length)),(10,(.d (AN S1.cnt))),(11,(.d (AN S1.clk))),(13,(.own 4 0 cs0X.length)),(16,(.d (AN v))),(37,(.d (AN g.length))),(38,(.d (AN i)))],[(0,[.rowD 3 1 (rowN g.length S1.idx)]),(1,[.rowD 3 1 (rowN g.length lowX)]),(2,[.rowD 3 1 (D6 g.length (fun x=>if x∈q.2 then (S1.cnt:Int) else S1.of x))]),(3,[.rowD 3 1 (r3.map AN)]),(4,[.rowD 318 2 ((cs0X++ [(v,k)]++cj).map Sh)])]⟩) (fun q=>q.1++q.2=v::st2∧q.1≠ []) (fun q=>q.1.length) ((v::st2,[])) (⟨ωl _,fun e=>by cases e⟩) (A0 hF [0,1,2,3,4] Z Z ⟨Z,Z,Z,Z,Z,Z,Z,Z,Z,Z,Z,trivial⟩) ?_;rintro ⟨c,dn⟩ ⟨hcd,hcne⟩;dsimp only at hcd hcne⊢;refine A4 (AC ?_);obtain ⟨c0,w,hcw⟩:=Ei hcne;subst hcw;have hws:st1++v::st2++sj=st1++(c0++ [w])++(dn++sj):=by rw [←hcd];simp
         have hwn:w<g.length:=hstv w (by rw [←hcd];simp);have hl6:(st1++(c0++ [w])).length≤g.length:=by rw [←hcd] at hstn;simp at hstn⊢;omega
         have hl7:(((st1++(c0++ [w])).length:Nat):Int) - 1=((st1++c0).length:Int):=by simp<;>omega
         have hl8:(st1++c0).length<(st1++(c0++ [w])).length:=by simp
         have hl9:(st1++c0).length≤(r3.map AN).length:=by rw [hsj,hws];simp<;>omega
         have hgw:(r3.map AN)[(st1++c0).length]? =some (AN w):=by rw [hsj,hws];exact getW rfl
         refine AE (goMv Z Z (goMv Z Z (J (KM Z Tryz.underlying28 Z) (J (LF Z Z (ωa _ (by omega)) Z) (J (Br ((st1++c0).length) Z Z (hl7) (hl8) Z Tryz.underlying28 BA Z) (J (Bw Z Z (hgw) Z Aq Z) (AB Z Z ?_)))))));refine AD (AC (AE (goMv Z Z (goMv Z Z (J (KM Z Tryz.underlying28 Z) (J (LF Z Z (ωa _ (by omega)) Z) (J (Cu (st1++c0).length Z Z hl7 hl9 Z Tryz.underlying28 BA Z) (AB Z Z ?_))))))));skip;refine AD (AC (AE (goMv Z Z (goMv Z Z (goMv Z Z (J (Br (w) Z Z (Z) (hwn) Z Tryz.underlying28 BA Z) ?_))))));refine V (Qe Z Z Z Z Z (by rw [HS];exact hwn) Vs Z BA) (AD (AC (AE (goMv Z Z (goMv Z Z (J (KL Z Z Z) (AD (Ae Z (fun h208=>?_) (fun h208=>?_)))))))))
         ·refine BC ?_;obtain ⟨hc0,hdn⟩:=Lo hcd (Int.ofNat.inj h208) hndp;subst hc0;rw [ωl,hdn,Int.ofNat.inj h208];have hcl3:=htb.ti.num;have hcl4:=(LH htb.ti).1;refine AE (goMv Z Z (J (Ay Z Z (ωa _ (by omega)) Z) (Io 210 (.d (AN (S1.cnt+1))) Z (eqv (Γ AF (by omega))) (AB Z Z (AD ?_)))));exact ⟨(⟨S1.idx,lowX,fun x=>if x∈v::st2 then (S1.cnt:Int) else S1.of x,st1,cs0X,S1.cnt+1,S1.clk⟩,none,cs0X,r3,cs0X++ [(v,k)]++cj),⟨hPX.c st1 st2 (Int.ofNat.inj (χw.1 h190)) hst,(ωl _).symm,⟨v::st2++sj,by rw [hsj];simp⟩,[(v,k)]++cj,ψk _ _ _⟩,by rw [←hmu];exact H6 htb.hcs,A0 hF [0,1,2,3,4] Z (Z) ⟨Z,Z,Z,Z,Z,Z,Z,Z,Z,Z,trivial⟩⟩
         ·refine A1 ?_;exact ⟨(c0,w::dn),JU hcd (fun e=>h208 (Γ Int.ofNat e)),by show c0.length<(c0++ [w]).length;simp,A0 hF [0,1,2,3,4] Z (Z) ⟨Z,Z,Z,Z,Z,Z,Z,Z,Z,Z,Z,trivial⟩⟩
       ·refine A1 (AC (AC ?_))
        first | (obtain ⟨lowX,hlowX,hPX⟩:=Lp htb hke hvu;rw [hlowX];obtain ⟨cs0X,hcX⟩:∃l,cs1++ [(u,ku)]=l:=⟨_,Z⟩;rw [hcX] at htb hPX⊢) | (obtain ⟨lowX,hlowX,hPX⟩:=Lq htb hke (χx.1 (by omega));rw [hlowX];obtain ⟨cs0X,hcX⟩:∃l,cs0=l:=⟨_,Z⟩;rw [hcX] at htb hPX⊢)
        refine Cb [[],[],[0,1],[0,1,2],[],[],[4,5],[4,5,6],[0,1,2,3,4,5,6,7]] mixed Z (Cr (AJ [6] [] Z Z (fun _=>AG (Aj Z Z)) (AJ [16] [] Z Z (fun _=>AG (Aj Z Z)) (At [182,183] Z Z (fun _=>AG (Br (v) Z Z (Z) (hvn) Z Tryz.underlying28 BA Z)) ?_))));refine At [184] Z Z (fun _=>AG (Bw Z Z (Ht hvn) Z Aq Z)) (AJ [5] [] Z Z (fun _=>AG (Aj Z Z)) (AJ [16] [] Z Z (fun _=>AG (Aj Z Z)) (At [186,187] Z Z (fun _=>AG (Br (v) Z Z (Z) (hvn) Z Tryz.underlying28 BA Z)) (At [188] Z Z (fun _=>AG (Bw Z Z (Ht hvn) Z Aq Z)) (C3 8 Z Z Z (Aa 9 Z Z (J (DX Z Z Z) (AD ⟨Z,?_⟩))))))));refine C9 (Ae Z (fun h190=>?_) (fun h190=>?_))
        ·refine BC ?_;exact ⟨(⟨S1.idx,lowX,S1.of,S1.st,cs0X,S1.cnt,S1.clk⟩,none,cs0X,r3,cs0X++ [(v,k)]++cj),⟨hPX.b (fun e=>h190 (Γ Int.ofNat e)),(ωl _).symm,hr31,[(v,k)]++cj,ψk _ _ _⟩,by rw [←hmu];exact H6 htb.hcs,A0 hF [0,1,2,3,4] Z (Z) ⟨Z,Z,Z,Z,Z,Z,Z,Z,Z,Z,trivial⟩⟩
        ·refine A1 (AC (A4 ?_));obtain ⟨st1,st2,hst⟩:=List.append_of_mem (Ih htb).2.1;obtain ⟨sj,hsj⟩:=hr31;have hndp:=JJ htb.ti hst;have hof:D6 g.length S1.of=D6 g.length (fun x=>if x∈([]:List Nat) then (S1.cnt:Int) else S1.of x):=(by simp);rw [hof,show S1.st.length=(st1++(v::st2)).length by rw [hst]];have hstn:=Oi htb.ti;have hstv:∀x∈st1++v::st2,x<g.length:=(fun x hx=>htb.ti.lt x ((htb.ti.st x).1 (by rw [hst];exact hx)).1);rw [hst] at hsj hstn;refine B5 (α:=List Nat×List Nat) (fun q=>⟨214,[(0,.d (Jb g)),(5,(.own 0 0 g.length)),(6,(.own 1 0 g.length)),(7,(.own 2 0 g.length)),(9,(.own 3 0 (st1++q.1).length)),(10,(.d (AN S1.cnt))),(11,(.d (AN S1.clk))),(13,(.own 4 0 cs0X.length)),(16,(.d (AN v))),(37,(.d (AN g.length))),(38,(.d (AN i)))],[(0,[.rowD 3 1 (rowN g.length S1.idx)]),(1,[.rowD 3 1 (rowN g.length lowX)]),(2,[.rowD 3 1 (D6 g.length (fun x=>if x∈q.2 then (S1.cnt:Int) else S1.of x))]),(3,[.rowD 3 1 (r3.map AN)]),(4,[.rowD 318 2 ((cs0X++ [(v,k)]++cj).map Sh)])]⟩) (fun q=>q.1++q.2=v::st2∧q.1≠ []) (fun q=>q.1.length) ((v::st2,[])) (⟨ωl _,fun e=>by cases e⟩) (A0 hF [0,1,2,3,4] Z Z ⟨Z,Z,Z,Z,Z,Z,Z,Z,Z,Z,Z,trivial⟩) ?_;rintro ⟨c,dn⟩ ⟨hcd,hcne⟩;dsimp only at hcd hcne⊢;refine A4 (AC ?_);obtain ⟨c0,w,hcw⟩:=Ei hcne;subst hcw;have hws:st1++v::st2++sj=st1++(c0++ [w])++(dn++sj):=by rw [←hcd];simp
         have hwn:w<g.length:=hstv w (by rw [←hcd];simp);have hl6:(st1++(c0++ [w])).length≤g.length:=by rw [←hcd] at hstn;simp at hstn⊢;omega
         have hl7:(((st1++(c0++ [w])).length:Nat):Int) - 1=((st1++c0).length:Int):=by simp<;>omega
         have hl8:(st1++c0).length<(st1++(c0++ [w])).length:=by simp
         have hl9:(st1++c0).length≤(r3.map AN).length:=by rw [hsj,hws];simp<;>omega
         have hgw:(r3.map AN)[(st1++c0).length]? =some (AN w):=by rw [hsj,hws];exact getW rfl
         refine AE (goMv Z Z (goMv Z Z (J (KM Z Tryz.underlying28 Z) (J (LF Z Z (ωa _ (by omega)) Z) (J (Br ((st1++c0).length) Z Z (hl7) (hl8) Z Tryz.underlying28 BA Z) (J (Bw Z Z (hgw) Z Aq Z) (AB Z Z ?_)))))));refine AD (AC (AE (goMv Z Z (goMv Z Z (J (KM Z Tryz.underlying28 Z) (J (LF Z Z (ωa _ (by omega)) Z) (J (Cu (st1++c0).length Z Z hl7 hl9 Z Tryz.underlying28 BA Z) (AB Z Z ?_))))))));skip;refine AD (AC (AE (goMv Z Z (goMv Z Z (goMv Z Z (J (Br (w) Z Z (Z) (hwn) Z Tryz.underlying28 BA Z) ?_))))));refine V (Qe Z Z Z Z Z (by rw [HS];exact hwn) Vs Z BA) (AD (AC (AE (goMv Z Z (goMv Z Z (J (KL Z Z Z) (AD (Ae Z (fun h208=>?_) (fun h208=>?_)))))))))
         ·refine BC ?_;obtain ⟨hc0,hdn⟩:=Lo hcd (Int.ofNat.inj h208) hndp;subst hc0;rw [ωl,hdn,Int.ofNat.inj h208];have hcl3:=htb.ti.num;have hcl4:=(LH htb.ti).1;refine AE (goMv Z Z (J (Ay Z Z (ωa _ (by omega)) Z) (Io 210 (.d (AN (S1.cnt+1))) Z (eqv (Γ AF (by omega))) (AB Z Z (AD ?_)))));exact ⟨(⟨S1.idx,lowX,fun x=>if x∈v::st2 then (S1.cnt:Int) else S1.of x,st1,cs0X,S1.cnt+1,S1.clk⟩,none,cs0X,r3,cs0X++ [(v,k)]++cj),⟨hPX.c st1 st2 (Int.ofNat.inj (χw.1 h190)) hst,(ωl _).symm,⟨v::st2++sj,by rw [hsj];simp⟩,[(v,k)]++cj,ψk _ _ _⟩,by rw [←hmu];exact H6 htb.hcs,A0 hF [0,1,2,3,4] Z (Z) ⟨Z,Z,Z,Z,Z,Z,Z,Z,Z,Z,trivial⟩⟩
         ·refine A1 ?_;exact ⟨(c0,w::dn),JU hcd (fun e=>h208 (Γ Int.ofNat e)),by show c0.length<(c0++ [w]).length;simp,A0 hF [0,1,2,3,4] Z (Z) ⟨Z,Z,Z,Z,Z,Z,Z,Z,Z,Z,Z,trivial⟩⟩
    ·refine BC ?_
     first | have hE:=Yz hth (hfr▸χx.1 (by omega)) | skip
     refine AE (J (Ay Z Z (ωa _ (by omega)) Z) (goMv Z Z (AD ?_)));exact ⟨(i+1,S,r3),⟨hil,hE.1,hE.2.1,Ru hth.old hE.2.2,hr3⟩,by show g.length - (i+1)<g.length - i;omega,A0 hF [0,1,2,3] Z (Z) ⟨Z,Z,Z,Z,Z,Z,Z,Z,Z,trivial⟩⟩
  ·refine BC (AC ?_);have hin:i=g.length:=by have:=h39;omega
   subst hin;obtain ⟨hof,hofe⟩:=Yy hti hcs hold;have hre:D6 g.length S.of=rowN g.length (fun v=>(S.of v).toNat):=ωi fun v hv=>Γ AF (hofe v (Θ.1 hv));rw [hre];refine AE (goMv Z Z (goMv Z Z (AB Z Z (AB Z Z (AD (A5 ?_))))));exact ⟨_,[2],_,A3 Z,Z,Z,_,_,hof,Z,Z⟩
end Go.Proofs.YteifpcnphnhaoaaGreat
