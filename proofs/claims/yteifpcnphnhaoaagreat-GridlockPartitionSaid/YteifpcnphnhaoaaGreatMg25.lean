import Derived.Test.YteifpcnphnhaoaaGreatMg24
namespace Go.Proofs.YteifpcnphnhaoaaGreat
open Go.RowKit
set_option maxRecDepth 100000
def Gs (l:List Nat):Bool:=decide (l.length<2)
theorem WU (l:List Nat) (hl:l.length≤100000):AO Tryz.prog 82 [.d (natsD l)] (Ak (Gs l)):=by
 refine BB Tryz.func82 Z Z Tryz.ntmps82 Z Z Z fun F hF=>(AC (AE (AB Z Z ?_)));refine AD (AC (AE (goMv Z Z (J (Bz Z Tryz.underlying28 Z) (J (BT Z Z Z) (AB Z Z (AD (A8 ?_))))))));exact ⟨_,[],_,A7 Z,Z,Z,XI (by omega),Z⟩
def hdi (l:List Nat):Int:=((l.getD 0 0:Nat):Int)
theorem circ3_p (a b:List Nat) (ha:0<a.length) (hb:0<b.length) (hba:a.getD 0 0≤100000) (hbb:b.getD 0 0≤100000):AO Tryz.prog 84 [.d (natsD a),.d (natsD b)] (AF (hdi a - hdi b)):=by
 have ea:a.getD 0 0=a[0]:=by rw [ϱ,ω ha];rfl
 have eb:b.getD 0 0=b[0]:=by rw [ϱ,ω hb];rfl
 unfold hdi;rw [ea] at hba⊢;rw [eb] at hbb⊢;refine BB Tryz.func84 Z Z Tryz.ntmps84 Z Z Z fun F hF=>(AC (AE (AB Z Z (AD (AC (Cc [[],[0],[0,1],[],[3],[3,4],[0,1,2,3,4,5],[0,1,2,3,4,5,6]] mixed Z (Cj (AI [0] [] Z Z (fun _=>AG (Ai Z Z)) ?_))))))));refine AI [5] [] Z Z (fun _=>AG (Bb (0) Z Z (Z) (Ag ha) Tryz.underlying28 Z BD Z)) (AI [6] [] Z Z (fun _=>AG (Cm Z Z Aq Z)) (AI [1] [] Z Z (fun _=>AG (Ai Z Z)) (AI [8] [] Z Z (fun _=>AG (Bb (0) Z Z (Z) (Ag hb) Tryz.underlying28 Z BD Z)) (AI [9] [] Z Z (fun _=>AG (Cm Z Z Aq Z)) (C1 6 Z Z Z (Ae 7 Z Z (J (LI Z Z (Υ _ (by omega)) Z) (AD ⟨Z,?_⟩))))))));refine Ae 8 Z Z (AB Z Z (AD ⟨Z,?_⟩));refine C6 (A8 ?_);exact ⟨_,[],[],A7 Z,Z,Z,Z,Z⟩
theorem idxC_p (l:List (List Nat)) (hl:l.length≤100000) (hll:∀c∈l,c.length≤100000):AO Tryz.prog 135 [.d (.sl none (l.map natsD)),.d (.fn 82 [] [])] (AF (OF Gs l)):=by
 refine BB Tryz.func135 Z Z Tryz.ntmps135 Z Z Z fun F hF=>(AC (AE (AB Z Z (AD ?_))));refine AC (AC (AE (goMv Z Z (J (Bz Z Tryz.underlying29 Z) (goMv Z Z (AD (A5 (Gx (α:=Nat) (fun k=>⟨19,[(0,.d (.sl none (l.map natsD))),(1,.d (.fn 82 [] [])),(7,(.d (AF (l.length:Int)))),(8,(.d (AF (k:Int))))],[]⟩) (fun k=>k≤l.length∧∀x∈l.take k,Gs x=false) (fun k=>l.length - k) (0) (⟨Γ _,by simp⟩) (c8 ⟨Z,Z,Z,Z,trivial⟩) ?_))))))));rintro k ⟨hk0,hk⟩;refine AC (AE (J (BT Z Z Z) (AD (AC (Ah Z (fun h9=>?_) (fun h9=>?_))))))
 ·have hk1:k<l.length:=Bf h9;refine A3 (AC (A5 (AC (AE (goMv Z Z (AB Z Z (AD (AC ?_))))))));refine AE (goMv Z Z (goMv Z Z (goMv Z Z (J (Bb (k) Z Z (Z) (Ag hk1) Tryz.underlying29 Z CG Z) (J (Cm Z Z BC Z) (J (KZ (WU l[k] (hll _ (θ hk1))) Z Z) (AD (Ah Z (fun h16=>?_) (fun h16=>?_)))))))))
  ·refine AC (AE (goMv Z Z (AB Z Z (AD (A8 ?_)))));exact ⟨_,[],[],A7 Z,Z,Z,Aj (by unfold OF;rw [Gp hk1 hk (by unfold Gs;simpa using h16)]),Z⟩
  ·refine A3 (AE (J (Ay Z Z (AT (k+1) (by omega)) Z) (goMv Z Z (AD ?_))));exact ⟨k+1,⟨by show k+1≤_;omega,by rw [φ hk1];intro x hx;rcases ν.1 hx with hx | hx;exact hk x hx;rw [ξ.1 hx];unfold Gs;simpa using h16⟩,by show l.length - (k+1)<l.length - k;omega,⟨Z,Z,fun _ _=>Ta.get (l:=[(0,_),(1,_),(7,_),(8,_)]) ⟨Z,Z,Z,Z,trivial⟩⟩⟩
 ·refine BF (AC (AE (AB Z Z (AD (A8 ?_)))));exact ⟨_,[],[],A7 Z,Z,Z,Aj (by unfold OF;rw [IX (fun x hx=>hk x (by rw [Ξ (by have h:=h9;omega)];exact hx))]),Z⟩
def lgs (l:List (List Nat)):List (List Nat):=l.filter fun x=>!Gs x
theorem Vx {l:List (List Nat)} (h:∀x∈l,Gs x=false):lgs l=l:=List.filter_eq_self.2 fun x hx=>by rw [h x hx];rfl
theorem lgs_in {l:List (List Nat)} {k:Nat} (hk:k<l.length) (h:Gs l[k]=false):lgs (l.take (k+1))=lgs (l.take k)++ [l[k]]:=by
 unfold lgs;rw [GO hk,κ (by rw [h];rfl)]
theorem Vw {l:List (List Nat)} {k:Nat} (hk:k<l.length) (h:Gs l[k]=true):lgs (l.take (k+1))=lgs (l.take k):=by
 unfold lgs;rw [GO hk,ϑ (by rw [h];simp),ωk]
theorem a8 (l:List (List Nat)):(lgs l).length≤l.length:=ωh _ _
def eO:Option (List Nat) ->D
 | some l=>natsD l
 | none=> .raw (.slice none 0 0)
theorem ba (l:List (List Nat)):l.map natsD=(l.map some).map eO:=by rw [ωv];rfl
theorem delC_c (l:List (List Nat)) (hl:l.length≤100000) (hll:∀c∈l,c.length≤100000):AN Tryz.prog 81 [.own 10 0 l.length,.d (.fn 82 [] [])] [(10,[.rowD 28 1 (l.map natsD)])] fun r H'=>r= .own 10 0 (lgs l).length∧H'=[(10,[.rowD 28 1 ((lgs l).map natsD++(List.replicate (l.length - (lgs l).length) none).map eO)])]:=by
 have hix:=idxC_p l hl hll
 cases hfi:l.findIdx? Gs with
 | none=>
  have hall:∀x∈l,Gs x=false:=fun x hx=>by have:=List.findIdx?_eq_none_iff.1 hfi x hx;simpa using this
  have hix2:OF Gs l= -1:=by unfold OF;rw [hfi]
  rw [hix2] at hix;have hkp:=Vx hall;refine BB Tryz.func81 Z Z Tryz.ntmps81 Z Z Z fun F hF=>(AC (AE (AB Z Z (AD (AC (AE ?_))))));refine goMv Z Z (goMv Z Z (J (IJ [10] hix (by exact ⟨.inr ⟨_,_,Z,.own Z Z (by simp) (Ξ (by simp)),Z⟩,.inl Z,trivial⟩) Z Z) (AB Z Z (AD (AC (AC (AE (goMv Z Z ?_))))))));refine J (KJ Z Z Z) (AD (D9 Z (Z) (AC (AE (goMv Z Z (AB Z Z (AD (A8 ?_))))))));exact ⟨_,[10],_,A7 Z,Z,Z,by rw [hkp],by rw [hkp];simp⟩
 | some k0=>
  obtain ⟨hk0,hk0p,hk0n⟩:=List.findIdx?_eq_some_iff_getElem.1 hfi;have hix2:OF Gs l=(k0:Int):=by unfold OF;rw [hfi]
  rw [hix2] at hix
  have hpre:∀x∈l.take k0,Gs x=false:=fun x hx=>by
   obtain ⟨j,hj,rfl⟩:=χe.1 hx;have:=hk0n j (by omega)
   simpa using this
  rw [ba l] at hix⊢;have hst:lgs (l.take (k0+1))=l.take k0:=by rw [Vw hk0 hk0p,Vx hpre]
  refine BB Tryz.func81 Z Z Tryz.ntmps81 Z Z Z fun F hF=>(AC ?_);refine AE (AB Z Z (AD (AC (AE (goMv Z Z (goMv Z Z (J (IJ [10] hix (by exact ⟨.inr ⟨_,_,Z,.own Z Z (by simp) (Ξ (by simp)),Z⟩,.inl Z,trivial⟩) Z Z) (AB Z Z ?_))))))));refine AD (AC (AC (AE (goMv Z Z (J (KJ Z Z Z) (AD (Db Z ((ωp (by omega))) (A3 ?_))))))));refine AC (AC (AE (goMv Z Z (J (Ay Z Z (AT (k0+1) (by omega)) Z) (AB Z Z (AD (A5 (B6 (α:=Nat×Nat×List (Option (List Nat))) (fun q=>⟨42,[(0,(.own 10 0 l.length)),(1,(.d (.fn 82 [] []))),(5,(.d (AF (q.1:Int)))),(6,(.d (AF (q.2.1:Int))))],[(10,[.rowD 28 1 (q.2.2.map eO)])]⟩) (fun q=>q.2.1≤l.length∧q.1<q.2.1∧q.2.2.length=l.length∧q.2.2.take q.1=(lgs (l.take q.2.1)).map some∧q.2.2.drop q.2.1=(l.drop q.2.1).map some) (fun q=>l.length - q.2.1) ((k0,k0+1,l.map some)) (⟨by show k0+1≤_;omega,χm _,by show (l.map some).length=_;simp,by show (l.map some).take k0=_;rw [hst,List.map_take],by show (l.map some).drop (k0+1)=_;rw [List.map_drop]⟩) (A1 hF [10] Z Z ⟨Z,Z,Z,Z,trivial⟩) ?_))))))));rintro ⟨i,j,c⟩ ⟨hj0,hij,hcl,hct,hcd⟩;dsimp only at hj0 hij hcl hct hcd⊢;refine AC (AC (AE (goMv Z Z (goMv Z Z (J (LJ Z Tryz.underlying29 Z) (J (BT Z Z Z) (AD (Ah Z (fun h19=>?_) (fun h19=>?_)))))))))
  ·have hj1:j<l.length:=Bf h19;refine A3 (AC (A5 (AC (AE ?_))));have hjc:j<c.length:=by omega
   have hcj:c[j]=some l[j]:=by have h1:(c.drop j)[0]? =((l.drop j).map some)[0]?:=by {rw [hcd]};rw [χd,η,χd,χo,ω hjc,ω hj1] at h1;injection h1
   refine goMv Z Z (goMv Z Z (J (Bu (j) Z Z (Z) (hj1) Z Tryz.underlying29 CG Z) (J (CC Z Z ((show (c.map eO)[j]? =some (natsD l[j]) from by rw [η,ω hjc,hcj];rfl)) Z BC Z) ?_)));refine AB Z Z ?_;refine AD (AC (AE (goMv Z Z (goMv Z Z (J (KZ (WU l[j] (hll _ (θ hj1))) Z Z) (J (Nz Z Z) (AD (Ah Z (fun h29=>?_) (fun h29=>?_)))))))))
   ·have hkj:Gs l[j]=false:=by unfold Gs;simpa using h29
    refine AC (AE (goMv Z Z (goMv Z Z (goMv Z Z (J (Bu (i) Z Z (Z) ((by omega)) Z Tryz.underlying29 CG Z) (V (Fw (c) (some l[j]) Z Z Z Z Z Z (by omega) Z CG) (AD (AE ?_))))))));refine goMv Z Z (J (Ay Z Z (AT (i+1) (by omega)) Z) (AB Z Z (AD (AE (goMv Z Z (J (Ay Z Z (AT (j+1) (by omega)) Z) (AB Z Z (AD ?_))))))));exact ⟨(i+1,j+1,_),⟨by show j+1≤_;omega,by show i+1<j+1;omega,by show (c.set i (some l[j])).length=_;rw [ψd];exact hcl,by show (c.set i (some l[j])).take (i+1)=(lgs (l.take (j+1))).map some;rw [lgs_in hj1 hkj,ωc,←hct,φ (by rw [ψd];omega),List.getElem_set_self,List.take_set_of_le (υ i)];rfl,by show (c.set i (some l[j])).drop (j+1)=(l.drop (j+1)).map some;rw [List.drop_set_of_lt (by omega),←List.tail_drop,←List.tail_drop,hcd,List.map_tail]⟩,by show l.length - (j+1)<l.length - j;omega,A1 hF [10] Z (Z) ⟨Z,Z,Z,Z,trivial⟩⟩
   ·have hkj:Gs l[j]=true:=by unfold Gs;simpa using h29
    refine A3 (AE (goMv Z Z (J (Ay Z Z (AT (j+1) (by omega)) Z) (AB Z Z (AD ?_)))));exact ⟨(i,j+1,c),⟨by show j+1≤_;omega,by show i<j+1;omega,hcl,by show c.take i=(lgs (l.take (j+1))).map some;rw [Vw hj1 hkj,hct],by show c.drop (j+1)=(l.drop (j+1)).map some;rw [←List.tail_drop,←List.tail_drop,hcd,List.map_tail]⟩,by show l.length - (j+1)<l.length - j;omega,A1 hF [10] Z (Z) ⟨Z,Z,Z,Z,trivial⟩⟩
  ·refine BF (AC ?_);have hje:j=l.length:=by have h:=h19;omega
   have hfin:c.take i=(lgs l).map some:=by rw [hct,hje,ωt]
   have hil:i=(lgs l).length:=by have h:=Δ List.length hfin;rw [Ω,ψ] at h;omega
   refine AE (goMv Z Z (goMv Z Z (Rp (emb:=eO) (zd:=none) c i Z Z Z Z hcl.symm Z (by omega) Tryz.underlying29 CG Tryz.zeroValue28 Z Z Z Z Z Z ?_)));refine AD (AC (AE (goMv Z Z (goMv Z Z (J (DF (i) Z Z Z (by simp only [ψ,Θ,Ω,List.length_replicate];omega) Z Tryz.underlying29 CG Z) (AB Z Z (AD (A8 ?_))))))));exact ⟨_,[10],_,A7 Z,Z,Z,by rw [←hil],by rw [hfin,hcl,hil,ωc,←ba]⟩
end Go.Proofs.YteifpcnphnhaoaaGreat
namespace Go.Proofs.YteifpcnphnhaoaaGreat
end Go.Proofs.YteifpcnphnhaoaaGreat
namespace Go.Proofs.YteifpcnphnhaoaaGreat
open Go.RowKit
set_option maxRecDepth 100000
def Melt (M:MF) (x y:D):Prop:=x=y∨∃h T zs,x=hdr h zs.length∧BK M h T 1 zs∧(∀z∈zs,z.one=true)∧y= .sl none zs
theorem AQ.melt {F:Fr} {s:AS} {ρ:Nat ->Nat ->Value} {act:Act} {w:World} (hs:SR F s ρ act w) {f:Nat} {M:MF} {hp':Hp} (hM:hfam s.hp f=some [.multi M]) (hO1:∀b,F.O ρ hp' b ->F.O ρ s.hp b)
  (hO2:∀i o b,hget s.hp f i=some o ->B9 (ρ f i)=some b ->¬F.O ρ hp' b) {x y:D} {v:Value} (hm:Melt M x y) (hr:AQ w (F.O ρ hp') x v):AQ w (F.O ρ hp') y v:=by
 rcases hm with rfl | ⟨h,T,zs,rfl,hra,hz1,rfl⟩
 ·exact hr
 ·match h,hra with
  | none,hra=>
   have hra:zs=[]:=hra;subst hra
   cases hr with
   | raw _=>exact .sl 0 (fun b hb=>by cases hb) (fun _=>rfl) Z (υ _) (Γ _) (fun x hx=>by cases hx) (fun h=>absurd Z h) (fun b o hb=>by cases hb)
  | some (b,c),hra=>
   obtain ⟨hle,hb⟩:=hra
   cases hr with
   | raw _=>
    obtain ⟨hρ,us,g1,g2,g3⟩:=hs.rowN hM hb;obtain ⟨a,cap,e,q1,q2,q3,q4⟩:=G9 g1;injection e with e1 e2 e3
    subst e1 e3
    have hc1:∀z∈zs,z.cells=[z]:=fun z hz=>by
     have h1:=hz1 z hz;have h2:=g2.2.1 z hz
     cases z with
     | agg cs=>simp [D.one] at h1
     | _=>rfl
    refine .sl 1 (fun b hb=>by cases hb) (fun h=>by cases h) Z q1 q2 (fun z hz=>by rw [hc1 z hz];rfl) (fun _=>⟨b,0,Z⟩) (fun b' o hb' i z hi=>?_);injection hb' with hb'
    injection hb' with hb1 hb2
    subst hb1 hb2;have hil:i<zs.length:=(χ.1 hi).1;obtain ⟨b2,cur,r1,r2,r3,r4⟩:=q4 (by omega);injection r1 with r1
    injection r1 with r1
    subst r1;have hlt:b<w.heap.size:=(ωs.1 r2).1
    have hex:∀(q:Nat) c,z.cells[q]? =some c ->∃u,w.cell? ⟨b,0+i*1+q,none⟩=some u∧AQ w (F.O ρ hp') c u:=fun q c' hc=>by
     obtain ⟨u,d1,d2,d3⟩:=g2.2.2 i z hi q c' hc;exact ⟨u,by rw [ψs];exact DX r2 r4 d1,d3.mono (υ _) (fun _ _ _=>rfl) fun b _=>hO1 b⟩
    refine .ptr (fun q=>(w.cell? ⟨b,0+i*1+q,none⟩).getD undef) hlt (hO2 b _ b (by rw [Fp hM,hb];rfl) (by rw [hρ];rfl)) (g3 z (ζ hi)) (fun q c' hc=>?_) (fun q c' hc=>?_)
    ·obtain ⟨u,d1,_⟩:=hex q c' hc;rw [d1];rfl
    ·obtain ⟨u,d1,d2⟩:=hex q c' hc;rw [d1];exact d2
theorem SR.melt {F:Fr} {s:AS} {ρ:Nat ->Nat ->Value} {act:Act} {w:World} (hs:SR F s ρ act w) (g i f:Nat) {M:MF} {T:TypeId} {xs ys:List D} {env':List (Nat×AV)} {hp1 hp2 hp':Hp} (hM:hfam s.hp f=some [.multi M])
  (hE:A0 f s.env=some env') (hH:AX f s.hp=some hp1) (hh:CD f hp1=some hp2) (ho:hget hp2 g i=some (.rowD T 1 xs)) (hlen:ys.length=xs.length)
  (hxy:∀(j:Nat) x y,xs[j]? =some x ->ys[j]? =some y ->Melt M x y) (h1:(∀x∈xs,x.one=true)∧∀y∈ys,y.one=true) (hset:BP hp2 g i (.rowD T 1 ys)=some hp'):SR F ⟨s.n,env',hp'⟩ ρ act w:=by
 obtain ⟨h2,hO1,hO2⟩:=hs.forget f hE hH hh (fun j t cs e=>by
  rw [Fp hM] at e
  cases hm:M j with
  | none=>rw [hm] at e;cases e
  | some m=>rw [hm] at e;injection e with e;exact Af.notBlk e)
 have hone:∀z:D,z.one=true ->z.cells=[z]:=fun z hz=>by
  cases z with
  | agg cs=>simp [D.one] at hz
  | _=>rfl
 refine h2.write g i (.rowD T 1 xs) (.rowD T 1 ys) ho (Am hset) Z Z Z Z (fun _ _=>rfl) (fun _ _ e=>by cases e) fun hrep=>?_;obtain ⟨us,k1,k2,k3⟩:=h2.heap.sim g i _ ho;refine ⟨us,by rw [hlen];exact k1,⟨by rw [hlen];exact k2.1,fun y hy=>by rw [hone y (h1.2 y hy)];rfl,fun j y hj q c hc=>?_⟩,fun y hy c hc=>by rw [hone y (h1.2 y hy),ξ] at hc;rw [hc];exact h1.2 y hy⟩;have hjl:j<xs.length:=by rw [←hlen];exact (χ.1 hj).1
 have hx:xs[j]? =some xs[j]:=ω hjl;rw [hone y (h1.2 y (ζ hj))] at hc
 cases q with
 | succ q=>cases hc
 | zero=>
  injection hc with hc
  subst hc;obtain ⟨u,d1,d2,d3⟩:=k2.2.2 j _ hx 0 _ (by rw [hone _ (h1.1 _ (θ hjl))];rfl);refine ⟨u,d1,d2,?_⟩;have h3:=AQ.melt hs hM hO1 hO2 (hxy j _ _ hx hj) d3;have h4:=hrep (.d y) u (.d h3)
  cases h4 with | d h4=>exact h4
section
variable {P:Program} {F:Fr} {Q:Exit ->AS ->Prop} {c:Code} {n:Nat} {env env':List (Nat×AV)} {hp hp1 hp2 hp':Hp}
theorem cU (g i f:Nat) {M:MF} {T:TypeId} {xs:List D} (ys:List D) (hM:hfam hp f=some [.multi M])
  (hE:A0 f env=some env') (hH:AX f hp=some hp1) (hh:CD f hp1=some hp2) (ho:hget hp2 g i=some (.rowD T 1 xs)) (hlen:ys.length=xs.length)
  (hxy:∀(j:Nat) x y,xs[j]? =some x ->ys[j]? =some y ->Melt M x y) (h1:(∀x∈xs,x.one=true)∧∀y∈ys,y.one=true) (hset:BP hp2 g i (.rowD T 1 ys)=some hp') (h:Bp P F c Q ⟨n,env',hp'⟩):Bp P F c Q ⟨n,env,hp⟩:=
 fun ρ act w hs=>h ρ act w (hs.melt g i f hM hE hH hh ho hlen hxy h1 hset)
end
theorem SR.weakRow {F:Fr} {s:AS} {ρ:Nat ->Nat ->Value} {act:Act} {w:World} (hs:SR F s ρ act w) (g i:Nat) {T:TypeId} {xs ys:List D} {hp':Hp} (ho:hget s.hp g i=some (.rowD T 1 xs)) (hlen:ys.length=xs.length)
  (hxy:∀(j:Nat) x y,xs[j]? =some x ->ys[j]? =some y ->∀w O v,AQ w O x v ->AQ w O y v) (h1:(∀x∈xs,x.one=true)∧∀y∈ys,y.one=true) (hset:BP s.hp g i (.rowD T 1 ys)=some hp'):SR F ⟨s.n,s.env,hp'⟩ ρ act w:=by
 have hone:∀z:D,z.one=true ->z.cells=[z]:=fun z hz=>by
  cases z with
  | agg cs=>simp [D.one] at hz
  | _=>rfl
 refine hs.write g i (.rowD T 1 xs) (.rowD T 1 ys) ho (Am hset) Z Z Z Z (fun _ _=>rfl) (fun _ _ e=>by cases e) fun hrep=>?_;obtain ⟨us,k1,k2,k3⟩:=hs.heap.sim g i _ ho;refine ⟨us,by rw [hlen];exact k1,⟨by rw [hlen];exact k2.1,fun y hy=>by rw [hone y (h1.2 y hy)];rfl,fun j y hj q c hc=>?_⟩,fun y hy c hc=>by rw [hone y (h1.2 y hy),ξ] at hc;rw [hc];exact h1.2 y hy⟩;have hjl:j<xs.length:=by rw [←hlen];exact (χ.1 hj).1
 have hx:xs[j]? =some xs[j]:=ω hjl;rw [hone y (h1.2 y (ζ hj))] at hc
 cases q with
 | succ q=>cases hc
 | zero=>
  injection hc with hc
  subst hc;obtain ⟨u,d1,d2,d3⟩:=k2.2.2 j _ hx 0 _ (by rw [hone _ (h1.1 _ (θ hjl))];rfl);refine ⟨u,d1,d2,?_⟩;have h4:=hrep (.d y) u (.d (hxy j _ _ hx hj _ _ _ d3))
  cases h4 with | d h4=>exact h4
section
variable {P:Program} {F:Fr} {Q:Exit ->AS ->Prop} {c:Code} {n:Nat} {env:List (Nat×AV)} {hp hp':Hp}
theorem Pf (g i:Nat) {T:TypeId} {xs:List D} (ys:List D) (ho:hget hp g i=some (.rowD T 1 xs)) (hlen:ys.length=xs.length)
  (hxy:∀(j:Nat) x y,xs[j]? =some x ->ys[j]? =some y ->∀w O v,AQ w O x v ->AQ w O y v) (h1:(∀x∈xs,x.one=true)∧∀y∈ys,y.one=true) (hset:BP hp g i (.rowD T 1 ys)=some hp') (h:Bp P F c Q ⟨n,env,hp'⟩):Bp P F c Q ⟨n,env,hp⟩:=
 fun ρ act w hs=>h ρ act w (hs.weakRow g i ho hlen hxy h1 hset)
end
structure Lq (M:MF) (n:Nat) (hs:Nat ->Hd) (ls:Nat ->List Nat):Prop where
 at_:∀j,j<n ->BK M (hs j) 3 1 ((ls j).map AM)
 inj:∀j k b c c',j<n ->k<n ->hs j=some (b,c) ->hs k=some (b,c') ->j=k
abbrev rowH (n:Nat) (hs:Nat ->Hd) (ls:Nat ->List Nat):List D:=(List.range n).map fun j=>hdr (hs j) (ls j).length
theorem JW {n j:Nat} {hs:Nat ->Hd} {ls:Nat ->List Nat} (h:j<n):(rowH n hs ls)[j]? =some (hdr (hs j) (ls j).length):=by simp [h]
theorem FE (n:Nat) (hs:Nat ->Hd) (ls:Nat ->List Nat):(rowH n hs ls).length=n:=by simp
theorem R0 {n j:Nat} {hs:Nat ->Hd} {ls:Nat ->List Nat} {h:Hd} {l:List Nat}:(rowH n hs ls).set j (hdr h l.length)=rowH n (At hs j h) (At ls j l):=
 Lv (fun i _ hne=>by rw [GU hne,GU hne]) (by rw [KM,KM])
theorem Lq.zero (n:Nat):Lq (fun _=>none) n (fun _=>none) (fun _=> []):=⟨fun _ _=>rfl,fun _ _ _ _ _ _ _ h=>by cases h⟩
theorem Lq.app {M:MF} {n j:Nat} {hs:Nat ->Hd} {ls:Nat ->List Nat} (h:Lq M n hs ls) (hj:j<n) {l:List Nat} {b c:Nat} (hb:B5 M (hs j) b=none) (hc:(l.map AM).length≤c):
  Lq (B1 (B5 M (hs j)) b (.row 3 1 c (l.map AM))) n (At hs j (some (b,c))) (At ls j l):=by
 have hne:∀k,k<n ->k≠j ->∀b' c',hs k=some (b',c') ->b'≠b∧B1 (B5 M (hs j)) b (.row 3 1 c (l.map AM)) b'=M b':=by
  intro k hk hkj b' c' e;have h1:=h.at_ k hk;rw [e] at h1;have h2:∀c'',hs j≠some (b',c''):=fun c'' e2=>hkj (h.inj k j b' c' c'' hk hj e e2);refine ⟨fun e3=>?_,?_⟩
  ·subst e3;have:=Ix h1.2 h2;rw [hb] at this;cases this
  ·rw [keepM hb h1.2 h2,h1.2]
 refine ⟨fun k hk=>?_,fun k k' b1 c1 c2 hk hk' e1 e2=>?_⟩
 ·by_cases e:k=j
  ·subst e;rw [KM,KM];exact ⟨hc,Fm _ _ _⟩
  ·rw [GU e,GU e];have h1:=h.at_ k hk
   match hh:hs k,h1 with
   | none,h1=>exact h1
   | some (b',c'),h1=>exact ⟨h1.1,by rw [(hne k hk e b' c' hh).2];exact h1.2⟩
 ·by_cases ek:k=j<;>by_cases ek':k'=j
  ·rw [ek,ek']
  ·subst ek;rw [KM] at e1;rw [GU ek'] at e2;injection e1 with e1;injection e1 with e1 _;subst e1
   exact ((hne k' hk' ek' _ _ e2).1 Z).elim
  ·subst ek';rw [KM] at e2;rw [GU ek] at e1;injection e2 with e2;injection e2 with e2 _;subst e2
   exact ((hne k hk ek _ _ e1).1 Z).elim
  ·rw [GU ek] at e1;rw [GU ek'] at e2;exact h.inj k k' b1 c1 c2 hk hk' e1 e2
def bK (n:Nat) (ls:Nat ->List Nat):List (List Nat):=(List.range n).map ls
theorem TV (n:Nat) (ls:Nat ->List Nat):(bK n ls).length=n:=by simp [bK]
theorem S4 {n i:Nat} {ls:Nat ->List Nat} (h:i<n):sucs (bK n ls) i=ls i:=by
 rw [EI (by rw [TV];exact h)];simp [bK]
theorem Lq.melt {M:MF} {n:Nat} {hs:Nat ->Hd} {ls:Nat ->List Nat} (h:Lq M n hs ls):∀(j:Nat) x y,(rowH n hs ls)[j]? =some x ->((bK n ls).map natsD)[j]? =some y ->Melt M x y:=by
 intro j x y hx hy;have hj:j<n:=by have:=(χ.1 hx).1;rwa [FE] at this
 rw [JW hj] at hx;injection hx with hx
 rw [S6 (by rw [TV];exact hj),S4 hj] at hy;injection hy with hy
 subst hx hy;exact .inr ⟨hs j,3,(ls j).map AM,by rw [ψ],h.at_ j hj,fun z hz=>by obtain ⟨a,_,rfl⟩:=ϖ.1 hz;rfl,Z⟩
theorem J5 (n:Nat) (hs:Nat ->Hd) (ls:Nat ->List Nat):∀x∈rowH n hs ls,x.one=true:=fun x hx=>by
 obtain ⟨a,_,rfl⟩:=ϖ.1 hx;rfl
theorem Zr (g:List (List Nat)):∀x∈g.map natsD,x.one=true:=fun x hx=>by
 obtain ⟨a,_,rfl⟩:=ϖ.1 hx;rfl
theorem Ru (n:Nat):∀(j:Nat) x y,(List.replicate n (D.sl (some true) []))[j]? =some x ->(rowH n (fun _=>none) (fun _=> []))[j]? =some y ->∀w O v,AQ w O x v ->AQ w O y v:=by
 intro j x y hx hy w O v hr;have hj:j<n:=by have:=(χ.1 hx).1;rwa [List.length_replicate] at this
 rw [JW hj] at hy;injection hy with hy
 have hx':x=D.sl (some true) []:=by rw [List.getElem?_replicate,κ hj] at hx;injection hx with hx;exact hx.symm
 subst hx' hy;exact hr.nrm1
theorem V6 (n:Nat):∀x∈List.replicate n (D.sl (some true) []),x.one=true:=fun x hx=>by rw [(List.mem_replicate.1 hx).2];rfl
theorem grd_ex (g:List (List Nat)) (K:Nat ->Nat):∃out,Ql g K out∧∀y,¬Cf g out y:=by
 have key:∀(m:Nat) (l:List Nat),Ql g K l ->g.length - l.length≤m ->∃out,Ql g K out∧∀y,¬Cf g out y:=by
  intro m
  induction m with
  | zero=>
   intro l hl hm;refine ⟨l,hl,fun y hy=>?_⟩;obtain ⟨h1,h2⟩:=IU hl;have:=Cr (φa.2 ⟨hy.2.1,h1⟩) (m:=List.range g.length) fun x hx=>ς.2 ((Φ.1 hx).elim (fun e=>e▸hy.1) (h2 x));rw [ψo,ωf] at this;omega
  | succ m ih=>
   intro l hl hm
   by_cases he:∃y,Cf g l y
   ·have hmin:∀(b:Nat) y,Cf g l y ->K y≤b ->∃x,Cf g l x∧∀z,Cf g l z ->K x≤K z:=by
     intro b
     induction b with
     | zero=>intro y hy hb;exact ⟨y,hy,fun z _=>by omega⟩
     | succ b ihb=>
      intro y hy hb
      by_cases h2:∃z,Cf g l z∧K z≤b
      ·obtain ⟨z,hz,hzb⟩:=h2;exact ihb z hz hzb
      ·exact ⟨y,hy,fun z hz=>by
        have:¬K z≤b:=fun h=>h2 ⟨z,hz,h⟩
        omega⟩
    obtain ⟨y,hy⟩:=he;obtain ⟨x,hx,hxm⟩:=hmin (K y) y hy (υ _);refine ih (l++ [x]) (S3 hl hx hxm) ?_;rw [Θ,Ψ];omega
   ·exact ⟨l,hl,fun y hy=>he ⟨y,hy⟩⟩
 exact key _ [] (fun i hi=>by simp at hi) (υ _)
theorem Kc (g:List (List Nat)) (K:Nat ->Nat):Ql g K (ordG g K)∧∀y,¬Cf g (ordG g K) y:=Classical.epsilon_spec (p:=fun out=>Ql g K out∧∀y,¬Cf g out y) (grd_ex g K)
theorem ordG_lt {g:List (List Nat)} {K:Nat ->Nat} {k:Nat} (h:k<(ordG g K).length):nth (ordG g K) k<g.length:=(IU (Kc g K).1).2 _ (Ct h)
theorem Zp (g:List (List Nat)) (K:Nat ->Nat):(ordG g K).length≤g.length:=by
 obtain ⟨h1,h2⟩:=IU (Kc g K).1;have:=Cr h1 (m:=List.range g.length) fun x hx=>ς.2 (h2 x hx)
 rwa [ωf] at this
def lfT (of:Nat ->Nat) (n:Nat):Nat ->Nat ->Nat
 | 0=>fun _=>0
 | d+1=>At (lfT of n d) (of (n - 1 - d)) (n - 1 - d)
theorem Hi (of:Nat ->Nat) (n:Nat):∀d,d≤n ->∀c,(∃v,n - d≤v∧v<n∧of v=c) ->of (lfT of n d c)=c∧lfT of n d c<n∧∀v,n - d≤v ->v<n ->of v=c ->lfT of n d c≤v
 | 0,_,c,⟨v,h1,h2,_⟩=>by omega
 | d+1,hd,c,⟨v,h1,h2,h3⟩=>by
  unfold lfT
  by_cases e:c=of (n - 1 - d)
  ·subst e;rw [KM];exact ⟨Z,by omega,fun v hv _ _=>by omega⟩
  ·rw [GU e];have hv:v≠n - 1 - d:=fun e2=>e (by rw [←h3,e2]);obtain ⟨q1,q2,q3⟩:=Hi of n d (by omega) c ⟨v,by omega,h2,h3⟩;refine ⟨q1,q2,fun u hu hun hc=>q3 u ?_ hun hc⟩;have:u≠n - 1 - d:=fun e2=>e (by rw [←hc,e2]);omega
def T7 (of:Nat ->Nat) (n cnt:Nat):List Nat:=(List.range cnt).map (lfT of n n)
theorem MH {of:Nat ->Nat} {n cnt c:Nat} (h:c<cnt):nth (T7 of n cnt) c=lfT of n n c:=by
 unfold T7;rw [Ny (by simpa using h)];simp
theorem lfL_len (of:Nat ->Nat) (n cnt:Nat):(T7 of n cnt).length=cnt:=by simp [T7]
theorem ZV (n:Nat) (f:Nat ->Nat):rowN n f=((List.range n).map f).map AM:=by rw [ωv];rfl
theorem lf_inj {n cnt:Nat} {suc:Nat ->List Nat} {of:Nat ->Nat} (h:SccOf n suc of cnt):∀a b,a<cnt ->b<cnt ->nth (T7 of n cnt) a=nth (T7 of n cnt) b ->a=b:=by
 intro a b ha hb e;rw [MH ha,MH hb] at e;obtain ⟨v,hv,hv2⟩:=h.use a ha;obtain ⟨u,hu,hu2⟩:=h.use b hb;have h1:=(Hi of n n (υ _) a ⟨v,by omega,hv,hv2⟩).1;have h2:=(Hi of n n (υ _) b ⟨u,by omega,hu,hu2⟩).1;rw [←h1,e,h2]
def WO (of:Nat ->Nat) (a:Nat) (l:List Nat):List Nat:=(l.filter fun x=>decide (of a≠of x)).map of
def Ll (g:List (List Nat)) (of:Nat ->Nat) (i k c:Nat):List Nat:=((List.range i).flatMap fun a=>if of a=c then WO of a (sucs g a) else [])++if of i=c then WO of i ((sucs g i).take k) else []
theorem bZ (g:List (List Nat)) (of:Nat ->Nat):Ll g of 0 0=fun _=> []:=by funext c;simp [Ll,WO]
theorem WL (g:List (List Nat)) (of:Nat ->Nat) (i:Nat):Ll g of i (sucs g i).length=Ll g of (i+1) 0:=by
 funext c
 unfold Ll;rw [ωt,ψj,List.flatMap_append]
 simp [WO]
theorem Si {of:Nat ->Nat} {a k:Nat} {l:List Nat} (hk:k<l.length):WO of a (l.take (k+1))=WO of a (l.take k)++if of a≠of (nth l k) then [of (nth l k)] else []:=by
 unfold WO;rw [φ hk,ωz,ωc,Ny hk]
 congr 1
 by_cases h:of a≠of l[k]
 ·rw [κ h,List.filter_cons_of_pos (by simpa using h)];rfl
 ·rw [ϑ h,List.filter_cons_of_neg (by simpa using h)];rfl
theorem b6 {g:List (List Nat)} {of:Nat ->Nat} {i k:Nat} (hk:k<(sucs g i).length) (h:of i≠of (nth (sucs g i) k)):At (Ll g of i k) (of i) (Ll g of i k (of i)++ [of (nth (sucs g i) k)])=Ll g of i (k+1):=by
 funext c
 by_cases e:c=of i
 ·subst e;rw [KM];unfold Ll;rw [κ Z,κ Z,Si hk,κ h,ψm]
 ·rw [GU e];unfold Ll;rw [ϑ fun h=>e h.symm,ϑ fun h=>e h.symm]
theorem b9 {g:List (List Nat)} {of:Nat ->Nat} {i k:Nat} (hk:k<(sucs g i).length) (h:¬of i≠of (nth (sucs g i) k)):Ll g of i k=Ll g of i (k+1):=by
 funext c
 unfold Ll;rw [Si hk,ϑ h,ωk]
def HT (g:List (List Nat)) (i:Nat):Nat:=((List.range i).map fun a=>(sucs g a).length).sum
theorem WN (of:Nat ->Nat) (a:Nat) (l:List Nat):(WO of a l).length≤l.length:=by unfold WO;rw [ψ];exact ωh _ _
theorem WM (g:List (List Nat)) (of:Nat ->Nat) (i k c:Nat):(Ll g of i k c).length≤HT g i+((sucs g i).take k).length:=by
 have key:∀m,((List.range m).flatMap fun a=>if of a=c then WO of a (sucs g a) else []).length≤HT g m:=by
  intro m
  induction m with
  | zero=>exact Γ _
  | succ m ih=>
   unfold HT at ih⊢;rw [ψj,List.flatMap_append,Θ,ωc,ψr,List.flatMap_singleton,φf,List.sum_singleton];refine Nat.add_le_add ih ?_
   split
   ·exact WN _ _ _
   ·exact Γ _
 unfold Ll;rw [Θ];refine Nat.add_le_add (key i) ?_
 split
 ·exact WN _ _ _
 ·exact Γ _
theorem O9 (g:List (List Nat)) {i j:Nat} (h:i≤j):HT g i≤HT g j:=by
 induction j with
 | zero=>
  have:i=0:=by omega
  subst this;exact υ _
 | succ j ih=>
  by_cases e:i=j+1
  ·subst e;exact υ _
  ·have:=ih (by omega);have h2:HT g (j+1)=HT g j+(sucs g j).length:=by unfold HT;rw [ψj,ωc,ψr];simp
   omega
structure GT (g:List (List Nat)):Prop where
 gb:GB g
 tot:HT g g.length≤1048576
def Jz (g:List (List Nat)) (of:Nat ->Nat) (cnt:Nat):List (List Nat):=bK cnt (Ll g of g.length 0)
theorem edG_gb {g:List (List Nat)} {of:Nat ->Nat} {cnt:Nat} (hg:GT g) (h:SccOf g.length (sucs g) of cnt):GB (Jz g of cnt):=by
 have hn:=hg.gb.n;have hle:=h.le;refine ⟨by rw [Jz,TV];omega,fun l hl=>?_,fun l hl x hx=>?_⟩
 ·obtain ⟨c,_,rfl⟩:=ϖ.1 hl;have:=WM g of g.length 0 c;have:=hg.tot
  simp at*;omega
 ·obtain ⟨c,_,rfl⟩:=ϖ.1 hl;rw [Jz,TV]
  have key:∀a l,a<g.length ->(∀x∈l,x<g.length) ->x∈WO of a l ->x<cnt:=fun a l _ hl hx=>by
   unfold WO at hx;obtain ⟨y,hy,rfl⟩:=ϖ.1 hx;exact h.lt y (hl y (ωa.1 hy).1)
  unfold Ll at hx;rcases ν.1 hx with hx | hx
  ·obtain ⟨a,ha,hx⟩:=χu.1 hx
   split at hx
   ·exact key a _ (ς.1 ha) (fun y hy=>hg.gb.suc (ς.1 ha) hy) hx
   ·cases hx
  ·rw [List.take_zero] at hx
   split at hx
   ·simp [WO] at hx
   ·cases hx
def DO (seq:List Nat):Nat ->Nat ->Nat
 | 0=>fun _=>0
 | k+1=>At (DO seq k) (nth seq k) k
theorem Vk (seq:List Nat) {cnt:Nat} (h0:0<cnt) (hs:seq.length≤cnt):∀k,k≤seq.length ->∀c,DO seq k c<cnt
 | 0,_,c=>h0
 | k+1,hk,c=>by
  unfold DO
  by_cases e:c=nth seq k
  ·subst e;rw [KM];omega
  ·rw [GU e];exact Vk seq h0 hs k (by omega) c
noncomputable def conS (g:List (List Nat)) (of:Nat ->Nat) (cnt:Nat):List Nat:=ordG (Jz g of cnt) (nth (T7 of g.length cnt))
noncomputable def conM (g:List (List Nat)) (of:Nat ->Nat) (cnt:Nat):Nat ->Nat:=DO (conS g of cnt) (conS g of cnt).length
def FG (no:Nat ->Nat) (i c:Nat):List Nat:=(List.range i).filter fun v=>decide (no v=c)
def ofT (of no:Nat ->Nat) (i v:Nat):Nat:=if v<i then no v else of v
theorem XR (no:Nat ->Nat) (i:Nat):At (FG no i) (no i) (FG no i (no i)++ [i])=FG no (i+1):=by
 funext c
 by_cases e:c=no i
 ·subst e;rw [KM];unfold FG;rw [ψj,ωz,List.filter_cons_of_pos (by simp)];rfl
 ·rw [GU e];unfold FG;rw [ψj,ωz,List.filter_cons_of_neg (by simpa using fun h=>e h.symm)];simp
theorem Zn (no:Nat ->Nat) (i c:Nat):(FG no i c).length≤i:=by
 unfold FG;exact ωe (ωh _ _) (by simp)
theorem Zw (of no:Nat ->Nat) (i:Nat):At (ofT of no i) i (no i)=ofT of no (i+1):=by
 funext v
 by_cases e:v=i
 ·subst e;rw [KM,ofT,κ (by omega)]
 ·rw [GU e];unfold ofT
  by_cases h:v<i
  ·rw [κ h,κ (by omega)]
  ·rw [ϑ h,ϑ (by omega)]
structure CN (n:Nat) (suc:Nat ->List Nat) (no:Nat ->Nat) (cnt:Nat):Prop where
 lt:∀v,v<n ->no v<cnt
 scc:∀i j,i<n ->j<n ->(no i=no j↔Rh suc i j∧Rh suc j i)
 use:∀c,c<cnt ->∃v,v<n∧no v=c
 top:∀u v,u<n ->v<n ->v∈suc u ->no u≤no v
 mn:∀c,c<cnt ->∀i,i<n ->c≤no i ->(∀k,k<n ->c≤no k ->Rh suc k i ->Rh suc i k) ->∃j,j<n∧no j=c∧j≤i
theorem CN.rh {n:Nat} {suc:Nat ->List Nat} {no:Nat ->Nat} {cnt:Nat} (h:CN n suc no cnt) (hs:∀v,v<n ->∀y∈suc v,y<n) {u v:Nat} (hu:u<n) (hr:Rh suc u v):v<n∧no u≤no v:=by
 induction hr with
 | refl=>exact ⟨hu,υ _⟩
 | step _ e ih=>
  have h2:=hs _ ih.1 _ e;exact ⟨h2,ωe ih.2 (h.top _ _ ih.1 h2 e)⟩
theorem CN.crit {n:Nat} {suc:Nat ->List Nat} {no:Nat ->Nat} {cnt:Nat} (h:CN n suc no cnt) (hs:∀v,v<n ->∀y∈suc v,y<n) {c i:Nat} (hi:i<n) (hc:no i=c):∀k,k<n ->c≤no k ->Rh suc k i ->Rh suc i k:=fun k hk hck hr=>by
 have:=(h.rh hs hk hr).2;exact ((h.scc i k hi hk).1 (by omega)).1
theorem exmin (p:Nat ->Prop):∀(m x:Nat),p x ->x≤m ->∃y,p y∧∀z,p z ->y≤z:=by
 intro m
 induction m with
 | zero=>intro x hx hm;exact ⟨x,hx,fun z _=>by omega⟩
 | succ m ih=>
  intro x hx hm
  by_cases h:∃y,p y∧y≤m
  ·obtain ⟨y,hy,hym⟩:=h;exact ih y hy hym
  ·exact ⟨x,hx,fun z hz=>by
    have:¬z≤m:=fun h2=>h ⟨z,hz,h2⟩
    omega⟩
theorem Nm {n:Nat} {suc:Nat ->List Nat} {no no':Nat ->Nat} {cnt cnt':Nat} (h:CN n suc no cnt) (h':CN n suc no' cnt') (hs:∀v,v<n ->∀y∈suc v,y<n):
  ∀c,c≤cnt ->c≤cnt' ->∀v,v<n ->∀d,d<c ->(no v=d↔no' v=d)
 | 0,_,_,v,_,d,hd=>by omega
 | c+1,h1,h2,v,hv,d,hd=>by
  have ih:=Nm h h' hs c (by omega) (by omega)
  by_cases e:d<c
  ·exact ih v hv d e
  ·have e:d=c:=by omega
   subst e
   have hge:∀v,v<n ->(d≤no v↔d≤no' v):=fun v hv=>by
    constructor
    ·intro h3;rcases χn (no' v) d with h4 | h4
     ·have:=(ih v hv _ h4).2 rfl;omega
     ·exact h4
    ·intro h3;rcases χn (no v) d with h4 | h4
     ·have:=(ih v hv _ h4).1 rfl;omega
     ·exact h4
   obtain ⟨x,hx,hxd⟩:=h.use d (by omega);obtain ⟨i,⟨hi,hid⟩,him⟩:=exmin (fun y=>y<n∧no y=d) x x ⟨hx,hxd⟩ (υ _);obtain ⟨j,hj,hjd,hji⟩:=h'.mn d (by omega) i hi ((hge i hi).1 (by omega)) fun k hk hck hr=>h.crit hs hi hid k hk ((hge k hk).2 hck) hr;obtain ⟨i2,hi2,hi2d,hi2j⟩:=h.mn d (by omega) j hj ((hge j hj).2 (by omega)) fun k hk hck hr=>h'.crit hs hj hjd k hk ((hge k hk).1 hck) hr;have:=him i2 ⟨hi2,hi2d⟩;have hij:i=j:=by omega
   subst hij;rw [←hid,h.scc v i hv hi,hid,←hjd,h'.scc v i hv hi]
theorem cn_uniq {n:Nat} {suc:Nat ->List Nat} {no no':Nat ->Nat} {cnt cnt':Nat} (h:CN n suc no cnt) (h':CN n suc no' cnt') (hs:∀v,v<n ->∀y∈suc v,y<n):cnt=cnt'∧∀v,v<n ->no v=no' v:=by
 have key:∀{no no':Nat ->Nat} {cnt cnt':Nat},CN n suc no cnt ->CN n suc no' cnt' ->cnt≤cnt':=by
  intro no no' cnt cnt' h h';rcases χn cnt' cnt with hlt | hge
  ·obtain ⟨v,hv,hvc⟩:=h.use cnt' hlt;have h1:=h'.lt v hv;have:=(Nm h h' hs cnt' (by omega) (υ _) v hv (no' v) h1).2 rfl;omega
  ·exact hge
 have e:cnt=cnt':=Nat.le_antisymm (key h h') (key h' h);subst e;exact ⟨Z,fun v hv=>((Nm h h' hs cnt (υ _) (υ _) v hv (no' v) (h'.lt v hv)).2 Z)⟩
theorem Q2 {g:List (List Nat)} {of:Nat ->Nat} {cnt c x:Nat} (hc:c<cnt):x∈sucs (Jz g of cnt) c↔∃a,a<g.length∧of a=c∧∃y∈sucs g a,of a≠of y∧of y=x:=by
 rw [Jz,S4 hc];unfold Ll WO;rw [List.take_zero];simp only [List.filter_nil,List.map_nil,ite_self,ωk,χu,ς]
 constructor
 ·rintro ⟨a,ha,hx⟩
  split at hx
  ·rename_i e
   obtain ⟨y,hy,rfl⟩:=ϖ.1 hx;obtain ⟨hy1,hy2⟩:=ωa.1 hy;exact ⟨a,ha,e,y,hy1,ψk hy2,Z⟩
  ·cases hx
 ·rintro ⟨a,ha,e,y,hy,hne,rfl⟩;refine ⟨a,ha,?_⟩;rw [κ e];exact ϖ.2 ⟨y,ωa.2 ⟨hy,ωi hne⟩,Z⟩
theorem Vl {seq:List Nat} (hn:seq.Nodup):∀m,m≤seq.length ->∀k,k<m ->DO seq m (nth seq k)=k
 | 0,_,k,hk=>by omega
 | m+1,hm,k,hk=>by
  unfold DO
  by_cases e:k=m
  ·subst e;rw [KM]
  ·rw [GU,Vl hn m (by omega) k (by omega)];rw [Ny (by omega),Ny (by omega)];intro e2;exact e ((List.getElem_inj hn).1 e2)
theorem con_all {g:List (List Nat)} (hg:GB g) {of:Nat ->Nat} {cnt:Nat} (h:SccOf g.length (sucs g) of cnt) {K:Nat ->Nat} {seq:List Nat} (hm:∀y,¬Cf (Jz g of cnt) seq y):∀c,c<cnt ->c∈seq:=by
 let Rc:Nat ->Nat ->Prop:=fun d c=>∃u v,u<g.length∧v<g.length∧of u=d∧of v=c∧Rh (sucs g) u v
 have dec:∀c,DecidablePred fun d=>Rc d c:=fun c d=>Classical.propDecidable _
 let f:Nat ->Nat:=fun c=>((List.range cnt).filter fun d=> @decide (Rc d c) (dec c d)).length
 have hstep:∀k c,k<cnt ->c∈sucs (Jz g of cnt) k ->f k<f c:=by
  intro k c hk hc;obtain ⟨a,ha,rfl,y,hy,hne,rfl⟩:=(Q2 hk).1 hc;have hyl:=hg.suc ha hy
  have:=Cr (l:=of y::(List.range cnt).filter fun d=> @decide (Rc d (of a)) (dec (of a) d)) (m:=(List.range cnt).filter fun d=> @decide (Rc d (of y)) (dec (of y) d)) (φa.2 ⟨fun hm=>by
   obtain ⟨_,h2⟩:=ωa.1 hm;obtain ⟨u,v,hu,hv,e1,e2,hr⟩:= @of_decide_eq_true _ (dec _ _) h2;have h3:=(h.scc u y hu hyl).1 e1;have h4:=(h.scc v a hv ha).1 e2
   exact hne ((h.scc a y ha hyl).2 ⟨Rh.one hy,h3.2.trans (hr.trans h4.1)⟩),List.nodup_range.filter _⟩) (fun x hx=>by
   rcases Φ.1 hx with rfl | hx
   ·exact ωa.2 ⟨ς.2 (h.lt y hyl), @decide_eq_true _ (dec _ _) ⟨y,y,hyl,hyl,Z,Z,.refl y⟩⟩
   ·obtain ⟨h1,h2⟩:=ωa.1 hx;obtain ⟨u,v,hu,hv,e1,e2,hr⟩:= @of_decide_eq_true _ (dec _ _) h2;have h4:=(h.scc v a hv ha).1 e2
    exact ωa.2 ⟨h1, @decide_eq_true _ (dec _ _) ⟨u,y,hu,hyl,e1,Z,hr.trans (h4.1.trans (Rh.one hy))⟩⟩)
  rw [ψo] at this;exact this
 have key:∀(m c:Nat),f c≤m ->c<cnt ->c∈seq:=by
  intro m
  induction m with
  | zero=>
   intro c hf hc;refine Classical.byContradiction fun hn=>hm c ⟨by rw [Jz,TV];exact hc,hn,fun k hk _ hin=>?_⟩;rw [Jz,TV] at hk;have:=hstep k c hk hin;omega
  | succ m ih=>
   intro c hf hc;refine Classical.byContradiction fun hn=>hm c ⟨by rw [Jz,TV];exact hc,hn,fun k hk hkn hin=>?_⟩;rw [Jz,TV] at hk;exact hkn (ih k (by have:=hstep k c hk hin;omega) hk)
 exact fun c hc=>key (f c) c (υ _) hc
theorem Ud {g:List (List Nat)} (hg:GT g) {of:Nat ->Nat} {cnt:Nat} (h:SccOf g.length (sucs g) of cnt):CN g.length (sucs g) (fun v=>conM g of cnt (of v)) cnt:=by
 obtain ⟨h1,h2⟩:=Kc (Jz g of cnt) (nth (T7 of g.length cnt));have hsq:ordG (Jz g of cnt) (nth (T7 of g.length cnt))=conS g of cnt:=rfl;rw [hsq] at h1 h2;have hM:∀c,conM g of cnt c=DO (conS g of cnt) (conS g of cnt).length c:=fun _=>rfl;have hall:=con_all hg.gb h (K:=nth (T7 of g.length cnt)) h2;obtain ⟨hnd,hlt⟩:=IU h1;have hEl:(Jz g of cnt).length=cnt:=by rw [Jz,TV]
 rw [hEl] at hlt
 obtain ⟨seq,hseq⟩:∃seq,conS g of cnt=seq:=⟨_,Z⟩
 rw [hseq] at h1 h2 hall hnd hlt;simp only [hseq] at hM
 have hlen:seq.length=cnt:=Nat.le_antisymm (by have:=Cr hnd (m:=List.range cnt) fun x hx=>ς.2 (hlt x hx);rwa [ωf] at this)
  (by have:=Cr (List.nodup_range (n:=cnt)) (m:=seq) fun x hx=>hall x (ς.1 hx);rwa [ωf] at this)
 have hat:∀k,k<cnt ->conM g of cnt (nth seq k)=k:=fun k hk=>by rw [hM];exact Vl hnd _ (υ _) k (by omega)
 have hpos:∀c,c<cnt ->∃k,k<cnt∧nth seq k=c∧conM g of cnt c=k:=fun c hc=>by
  obtain ⟨k,hk,rfl⟩:=χb.1 (hall c hc);exact ⟨k,by omega,Ny hk,by rw [←Ny hk];exact hat k (by omega)⟩
 have hnin:∀c d,c<cnt ->c≤conM g of cnt d ->d<cnt ->d∉seq.take c:=fun c d hc hcd hd hm=>by
  obtain ⟨k,hk,e⟩:=χb.1 hm;rw [Ω] at hk;rw [List.getElem_take,←Ny (by omega)] at e;rw [←e,hat k (by omega)] at hcd;omega
 refine ⟨fun v hv=>?_,fun i j hi hj=>?_,fun c hc=>?_,fun u v hu hv he=>?_,fun c hc i hi hci hcr=>?_⟩
 ·obtain ⟨k,hk,_,e⟩:=hpos (of v) (h.lt v hv);show conM g of cnt (of v)<cnt;omega
 ·rw [←h.scc i j hi hj]
  constructor
  ·intro e;obtain ⟨k,_,e1,e2⟩:=hpos (of i) (h.lt i hi);obtain ⟨m,_,e3,e4⟩:=hpos (of j) (h.lt j hj);have e:conM g of cnt (of i)=conM g of cnt (of j):=e;rw [←e1,←e3,show k=m by omega]
  ·intro e;show conM g of cnt (of i)=conM g of cnt (of j);rw [e]
 ·obtain ⟨v,hv,e⟩:=h.use (nth seq c) (hlt _ (Ct (by omega)));exact ⟨v,hv,by show conM g of cnt (of v)=c;rw [e];exact hat c hc⟩
 ·show conM g of cnt (of u)≤conM g of cnt (of v)
  by_cases e:of u=of v
  ·rw [e];exact υ _
  ·obtain ⟨p,hp,e1,e2⟩:=hpos (of v) (h.lt v hv);have hav:=(h1 p (by omega)).1;rw [e1] at hav;have hin:of u∈seq.take p:=Classical.byContradiction fun hn=>hav.2.2 (of u) (by rw [hEl];exact h.lt u hu) hn ((Q2 (h.lt u hu)).2 ⟨u,hu,Z,v,he,e,Z⟩);obtain ⟨k,hk,e3⟩:=χb.1 hin;rw [Ω] at hk;rw [List.getElem_take,←Ny (by omega)] at e3;rw [←e3,hat k (by omega),e2];omega
 ·have hci:c≤conM g of cnt (of i):=hci
  have hav:Cf (Jz g of cnt) (seq.take c) (of i):=by
   refine ⟨by rw [hEl];exact h.lt i hi,hnin c _ hc hci (h.lt i hi),fun k hk hkn hin=>?_⟩;rw [hEl] at hk;obtain ⟨a,ha,rfl,y,hy,hne,hyi⟩:=(Q2 hk).1 hin;have hyl:=hg.gb.suc ha hy
   have hca:c≤conM g of cnt (of a):=by
    rcases χn (conM g of cnt (of a)) c with hl | hl
    ·obtain ⟨m,hm,e1,e2⟩:=hpos (of a) (h.lt a ha);exact (hkn (χb.2 ⟨m,by rw [Ω];omega,by rw [List.getElem_take,←Ny (by omega)];exact e1⟩)).elim
    ·exact hl
   have hyi2:=(h.scc y i hyl hi).1 hyi;have hai:Rh (sucs g) a i:=(Rh.one hy).trans hyi2.1;have:=(h.scc a i ha hi).2 ⟨hai,hcr a ha hca hai⟩;exact hne (by rw [this,hyi])
  have hK:=(h1 c (by omega)).2 _ hav;have hcc:nth seq c<cnt:=hlt _ (Ct (by omega));rw [MH hcc,MH (h.lt i hi)] at hK;obtain ⟨v,hv,hvc⟩:=h.use _ hcc;obtain ⟨q1,q2,_⟩:=Hi of g.length g.length (υ _) (nth seq c) ⟨v,by omega,hv,hvc⟩;obtain ⟨_,_,q3⟩:=Hi of g.length g.length (υ _) (of i) ⟨i,by omega,hi,Z⟩;exact ⟨_,q2,by show conM g of cnt (of _)=c;rw [q1];exact hat c hc,ωe hK (q3 i (by omega) hi Z)⟩
abbrev SS (l:List Int):D:= .sl none (l.map AF)
abbrev grI (g:List (List Int)):D:= .sl none (g.map SS)
def KW (g:List (List Int)) (i:Nat):Nat:=((g.take i).map List.length).sum
def YG (n:Nat) (l:List Int):Prop:=∃x∈l,¬(0≤x∧x<(n:Int))
instance (n:Nat) (l:List Int):Decidable (YG n l):=inferInstanceAs (Decidable (∃x∈l,¬(0≤x∧x<(n:Int))))
def TC (g:List (List Int)):Int:=if 65536<g.length∨1048576<KW g g.length then 8 else if ∃l∈g,YG g.length l then 2 else 0
theorem KV {g:List (List Int)} {i:Nat} (h:i<g.length):KW g (i+1)=KW g i+g[i].length:=by
 unfold KW;rw [φ h,ωc,ψr];simp
theorem Uz {g:List (List Int)} (h:∀l∈g,l.length≤2000000):∀i,i≤g.length ->KW g i≤i*2000000
 | 0,_=>by simp [KW]
 | i+1,hi=>by
  have:=Uz h i (by omega);have:=h g[i] (θ (by omega));rw [KV (by omega)];omega
theorem getI {l:List Int} {k:Nat} (h:k<l.length):(l.map AF)[k]? =some (AF l[k]):=Ag h
theorem getgI {g:List (List Int)} {i:Nat} (h:i<g.length):(g.map SS)[i]? =some (SS g[i]):=Ag h
theorem chk8 {g:List (List Int)} (h:65536<g.length∨1048576<KW g g.length):(8:Int)=TC g:=by unfold TC;rw [κ h]
theorem chk2 {g:List (List Int)} (h1:¬65536<g.length) (h2:¬1048576<KW g g.length) (h:∃l∈g,YG g.length l):(2:Int)=TC g:=by
 unfold TC;rw [ϑ (fun h=>h.elim h1 h2),κ h]
theorem chk0 {g:List (List Int)} (h1:¬65536<g.length) (h2:¬1048576<KW g g.length) (h:¬∃l∈g,YG g.length l):(0:Int)=TC g:=by
 unfold TC;rw [ϑ (fun h=>h.elim h1 h2),ϑ h]
theorem cH (g:List (List Int)) (hn:g.length≤1000000) (hl:∀l∈g,l.length≤2000000):AO Tryz.prog 133 [.d (grI g)] (AF (TC g)):=by
 refine BB Tryz.func133 Z Z Tryz.ntmps133 Z Z Z fun F hF=>(AC (AE (AB Z Z (AD (AC (AE (AB Z Z (AD ?_))))))));refine AC (AC (AE (goMv Z Z (J (JN Z (ψ ..) Tryz.underlying147 Z) (goMv Z Z (AD (A5 (Gx (α:=Nat) (fun k=>⟨50,[(0,.d (grI g)),(3,(.d (AM (KW g k)))),(10,(.d (grI g))),(11,(.d (AM g.length))),(12,(.d (AM k)))],[]⟩) (fun k=>k≤g.length) (fun k=>g.length - k) (0) (Γ _) (c8 ⟨Z,Z,Z,Z,Z,trivial⟩) ?_))))))));intro k hk;refine AC (AE (J (BT Z Z Z) (AD (AC (Ah Z (fun h13=>?_) (fun h13=>?_))))))
 ·refine A3 (AC (A5 (AC ?_)));have hkl:k<g.length:=Bf h13;have htl:=Uz hl k (by omega);have hll:=hl _ (θ hkl);have hts:=KV hkl;refine AE (J (Bb (k) Z Z (Z) (getgI hkl) Tryz.underlying147 Z CG Z) (J (Cm Z Z BC Z) (AB Z Z (AD (AE (goMv Z Z (goMv Z Z ?_)))))));refine J (JN Z (ψ ..) Tryz.underlying28 Z) (J (Ay Z Z (Υ _ (by omega)) Z) (Iu 19 (.d (AM (KW g (k+1)))) Z (eqv (Δ AF (by omega))) (AB Z Z (AD (AE (J (Ay Z Z (Υ _ (by omega)) Z) (goMv Z Z (AD ?_))))))));exact ⟨k+1,by omega,by omega,⟨Z,Z,fun _ _=>Ta.get (l:=[(0,_),(3,_),(10,_),(11,_),(12,_)]) ⟨Z,Z,Z,Z,Z,trivial⟩⟩⟩
 ·refine BF (AC (AC ?_));have hke:k=g.length:=by have:=h13;omega
  subst hke;refine AE (goMv Z Z (J (JN Z (ψ ..) Tryz.underlying147 Z) (J (KK Z Z Z) (goMv Z Z (Id 24 Z (fun h24=>?_) (fun h24=>?_))))))
  ·refine Aa Z Z Z Z ?_;refine Aa Z Z Z Z (J (fSq Z Z Z Z) (AD (D9 Z Z (AC (AE (AB Z Z (AD (A8 ?_))))))));exact ⟨_,[],[],A7 Z,Z,Z,eqv (Δ AF (chk8 (by omega))),Z⟩
  ·refine Ad Z Z Z (goMv Z Z (Ad Z Z Z (J (KK Z Z Z) (J (DR Z Z Z Z) (AD (Ah Z (fun h27=>?_) (fun h27=>?_)))))))
   ·refine AC (AE (AB Z Z (AD (A8 ?_))));exact ⟨_,[],[],A7 Z,Z,Z,eqv (Δ AF (chk8 (by omega))),Z⟩
   ·refine A3 (AC (AC ?_));have hc1:¬65536<g.length:=by omega
    have hc2:¬1048576<KW g g.length:=by omega
    refine AE (goMv Z Z (J (JN Z (ψ ..) Tryz.underlying147 Z) (goMv Z Z (AD (A5 (Gx (α:=Nat) (fun i=>⟨50,[(0,.d (grI g)),(28,(.d (grI g))),(29,(.d (AM g.length))),(30,(.d (AM i)))],[]⟩) (fun i=>i≤g.length∧∀l∈g.take i,¬YG g.length l) (fun i=>g.length - i) (0) (⟨Γ _,fun l hl=>by simp at hl⟩) (c8 ⟨Z,Z,Z,Z,trivial⟩) ?_))))));rintro i ⟨hi,hb⟩;refine AC (AE (J (BT Z Z Z) (AD (AC (Ah Z (fun h31=>?_) (fun h31=>?_))))))
    ·refine A3 (AC (A5 (AC ?_)));have hil:i<g.length:=Bf h31;have hll:=hl _ (θ hil);refine AE (J (Bb (i) Z Z (Z) (getgI hil) Tryz.underlying147 Z CG Z) (J (Cm Z Z BC Z) (AB Z Z ?_)));refine AD (AC (AE (goMv Z Z (J (JN Z (ψ ..) Tryz.underlying28 Z) (goMv Z Z (AD (A5 (Gx (α:=Nat) (fun j=>⟨50,[(0,.d (grI g)),(28,(.d (grI g))),(29,(.d (AM g.length))),(30,(.d (AM i))),(34,(.d (SS g[i]))),(35,(.d (AM g[i].length))),(36,(.d (AM j)))],[]⟩) (fun j=>j≤g[i].length∧∀x∈g[i].take j,0≤x∧x<(g.length:Int)) (fun j=>g[i].length - j) (0) (⟨Γ _,fun x hx=>by simp at hx⟩) (c8 ⟨Z,Z,Z,Z,Z,Z,Z,trivial⟩) ?_))))))));rintro j ⟨hj,hx⟩;refine AC (AE (J (BT Z Z Z) (AD (AC (Ah Z (fun h37=>?_) (fun h37=>?_))))))
     ·refine A3 (AC (A5 (AC ?_)));have hjl:j<g[i].length:=Bf h37;refine AE (J (Bb (j) Z Z (Z) (getI hjl) Tryz.underlying28 Z BD Z) ?_);refine J (Cm Z Z Aq Z) (AB Z Z (AD (AC (AE (goMv Z Z (J (BT Z Z Z) (goMv Z Z (Id 42 Z (fun h42=>?_) (fun h42=>?_)))))))))
      ·refine Aa Z Z Z Z (Aa Z Z Z Z (Aa Z Z Z Z ?_));refine Aa Z Z Z Z (J (fSq Z Z Z Z) (AD (D9 Z Z (AC (AE (AB Z Z (AD (A8 ?_))))))));exact ⟨_,[],[],A7 Z,Z,Z,eqv (Δ AF (chk2 hc1 hc2 ⟨g[i],θ hil,g[i][j],θ hjl,by omega⟩)),Z⟩
      ·refine Ad Z Z Z (goMv Z Z ?_);refine Ad Z Z Z (goMv Z Z (Ad Z Z Z (J (JN Z (ψ ..) Tryz.underlying147 Z) (Ad Z Z Z (J (EZ Z Z Z) (J (DR Z Z Z Z) (AD (Ah Z (fun h47=>?_) (fun h47=>?_)))))))))
       ·refine AC (AE (AB Z Z (AD (A8 ?_))));exact ⟨_,[],[],A7 Z,Z,Z,eqv (Δ AF (chk2 hc1 hc2 ⟨g[i],θ hil,g[i][j],θ hjl,by omega⟩)),Z⟩
       ·refine A3 (AE (J (Ay Z Z (Υ _ (by omega)) Z) (goMv Z Z (AD ?_))));exact ⟨j+1,⟨by omega,fun x hxm=>by rw [φ hjl] at hxm;exact (ν.1 hxm).elim (hx x) fun e=>by rw [ξ.1 e];exact ⟨by omega,by omega⟩⟩,by omega,⟨Z,Z,fun _ _=>Ta.get (l:=[(0,_),(28,_),(29,_),(30,_),(34,_),(35,_),(36,_)]) ⟨Z,Z,Z,Z,Z,Z,Z,trivial⟩⟩⟩
     ·refine BF ?_;have hje:j=g[i].length:=by have:=h37;omega
      have hrow:¬YG g.length g[i]:=fun ⟨x,hx1,hx2⟩=>hx2 (hx x (by rw [hje,ωt];exact hx1));refine AE (J (Ay Z Z (Υ _ (by omega)) Z) (goMv Z Z (AD ?_)));exact ⟨i+1,⟨by omega,fun l hlm=>by rw [φ hil] at hlm;exact (ν.1 hlm).elim (hb l) fun e=>by rw [ξ.1 e];exact hrow⟩,by omega,⟨Z,Z,fun _ _=>Ta.get (l:=[(0,_),(28,_),(29,_),(30,_)]) ⟨Z,Z,Z,Z,trivial⟩⟩⟩
    ·refine BF (AC (AE (AB Z Z (AD (A8 ?_)))));have hie:i=g.length:=by have:=h31;omega
     exact ⟨_,[],[],A7 Z,Z,Z,eqv (Δ AF (chk0 hc1 hc2 (fun ⟨l,hl1,hl2⟩=>hb l (by rw [hie,ωt];exact hl1) hl2))),Z⟩
theorem VD {n:Nat} {suc:Nat ->List Nat} {r:Nat} {S:TS} {cs0:List (Nat×Nat)} {v k:Nat} (h:TB n suc r S cs0 v k) (hk:k=(suc v).length) (hl:S.low v≠S.idx v):
  ∃cs1 u ku,cs0=cs1++ [(u,ku)]∧TH n suc r {S with low:=At S.low u (min (S.low u) (S.low v)),cs:=cs0} none:=by
 subst hk;have hv:=In h;have hle:=(h.ti.lw v hv.2.1).1;obtain ⟨cs1,u,ku,e,ht⟩:=ti_pop1 h.ti h.hcs (by omega);exact ⟨cs1,u,ku,e,ht,h.k1,h.old,.inl h.rt⟩
theorem VC {n:Nat} {suc:Nat ->List Nat} {r:Nat} {S:TS} {cs0:List (Nat×Nat)} {v k:Nat} {st1 st2:List Nat} (h:TB n suc r S cs0 v k) (hk:k=(suc v).length) (hl:S.low v=S.idx v) (hst:S.st=st1++v::st2):
  TH n suc r {S with of:=fun x=>if x∈v::st2 then (S.cnt:Int) else S.of x,st:=st1,cs:=cs0,cnt:=S.cnt+1} none∧∀cs1 u ku,cs0=cs1++ [(u,ku)] ->At S.low u (min (S.low u) (S.low v))=S.low:=by
 subst hk;obtain ⟨h1,h2⟩:=ti_pop2 h.ti h.hcs hl hst;refine ⟨⟨h2,h.k1,h.old,.inl h.rt⟩,fun cs1 u ku e=>funext fun x=>?_⟩
 by_cases ex:x=u
 ·subst ex;have:=h1 (x,ku) (by rw [e];exact ψl _ (ξ.2 Z));rw [KM];dsimp only at this;omega
 ·rw [GU ex]
theorem Yh {n:Nat} {suc:Nat ->List Nat} {r:Nat} {S:TS} {cs1:List (Nat×Nat)} {v k u ku:Nat} (h:TB n suc r S (cs1++ [(u,ku)]) v k):u<n∧v≠u:=by
 have hm:(u,ku)∈S.cs:=by rw [h.hcs];exact ψp _ (ψl _ (ξ.2 Z))
 refine ⟨h.ti.lt u ((h.ti.st u).1 (h.ti.csm _ hm)).1,fun e=>?_⟩;have hp:=h.ti.css;rw [h.hcs] at hp;have:=(H5 hp).2 (u,ku) (ψl _ (ξ.2 Z));rw [e] at this;exact φd _ this
theorem JP {n:Nat} {suc:Nat ->List Nat} {S:TS} {p:Option Nat} {v:Nat} {st1 st2:List Nat} (h:TI n suc S p) (hst:S.st=st1++v::st2):v∉st2:=by
 have hp:=h.srt;rw [hst,List.pairwise_append] at hp;intro hm;exact φd _ ((ψz.1 hp.2.1).1 v hm)
theorem getF2 {l m j:List (Nat×Nat)} {x:Nat×Nat} {k:Nat} (h:k=l.length):((l++ [x]++m++j).map S8)[k]? =some (S8 x):=by
 subst h;simp
theorem getW {a c j:List Nat} {w k:Nat} (h:k=(a++c).length):((a++(c++ [w])++j).map AM)[k]? =some (AM w):=by
 subst h;rw [show a++(c++ [w])++j=(a++c)++(w::j) by simp,ωc,ωr (by simp)]
 simp
theorem Ve {n w:Nat} {f:Nat ->Int} {c:Nat} {dn:List Nat}:(Df n (fun x=>if x∈dn then (c:Int) else f x)).set w (AM c)=Df n (fun x=>if x∈w::dn then (c:Int) else f x):=by
 refine Lv (fun j _ hne=>?_) ?_
 ·dsimp only
  by_cases e:j∈dn
  ·rw [κ e,κ (ωn _ e)]
  ·rw [ϑ e,ϑ fun h=>(Φ.1 h).elim hne e]
 ·dsimp only;rw [κ (ωo ..)]
theorem J1 {v w:Nat} {c0 dn st2:List Nat} (h:c0++ [w]++dn=v::st2) (hw:w≠v):c0++w::dn=v::st2∧c0≠ []:=by
 refine ⟨by simpa using h,fun e=>?_⟩;subst e
 simp at h
 exact hw h.1
theorem Lx {v w:Nat} {c0 dn st2:List Nat} (h:c0++ [w]++dn=v::st2) (hw:w=v) (hv:v∉st2):c0=[]∧dn=st2:=by
 subst hw
 cases c0 with
 | nil=>simp at h;exact ⟨Z,h⟩
 | cons a c=>
  simp at h
  exact (hv (by rw [←h.2];simp)).elim
theorem Er {α:Type} {l:List α} (h:l≠ []):∃a b,l=a++ [b]:=by
 rcases List.eq_nil_or_concat l with e | ⟨a,b,e⟩
 ·exact (h e).elim
 ·exact ⟨a,b,by rw [e,List.concat_eq_append]⟩
theorem tb_else {n:Nat} {suc:Nat ->List Nat} {r:Nat} {S:TS} {p:Option Nat} {cs0:List (Nat×Nat)} {v k:Nat} {r3:List Nat} (h:TH n suc r S p) (h1:S.cs=cs0++ [(v,k)]∧p=none) (hr:∃sj,r3=S.st++sj):
  ∃S1:TS,mu n suc S1=mu n suc S∧TB n suc r S1 cs0 v k∧S.idx=S1.idx∧S.low=S1.low∧S.of=S1.of∧S.st.length=S1.st.length∧S.cnt=S1.cnt∧S.clk=S1.clk∧∃sj,r3=S1.st++sj:=
 ⟨S,Z,tb_old (h1.2▸h) h1.1,Z,Z,Z,Z,Z,Z,hr⟩
theorem Oj {n:Nat} {suc:Nat ->List Nat} {S:TS} {p:Option Nat} (h:TI n suc S p):S.st.length≤n:=by
 have:=h.num;have:=(LL h).1;omega
theorem Rl {f:Nat ->Nat} {i:Nat} (h:∀v,v<i ->f v≠0) (hi:f i≠0):∀v,v<i+1 ->f v≠0:=fun v hv=>by
 by_cases e:v=i
 ·rw [e];exact hi
 ·exact h v (by omega)
theorem th_init {n:Nat} {suc:Nat ->List Nat} {S:TS} {i:Nat} (hti:TI n suc S none) (hcs:S.cs=[]) (hil:i<n) (h0:S.idx i=0) (hold:∀v,v<i ->S.idx v≠0):TH n suc i S (some i):=
 ⟨ti_root hti hcs hil h0,fun f hf=>(by rw [hcs] at hf;cases hf),hold,.inr Z⟩
theorem fr_le {n:Nat} {suc:Nat ->List Nat} {S:TS} {p:Option Nat} (h:TI n suc S p) {l:List (Nat×Nat)} (e:S.cs++pend p=l):l.length≤n+1:=by
 have h1:=(LL h).2;have h2:=Oj h;rw [←e,Θ];have:(pend p).length≤1:=by cases p<;>simp [pend]
 omega
theorem Yf {n:Nat} {suc:Nat ->List Nat} {r:Nat} {S:TS} {p:Option Nat} (h:TH n suc r S p) (he:S.cs++pend p=[]):TI n suc S none∧S.cs=[]∧S.idx r≠0:=by
 cases p with
 | some v=>simp [pend] at he
 | none=>exact ⟨h.ti,by simpa [pend] using he,h.rt.resolve_right fun e=>by cases e⟩
structure PF (n:Nat) (suc:Nat ->List Nat) (r:Nat) (S:TS) (cs0:List (Nat×Nat)) (v:Nat) (low:Nat ->Nat):Prop where
 a:low v=S.low v
 b:low v≠S.idx v ->TH n suc r {S with low:=low,cs:=cs0} none
 c:∀st1 st2,low v=S.idx v ->S.st=st1++v::st2 ->TH n suc r {S with low:=low,of:=fun x=>if x∈v::st2 then (S.cnt:Int) else S.of x,st:=st1,cs:=cs0,cnt:=S.cnt+1} none
theorem Ly {n:Nat} {suc:Nat ->List Nat} {r:Nat} {S:TS} {cs1:List (Nat×Nat)} {v k u ku:Nat} (h:TB n suc r S (cs1++ [(u,ku)]) v k) (hk:k=(suc v).length) (hvu:v≠u):
  ∃low,At S.low u (min (S.low u) (S.low v))=low∧PF n suc r S (cs1++ [(u,ku)]) v low:=by
 refine ⟨_,Z,⟨GU hvu,fun hl=>?_,fun st1 st2 hl hst=>?_⟩⟩
 ·rw [GU hvu] at hl;obtain ⟨cs2,u2,ku2,e,ht⟩:=VD h hk hl;have e2:=List.append_inj_right' e rfl;injection e2 with e2
  injection e2 with e2
  subst e2;exact ht
 ·rw [GU hvu] at hl;obtain ⟨h1,h2⟩:=VC h hk hl hst;rw [h2 cs1 u ku rfl];exact h1
theorem Lz {n:Nat} {suc:Nat ->List Nat} {r:Nat} {S:TS} {cs0:List (Nat×Nat)} {v k:Nat} (h:TB n suc r S cs0 v k) (hk:k=(suc v).length) (he:cs0=[]):
  ∃low,S.low=low∧PF n suc r S cs0 v low:=by
 refine ⟨_,Z,⟨Z,fun hl=>?_,fun st1 st2 hl hst=>(VC h hk hl hst).1⟩⟩;obtain ⟨cs2,u2,ku2,e,ht⟩:=VD h hk hl;rw [he] at e;simp at e
theorem upd_lt {f:Nat ->Int} {k:Nat} (hf:∀v,v<k ->f v= -1):∀v,v<k+1 ->At f k (-1) v= -1:=fun v hv=>by
 by_cases e:v=k
 ·rw [e,KM]
 ·rw [GU e];exact hf v (by omega)
set_option maxHeartbeats 1000000 in
theorem Su (g:List (List Nat)) (hg:GB g):AN Tryz.prog 180 [.d (Ji g)] [] fun r H'=>∃of cnt,SccOf g.length (sucs g) of cnt∧r= .tup [.own 2 0 g.length,.d (AM cnt)]∧H'=[(2,[.rowD 3 1 (rowN g.length of)])]:=by
 have hn:=hg.n;refine BB Tryz.func180 Z Z Tryz.ntmps180 Z Z Z fun F hF=>(AC (AE (AB Z Z (AB Z Z (AD (AC (AE (goMv Z Z ?_))))))));refine J (JN Z (ψ ..) Tryz.underlying147 Z) (AB Z Z (AD (AC (Cc [[],[0],[],[2],[],[4],[0,1],[0,1,2,3,6],[0,1,2,3,4,5,6,7]] mixed Z (Cj (AI [4] [] Z Z (fun _=>AG (Ai Z Z)) (Fo [21] [0] [(22,_)] Z Z (fun _=>Fq (Eb 0 B4 Z Z Z (by omega) zd3 Z Z Z Z)) (.inr ⟨22,_,Z,Z,Z,Z,Z⟩) Z Z Z Z Z (AI [4] [] Z Z (fun _=>AG (Ai Z Z)) ?_))))))));refine Fo [23] [1] [(24,_)] Z Z (fun _=>Fq (Eb 1 B4 Z Z Z (by omega) zd3 Z Z Z Z)) (.inr ⟨24,_,Z,Z,Z,Z,Z⟩) Z Z Z Z Z (AI [4] [] Z Z (fun _=>AG (Ai Z Z)) (Fo [25] [2] [(26,_)] Z Z (fun _=>Fq (Eb 2 B4 Z Z Z (by omega) zd3 Z Z Z Z)) (.inr ⟨26,_,Z,Z,Z,Z,Z⟩) Z Z Z Z Z (AI [22] [] Z Z (fun _=>AG (IK Z Z)) (AI [24] [] Z Z (fun _=>AG (IK Z Z)) (C1 8 Z Z Z (Ae 9 Z Z (AB Z Z (AD ⟨Z,?_⟩))))))));refine C6 (AC (AC ?_));rw [repI];refine AE (goMv Z Z (J (LJ Z Tryz.underlying28 Z) (goMv Z Z (AD (A5 (B6 (α:=Nat×(Nat ->Int)) (fun q=>⟨214,[(0,.d (Ji g)),(5,(.own 0 0 g.length)),(6,(.own 1 0 g.length)),(7,(.own 2 0 g.length)),(28,(.d (AM g.length))),(29,(.d (AM q.1)))],[(0,[.rowD 3 1 (Df g.length fun _=>0)]),(1,[.rowD 3 1 (Df g.length fun _=>0)]),(2,[.rowD 3 1 (Df g.length q.2)])]⟩) (fun q=>q.1≤g.length∧∀v,v<q.1 ->q.2 v= -1) (fun q=>g.length - q.1) ((0,fun _=>0)) (⟨Γ _,fun v h=>absurd h (Nat.not_lt_zero _)⟩) (A1 hF [0,1,2] Z Z ⟨Z,Z,Z,Z,Z,Z,trivial⟩) ?_))))));rintro ⟨k,f⟩ ⟨hk,hf⟩;dsimp only at hk hf⊢;refine AC (AE (J (BT Z Z Z) (AD (AC (Ah Z (fun h30=>?_) (fun h30=>?_))))))
 ·refine A3 (AC (A5 (AC ?_)));have hkl:k<g.length:=Bf h30;refine AE (goMv Z Z (AB Z Z (AD (AE ?_))));refine goMv Z Z (goMv Z Z (J (Bu (k) Z Z (Z) (hkl) Z Tryz.underlying28 BD Z) (V (Qc Z Z Z Z Z (by rw [H3];exact hkl) ZW Z BD) (AD (AE (J (Ay Z Z (Υ _ (by omega)) Z) (goMv Z Z (AD ?_))))))));exact ⟨(k+1,At f k (-1)),⟨hkl,upd_lt hf⟩,by show g.length - (k+1)<g.length - k;omega,A1 hF [0,1,2] Z (Z) ⟨Z,Z,Z,Z,Z,Z,trivial⟩⟩
 ·refine BF (AC ?_);have hke:k=g.length:=by have:=h30;omega
  subst hke;have hfe:Df g.length f=Df g.length (fun _=> -1):=ωj fun v hv=>by rw [hf v (ς.1 hv)]
  rw [hfe];refine AE (AB Z Z ?_);skip;refine AD (AC (AE (AB Z Z (AB Z Z (AD (AC ?_))))));refine AC (AE (goMv Z Z (J (JN Z (ψ ..) Tryz.underlying147 Z) (goMv Z Z (AD (A5 (O4 9 3 B4 Z Z Z Z (B6 (α:=Nat×TS×List Nat) (fun q=>⟨214,[(0,.d (Ji g)),(5,(.own 0 0 g.length)),(6,(.own 1 0 g.length)),(7,(.own 2 0 g.length)),(9,(.own 3 0 q.2.1.st.length)),(10,(.d (AM q.2.1.cnt))),(11,(.d (AM q.2.1.clk))),(37,(.d (AM g.length))),(38,(.d (AM q.1)))],[(0,[.rowD 3 1 (rowN g.length q.2.1.idx)]),(1,[.rowD 3 1 (rowN g.length q.2.1.low)]),(2,[.rowD 3 1 (Df g.length q.2.1.of)]),(3,[.rowD 3 1 (q.2.2.map AM)])]⟩) (fun q=>q.1≤g.length∧TI g.length (sucs g) q.2.1 none∧q.2.1.cs=[]∧(∀v,v<q.1 ->q.2.1.idx v≠0)∧∃sj,q.2.2=q.2.1.st++sj) (fun q=>g.length - q.1) ((0,⟨fun _=>0,fun _=>0,fun _=> -1,[],[],0,0⟩,[])) (⟨Γ _,ti_zero _ _,Z,fun v h=>absurd h (Nat.not_lt_zero _),[],Z⟩) (A1 hF [0,1,2,3] Z Z ⟨Z,Z,Z,Z,Z,Z,Z,Z,Z,trivial⟩) ?_))))))));rintro ⟨i,S,r3⟩ ⟨hi,hti,hcs,hold,hr3⟩;dsimp only at hi hti hcs hold hr3⊢;refine AC (AE (J (BT Z Z Z) (AD (AC (Ah Z (fun h39=>?_) (fun h39=>?_))))))
  ·refine A3 (AC (A5 (AC ?_)));have hil:i<g.length:=Bf h39;refine AE (goMv Z Z (AB Z Z (AD (AC ?_))));refine AC (AE (goMv Z Z (goMv Z Z (J (Bu (i) Z Z (Z) (hil) Z Tryz.underlying28 BD Z) (J (CC Z Z (IB hil) Z Aq Z) (J (EA Z Z Z) (AD (Ah Z (fun h45=>?_) (fun h45=>?_)))))))))
   ·refine BF ?_
    first | have hE:=Yf hth (hfr▸φi.1 (by omega)) | skip
    refine AE (J (Ay Z Z (Υ _ (by omega)) Z) (goMv Z Z (AD ?_)));exact ⟨(i+1,S,r3),⟨hil,hti,hcs,Rl hold (fun e2=>h45 (Δ Int.ofNat e2)),hr3⟩,by show g.length - (i+1)<g.length - i;omega,A1 hF [0,1,2,3] Z (Z) ⟨Z,Z,Z,Z,Z,Z,Z,Z,Z,trivial⟩⟩
   ·refine A3 (AC ?_);have h0:S.idx i=0:=Int.ofNat.inj (χs.1 h45);refine AE (goMv Z Z (J (Fe YY Zh Z Z Z) (V (Dz 4 RQ Z Z Z Z Z Z Z Z) (AB Z Z (AD (A5 (B6 (α:=TS×Option Nat×List (Nat×Nat)×List Nat×List (Nat×Nat)) (fun q=>⟨214,[(0,.d (Ji g)),(5,(.own 0 0 g.length)),(6,(.own 1 0 g.length)),(7,(.own 2 0 g.length)),(9,(.own 3 0 q.1.st.length)),(10,(.d (AM q.1.cnt))),(11,(.d (AM q.1.clk))),(13,(.own 4 0 q.2.2.1.length)),(37,(.d (AM g.length))),(38,(.d (AM i)))],[(0,[.rowD 3 1 (rowN g.length q.1.idx)]),(1,[.rowD 3 1 (rowN g.length q.1.low)]),(2,[.rowD 3 1 (Df g.length q.1.of)]),(3,[.rowD 3 1 (q.2.2.2.1.map AM)]),(4,[.rowD 318 2 (q.2.2.2.2.map S8)])]⟩) (fun q=>TH g.length (sucs g) i q.1 q.2.1∧q.2.2.1=q.1.cs++pend q.2.1∧(∃sj,q.2.2.2.1=q.1.st++sj)∧∃cj,q.2.2.2.2=q.2.2.1++cj) (fun q=>mu g.length (sucs g) q.1) ((S,some i,[(i,0)],r3,[(i,0)])) (⟨th_init hti hcs hil h0 hold,by rw [hcs];rfl,hr3,[],Z⟩) (A1 hF [0,1,2,3,4] Z Z ⟨Z,Z,Z,Z,Z,Z,Z,Z,Z,Z,trivial⟩) ?_)))))));rintro ⟨S,p,fr,r3,r4⟩ ⟨hth,hfr,hr3,cj,hr4⟩;dsimp only at hth hfr hr3 hr4⊢;have hclk:=LL hth.ti;refine AC (AC (AE (goMv Z Z (J (LJ Z Tryz.underlying319 Z) (J (KK Z Z Z) (AD (Ah Z (fun h51=>?_) (fun h51=>?_))))))))
    ·refine A3 (A5 (AC ?_));have hne:S.cs++pend p≠ []:=fun e=>by rw [hfr,e] at h51;exact absurd h51 (by decide)
     obtain ⟨cs0,v,k,hcs2,hvn,hk0,hk1⟩:=th_last hth hne;have hfrl:=fr_le hth.ti hcs2;have hfr2:=hfr.trans hcs2;subst hfr2;have hlen1:(((cs0++ [(v,k)]).length:Nat):Int) - 1=(cs0.length:Int):=by simp
     have hlen2:cs0.length<(cs0++ [(v,k)]).length:=by simp
     subst hr4;refine AE (goMv Z Z (goMv Z Z (J (LJ Z Tryz.underlying319 Z) (J (LI Z Z (Υ _ (by omega)) Z) (J (Bu (cs0.length) Z Z (hlen1) (hlen2) Z Tryz.underlying319 RA Z) (AB Z Z (AD (AC ?_))))))));refine AC (AE (goMv Z Z (J (OG Z Z) (J (MT Z Ef Z Z Z) (J (CC Z Z (FY Z) Z Aq Z) (J (KJ Z Z Z) (AD (Ah Z (fun h61=>?_) (fun h61=>?_)))))))))
     ·refine AC ?_;obtain ⟨hcs3,hp3⟩:=hk0 (Int.ofNat.inj h61);have hcl:=hclk.1;refine AE (goMv Z Z (J (Ay Z Z (Υ _ (by omega)) Z) (Iu 63 (.d (AM (S.clk+1))) Z (eqv (Δ AF (by omega))) (AB Z Z (AD (AC (Cc [[],[],[1],[1,2],[1,2,3],[],[],[6],[6,7],[6,7,8],[],[],[0,1,2,3,4,6,7,8,9,10],[0,1,2,3,4,6,7,8,9,10,12],[0,1,2,3,4,5,6,7,8,9,10,11,12,13],[0,1,2,3,4,5,6,7,8,9,10,11,12,13,14]] mixed Z (Cj ?_))))))));refine AI [5] [] Z Z (fun _=>AG (Ai Z Z)) (AI [14] [] Z Z (fun _=>AG (Ai Z Z)) (AI [65] [] Z Z (fun _=>AG (OG Z Z)) (AI [66] [] Z Z (fun _=>AG (MT Z Us Z Z Z)) (As [67] Z Z (fun _=>AG (CC Z Z (FY Z) Z Aq Z)) (AI [6] [] Z Z (fun _=>AG (Ai Z Z)) (AI [14] [] Z Z (fun _=>AG (Ai Z Z)) (AI [70] [] Z Z (fun _=>AG (OG Z Z)) (AI [71] [] Z Z (fun _=>AG (MT Z Us Z Z Z)) ?_))))))));refine As [72] Z Z (fun _=>AG (CC Z Z (FY Z) Z Aq Z)) (AI [11] [] Z Z (fun _=>AG (Ai Z Z)) (AI [11] [] Z Z (fun _=>AG (Ai Z Z)) (As [64,68] Z Z (fun _=>AG (Bu (v) Z Z (Z) (hvn) Z Tryz.underlying28 BD Z)) (Fo [76,74] [0] [] Z Z (fun _=>Fq (Qc Z Z Z Z Z (by rw [cY];exact hvn) cZ Z BD)) (.inl ⟨Z,Z⟩) Z Z Z Z Z (C1 14 Z Z Z (Ae 15 Z Z (J (Bu (v) Z Z (Z) (hvn) Z Tryz.underlying28 BD Z) (AD ⟨Z,?_⟩))))))));refine Ae 16 Z Z (V (Qc Z Z Z Z Z (by rw [cY];exact hvn) cZ Z BD) (AD ⟨Z,?_⟩));refine C6 ?_;obtain ⟨sj,hsj⟩:=hr3;subst hsj;have hstl:=Oj hth.ti;refine AE (goMv Z Z (goMv Z Z (J (OG Z Z) (J (MT Z Us Z Z Z) (J (CC Z Z (FY Z) Z Aq Z) (V (Dz 21 B4 Z Z Z Z Z Z Z Z) (V (FB Z Z Z (by simp) Z Z (by simp) B4 (by omega) Z Z (takeJ S.st sj) Z Z) (AB Z Z ?_))))))));subst hp3;have htb0:=Yg hth;have hmu0:mu g.length (sucs g) _=mu g.length (sucs g) S:=aN (S:=S) (l:=At S.low v (S.clk+1)) (st:=S.st++ [v]) (c:=S.clk+1) hvn (hth.ti.pnd v Z).2.1
      obtain ⟨S1,hS1⟩:∃S1:TS,S1=⟨At S.idx v (S.clk+1),At S.low v (S.clk+1),S.of,S.st++ [v],S.cs++ [(v,0)],S.cnt,S.clk+1⟩:=⟨_,Z⟩
      have e1:At S.idx v (S.clk+1)=S1.idx:=by rw [hS1]
      have e2:At S.low v (S.clk+1)=S1.low:=by rw [hS1]
      have e3:S.of=S1.of:=by rw [hS1]
      have e4:S.st.length+1=S1.st.length:=by rw [hS1];simp
      have e5:S.cnt=S1.cnt:=by rw [hS1]
      have e6:S.clk+1=S1.clk:=by rw [hS1]
      have hr31:∃sj,S.st++ [v]=S1.st++sj:=⟨[],by rw [hS1,ωk]⟩
      obtain ⟨r3,hr3e⟩:∃r3,S.st++ [v]=r3:=⟨_,Z⟩
      rw [←hS1] at htb0 hmu0;rw [e1,e2,e3,e4,e5,e6,hr3e];rw [hr3e] at hr31;have hmu:=hmu0;have htb:TB g.length (sucs g) i S1 cs0 v k:=by rw [hcs3,←Int.ofNat.inj h61] at htb0;exact htb0
      refine AD (AC (AC ?_));refine Cc [[],[0],[0,1],[0,1,2],[],[],[5],[5,6],[5,6,7],[4,5,6,7,8],[4,5,6,7,8,9],[4,5,6,7,8,9,10],[0,1,2,3,4,5,6,7,8,9,10,11]] mixed Z (Cj (AI [14] [] Z Z (fun _=>AG (Ai Z Z)) (AI [85] [] Z Z (fun _=>AG (OG Z Z)) (AI [86] [] Z Z (fun _=>AG (MT Z Ef Z Z Z)) (As [87] Z Z (fun _=>AG (CC Z Z (FY Z) Z Aq Z)) (AI [0] [] Z Z (fun _=>AG (Ai Z Z)) (AI [14] [] Z Z (fun _=>AG (Ai Z Z)) (AI [90] [] Z Z (fun _=>AG (OG Z Z)) ?_))))))));refine AI [91] [] Z Z (fun _=>AG (MT Z Us Z Z Z)) (As [92] Z Z (fun _=>AG (CC Z Z (FY Z) Z Aq Z)) (AI [89,93] [] Z Z (fun _=>AG (Bb (v) Z Z (Z) (S6 hvn) Tryz.underlying147 Z CG Z)) (AI [94] [] Z Z (fun _=>AG (Cm Z Z BC Z)) (AI [95] [] Z Z (fun _=>AG (JN Z (ψ ..) Tryz.underlying28 Z)) (C1 12 Z Z Z (Ae 13 Z Z (J (BT Z Z Z) (AD ⟨Z,?_⟩))))))));refine C6 (Ah Z (fun h97=>?_) (fun h97=>?_))
      ·refine AC ?_;have hkl:k<(sucs g v).length:=Bf h97;have hjn:nth (sucs g v) k<g.length:=hg.suc hvn (Ct hkl);have hgn:=Ks hkl;have hjk:(sucs g v)[k]? =some (nth (sucs g v) k):=Rr hkl
       obtain ⟨j,hje⟩:∃j,nth (sucs g v) k=j:=⟨_,Z⟩
       rw [hje] at hjn hgn hjk;have hsl:=hg.len hvn;refine Cc [[],[],[1],[1,2],[1,2,3],[0,1,2,3,4],[0,1,2,3,4,5],[],[7],[7,8],[7,8,9],[0,1,2,3,4,5,6,7,8,9,10],[0,1,2,3,4,5,6,7,8,9,10,11],[0,1,2,3,4,5,6,7,8,9,10,11,12]] mixed Z (Cj (AI [0] [] Z Z (fun _=>AG (Ai Z Z)) (AI [14] [] Z Z (fun _=>AG (Ai Z Z)) (AI [99] [] Z Z (fun _=>AG (OG Z Z)) (AI [100] [] Z Z (fun _=>AG (MT Z Us Z Z Z)) (As [101] Z Z (fun _=>AG (CC Z Z (FY Z) Z Aq Z)) (AI [98,102] [] Z Z (fun _=>AG (Bb (v) Z Z (Z) (S6 hvn) Tryz.underlying147 Z CG Z)) ?_)))))));refine AI [103] [] Z Z (fun _=>AG (Cm Z Z BC Z)) (AI [14] [] Z Z (fun _=>AG (Ai Z Z)) (AI [105] [] Z Z (fun _=>AG (OG Z Z)) (AI [106] [] Z Z (fun _=>AG (MT Z Ef Z Z Z)) (As [107] Z Z (fun _=>AG (CC Z Z (FY Z) Z Aq Z)) (C1 11 Z Z Z (Ae 12 Z Z (J (Bb (k) Z Z (Z) (hgn) Tryz.underlying28 Z BD Z) (AD ⟨Z,?_⟩))))))));refine Ae 13 Z Z (J (Cm Z Z Aq Z) (AD ⟨Z,?_⟩));refine Ae 14 Z Z (AB Z Z (AD ⟨Z,?_⟩));refine C6 (AC (AE (goMv Z Z (J (OG Z Z) (J (MT Z Ef Z Z Z) ?_)))));refine J (CC Z Z (FY Z) Z Aq Z) (J (Ay Z Z (Υ _ (by omega)) Z) (Iu 115 (.d (AM (k+1))) Z (eqv (Δ AF (by omega))) (J (OG Z Z) (J (MT Z Ef Z Z Z) (V (KX (z':=S8 (v,k+1)) Z Z Z Z (FY Z) Z (υ 2) (setF Z) Z Z BD) (AD (AC (AC ?_))))))));rw [show (cs0++ [(v,k)]).length=(cs0++ [(v,k+1)]).length by simp] at hfrl⊢;refine AE (goMv Z Z (goMv Z Z (J (Bu (j) Z Z (Z) (hjn) Z Tryz.underlying28 BD Z) (J (CC Z Z (IB hjn) Z Aq Z) (J (KJ Z Z Z) (AD (Ah Z (fun h122=>?_) (fun h122=>?_))))))))
       ·refine AE ?_;refine goMv Z Z (goMv Z Z (J (Fe YY Zh Z Z Z) (V (Dz 22 RQ Z Z Z Z Z Z Z Z) (V (FB Z Z Z (by simp) Z Z (by simp) RQ (by omega) Z Z (takeF (x:=(j,0)) (cs0++ [(v,k+1)]) cj) Z Z) (Iu 127 (.own 4 0 (cs0++ [(v,k+1)]++ [(j,0)]).length) Z (by simp) (AB Z Z (AD (BF ?_))))))));exact ⟨(⟨S1.idx,S1.low,S1.of,S1.st,cs0++ [(v,k+1)],S1.cnt,S1.clk⟩,some j,cs0++ [(v,k+1)]++ [(j,0)],r3,cs0++ [(v,k+1)]++ [(j,0)]),⟨Yi htb hjk hjn (Int.ofNat.inj h122),Z,hr31,[],(ωk _).symm⟩,by rw [←hmu];exact Kj htb.hcs hkl,A1 hF [0,1,2,3,4] Z (Z) ⟨Z,Z,Z,Z,Z,Z,Z,Z,Z,Z,trivial⟩⟩
       ·refine AC (AE (goMv Z Z (goMv Z Z (J (Bu (j) Z Z (Z) (hjn) Z Tryz.underlying28 BD Z) (J (CC Z Z (RZ hjn) Z Aq Z) (J (BT Z Z Z) (AD (Ah Z (fun h132=>?_) (fun h132=>?_)))))))))
        ·refine Cc [[],[],[1],[1,2],[1,2,3],[],[],[6],[6,7],[6,7,8],[5,6,7,8,9],[5,6,7,8,9,10],[],[],[12,13],[12,13,14],[5,6,7,8,9,10,11,12,13,14,15],[0,1,2,3,4,5,6,7,8,9,10,11,12,13,14,15,16],[0,1,2,3,4,5,6,7,8,9,10,11,12,13,14,15,16,17]] mixed Z (Cj (AI [6] [] Z Z (fun _=>AG (Ai Z Z)) (AI [14] [] Z Z (fun _=>AG (Ai Z Z)) (AI [134] [] Z Z (fun _=>AG (OG Z Z)) ?_))));refine AI [135] [] Z Z (fun _=>AG (MT Z Us Z Z Z)) (As [136] Z Z (fun _=>AG (CC Z Z (FY Z) Z Aq Z)) (AI [6] [] Z Z (fun _=>AG (Ai Z Z)) (AI [14] [] Z Z (fun _=>AG (Ai Z Z)) (AI [139] [] Z Z (fun _=>AG (OG Z Z)) (AI [140] [] Z Z (fun _=>AG (MT Z Us Z Z Z)) (As [141] Z Z (fun _=>AG (CC Z Z (FY Z) Z Aq Z)) (As [138,142] Z Z (fun _=>AG (Bu (v) Z Z (Z) (hvn) Z Tryz.underlying28 BD Z)) (As [143] Z Z (fun _=>AG (CC Z Z (IB hvn) Z Aq Z)) ?_))))))));refine AI [5] [] Z Z (fun _=>AG (Ai Z Z)) (AI [15] [] Z Z (fun _=>AG (Ai Z Z)) (As [145,146] Z Z (fun _=>AG (Bu (j) Z Z (Z) (hjn) Z Tryz.underlying28 BD Z)) (As [147] Z Z (fun _=>AG (CC Z Z (IB hjn) Z Aq Z)) (AI [144,148] [] Z Z (fun _=>AG (KY Z Z (aU _ _) Z)) (C1 17 Z Z Z (Ae 18 Z Z (J (Bu (v) Z Z (Z) (hvn) Z Tryz.underlying28 BD Z) (AD ⟨Z,?_⟩))))))));refine Ae 19 Z Z (V (Qc Z Z Z Z Z (by rw [cY];exact hvn) cZ Z BD) (AD ⟨Z,?_⟩));refine C6 (BF ?_);exact ⟨(⟨S1.idx,At S1.low v (min (S1.low v) (S1.idx j)),S1.of,S1.st,cs0++ [(v,k+1)],S1.cnt,S1.clk⟩,none,cs0++ [(v,k+1)],r3,cs0++ [(v,k+1)]++cj),⟨Yj htb hjk hjn (fun e=>h122 (Δ Int.ofNat e)) h132,(ωk _).symm,hr31,cj,Z⟩,by rw [←hmu];exact Kj htb.hcs hkl,A1 hF [0,1,2,3,4] Z (Z) ⟨Z,Z,Z,Z,Z,Z,Z,Z,Z,Z,trivial⟩⟩
        ·refine A3 (BF ?_);exact ⟨(⟨S1.idx,S1.low,S1.of,S1.st,cs0++ [(v,k+1)],S1.cnt,S1.clk⟩,none,cs0++ [(v,k+1)],r3,cs0++ [(v,k+1)]++cj),⟨VE htb hjk hjn (fun e=>h122 (Δ Int.ofNat e)) h132,(ωk _).symm,hr31,cj,Z⟩,by rw [←hmu];exact Kj htb.hcs hkl,A1 hF [0,1,2,3,4] Z (Z) ⟨Z,Z,Z,Z,Z,Z,Z,Z,Z,Z,trivial⟩⟩
      ·refine A3 (AC ?_);have hke:k=(sucs g v).length:=by have:=(In htb).2.2.2;have:=h97;omega
       refine AE (goMv Z Z (J (OG Z Z) (J (MT Z Us Z Z Z) (J (CC Z Z (FY Z) Z Aq Z) (AB Z Z ?_)))));refine AD (AC (AE (goMv Z Z (goMv Z Z (J (LJ Z Tryz.underlying319 Z) (J (LI Z Z (Υ _ (by omega)) Z) (J (DF cs0.length Z Z hlen1 (by simp) Z Tryz.underlying319 RA Z) (AB Z Z ?_))))))));refine AD (AC (AC (AE (goMv Z Z (J (LJ Z Tryz.underlying319 Z) (J (KK Z Z Z) (AD (Ah Z (fun h162=>?_) (fun h162=>?_)))))))))
       ·refine AC ?_;obtain ⟨cs1,⟨u,ku⟩,hcu⟩:=Er (l:=cs0) (fun e=>by rw [e] at h162;exact absurd h162 (by decide));subst hcu;obtain ⟨hun,hvu⟩:=Yh htb;have hlen3:(((cs1++ [(u,ku)]).length:Nat):Int) - 1=(cs1.length:Int):=by simp
        have hlen4:cs1.length<(cs1++ [(u,ku)]).length:=by simp
        refine AE (goMv Z Z (goMv Z Z (J (LJ Z Tryz.underlying319 Z) (J (LI Z Z (Υ _ (by omega)) Z) (J (Bu (cs1.length) Z Z (hlen3) (hlen4) Z Tryz.underlying319 RA Z) (J (MT Z Us Z Z Z) (J (CC Z Z (getF2 Z) Z Aq Z) (AB Z Z ?_))))))));refine AD (Cc [[],[],[],[],[2,3],[2,3,4],[],[],[6,7],[6,7,8],[2,3,4,5,6,7,8,9],[0,1,2,3,4,5,6,7,8,9,10],[0,1,2,3,4,5,6,7,8,9,10,11]] mixed Z (Cj (AI [6] [] Z Z (fun _=>AG (Ai Z Z)) (AI [17] [] Z Z (fun _=>AG (Ai Z Z)) (AI [6] [] Z Z (fun _=>AG (Ai Z Z)) (AI [17] [] Z Z (fun _=>AG (Ai Z Z)) (As [172,173] Z Z (fun _=>AG (Bu (u) Z Z (Z) (hun) Z Tryz.underlying28 BD Z)) (As [174] Z Z (fun _=>AG (CC Z Z (IB hun) Z Aq Z)) ?_))))))));refine AI [6] [] Z Z (fun _=>AG (Ai Z Z)) (AI [16] [] Z Z (fun _=>AG (Ai Z Z)) (As [176,177] Z Z (fun _=>AG (Bu (v) Z Z (Z) (hvn) Z Tryz.underlying28 BD Z)) (As [178] Z Z (fun _=>AG (CC Z Z (IB hvn) Z Aq Z)) (AI [175,179] [] Z Z (fun _=>AG (KY Z Z (aU _ _) Z)) (C1 11 Z Z Z (Ae 12 Z Z (J (Bu (u) Z Z (Z) (hun) Z Tryz.underlying28 BD Z) (AD ⟨Z,?_⟩))))))));refine Ae 13 Z Z (V (Qc Z Z Z Z Z (by rw [cY];exact hun) cZ Z BD) (AD ⟨Z,?_⟩));refine C6 (AC (AC ?_))
        first | (obtain ⟨lowX,hlowX,hPX⟩:=Ly htb hke hvu;rw [hlowX];obtain ⟨cs0X,hcX⟩:∃l,cs1++ [(u,ku)]=l:=⟨_,Z⟩;rw [hcX] at htb hPX⊢) | (obtain ⟨lowX,hlowX,hPX⟩:=Lz htb hke (φi.1 (by omega));rw [hlowX];obtain ⟨cs0X,hcX⟩:∃l,cs0=l:=⟨_,Z⟩;rw [hcX] at htb hPX⊢)
        refine Cc [[],[],[0,1],[0,1,2],[],[],[4,5],[4,5,6],[0,1,2,3,4,5,6,7]] mixed Z (Cj (AI [6] [] Z Z (fun _=>AG (Ai Z Z)) (AI [16] [] Z Z (fun _=>AG (Ai Z Z)) (As [182,183] Z Z (fun _=>AG (Bu (v) Z Z (Z) (hvn) Z Tryz.underlying28 BD Z)) ?_))));refine As [184] Z Z (fun _=>AG (CC Z Z (IB hvn) Z Aq Z)) (AI [5] [] Z Z (fun _=>AG (Ai Z Z)) (AI [16] [] Z Z (fun _=>AG (Ai Z Z)) (As [186,187] Z Z (fun _=>AG (Bu (v) Z Z (Z) (hvn) Z Tryz.underlying28 BD Z)) (As [188] Z Z (fun _=>AG (CC Z Z (IB hvn) Z Aq Z)) (C1 8 Z Z Z (Ae 9 Z Z (J (EA Z Z Z) (AD ⟨Z,?_⟩))))))));refine C6 (Ah Z (fun h190=>?_) (fun h190=>?_))
        ·refine BF ?_;exact ⟨(⟨S1.idx,lowX,S1.of,S1.st,cs0X,S1.cnt,S1.clk⟩,none,cs0X,r3,cs0X++ [(v,k)]++cj),⟨hPX.b (fun e=>h190 (Δ Int.ofNat e)),(ωk _).symm,hr31,[(v,k)]++cj,ψm _ _ _⟩,by rw [←hmu];exact He htb.hcs,A1 hF [0,1,2,3,4] Z (Z) ⟨Z,Z,Z,Z,Z,Z,Z,Z,Z,Z,trivial⟩⟩
        ·refine A3 (AC (A5 ?_));obtain ⟨st1,st2,hst⟩:=List.append_of_mem (In htb).2.1;obtain ⟨sj,hsj⟩:=hr31;have hndp:=JP htb.ti hst;have hof:Df g.length S1.of=Df g.length (fun x=>if x∈([]:List Nat) then (S1.cnt:Int) else S1.of x):=(by simp);rw [hof,show S1.st.length=(st1++(v::st2)).length by rw [hst]];have hstn:=Oj htb.ti;have hstv:∀x∈st1++v::st2,x<g.length:=(fun x hx=>htb.ti.lt x ((htb.ti.st x).1 (by rw [hst];exact hx)).1);rw [hst] at hsj hstn;refine B6 (α:=List Nat×List Nat) (fun q=>⟨214,[(0,.d (Ji g)),(5,(.own 0 0 g.length)),(6,(.own 1 0 g.length)),(7,(.own 2 0 g.length)),(9,(.own 3 0 (st1++q.1).length)),(10,(.d (AM S1.cnt))),(11,(.d (AM S1.clk))),(13,(.own 4 0 cs0X.length)),(16,(.d (AM v))),(37,(.d (AM g.length))),(38,(.d (AM i)))],[(0,[.rowD 3 1 (rowN g.length S1.idx)]),(1,[.rowD 3 1 (rowN g.length lowX)]),(2,[.rowD 3 1 (Df g.length (fun x=>if x∈q.2 then (S1.cnt:Int) else S1.of x))]),(3,[.rowD 3 1 (r3.map AM)]),(4,[.rowD 318 2 ((cs0X++ [(v,k)]++cj).map S8)])]⟩) (fun q=>q.1++q.2=v::st2∧q.1≠ []) (fun q=>q.1.length) ((v::st2,[])) (⟨ωk _,fun e=>by cases e⟩) (A1 hF [0,1,2,3,4] Z Z ⟨Z,Z,Z,Z,Z,Z,Z,Z,Z,Z,Z,trivial⟩) ?_;rintro ⟨c,dn⟩ ⟨hcd,hcne⟩;dsimp only at hcd hcne⊢;refine A5 (AC ?_);obtain ⟨c0,w,hcw⟩:=Er hcne;subst hcw;have hws:st1++v::st2++sj=st1++(c0++ [w])++(dn++sj):=by rw [←hcd];simp
         have hwn:w<g.length:=hstv w (by rw [←hcd];simp);have hl6:(st1++(c0++ [w])).length≤g.length:=by rw [←hcd] at hstn;simp at hstn⊢;omega
         have hl7:(((st1++(c0++ [w])).length:Nat):Int) - 1=((st1++c0).length:Int):=by simp<;>omega
         have hl8:(st1++c0).length<(st1++(c0++ [w])).length:=by simp
         have hl9:(st1++c0).length≤(r3.map AM).length:=by rw [hsj,hws];simp<;>omega
         have hgw:(r3.map AM)[(st1++c0).length]? =some (AM w):=by rw [hsj,hws];exact getW rfl
         refine AE (goMv Z Z (goMv Z Z (J (LJ Z Tryz.underlying28 Z) (J (LI Z Z (Υ _ (by omega)) Z) (J (Bu ((st1++c0).length) Z Z (hl7) (hl8) Z Tryz.underlying28 BD Z) (J (CC Z Z (hgw) Z Aq Z) (AB Z Z ?_)))))));refine AD (AC (AE (goMv Z Z (goMv Z Z (J (LJ Z Tryz.underlying28 Z) (J (LI Z Z (Υ _ (by omega)) Z) (J (DF (st1++c0).length Z Z hl7 hl9 Z Tryz.underlying28 BD Z) (AB Z Z ?_))))))));skip;refine AD (AC (AE (goMv Z Z (goMv Z Z (goMv Z Z (J (Bu (w) Z Z (Z) (hwn) Z Tryz.underlying28 BD Z) ?_))))));refine V (Qc Z Z Z Z Z (by rw [H3];exact hwn) Ve Z BD) (AD (AC (AE (goMv Z Z (goMv Z Z (J (KJ Z Z Z) (AD (Ah Z (fun h208=>?_) (fun h208=>?_)))))))))
         ·refine BF ?_;obtain ⟨hc0,hdn⟩:=Lx hcd (Int.ofNat.inj h208) hndp;subst hc0;rw [ωk,hdn,Int.ofNat.inj h208];have hcl3:=htb.ti.num;have hcl4:=(LL htb.ti).1;refine AE (goMv Z Z (J (Ay Z Z (Υ _ (by omega)) Z) (Iu 210 (.d (AM (S1.cnt+1))) Z (eqv (Δ AF (by omega))) (AB Z Z (AD ?_)))));exact ⟨(⟨S1.idx,lowX,fun x=>if x∈v::st2 then (S1.cnt:Int) else S1.of x,st1,cs0X,S1.cnt+1,S1.clk⟩,none,cs0X,r3,cs0X++ [(v,k)]++cj),⟨hPX.c st1 st2 (Int.ofNat.inj (χs.1 h190)) hst,(ωk _).symm,⟨v::st2++sj,by rw [hsj];simp⟩,[(v,k)]++cj,ψm _ _ _⟩,by rw [←hmu];exact He htb.hcs,A1 hF [0,1,2,3,4] Z (Z) ⟨Z,Z,Z,Z,Z,Z,Z,Z,Z,Z,trivial⟩⟩
         ·refine A3 ?_;exact ⟨(c0,w::dn),J1 hcd (fun e=>h208 (Δ Int.ofNat e)),by show c0.length<(c0++ [w]).length;simp,A1 hF [0,1,2,3,4] Z (Z) ⟨Z,Z,Z,Z,Z,Z,Z,Z,Z,Z,Z,trivial⟩⟩
       ·refine A3 (AC (AC ?_))
        first | (obtain ⟨lowX,hlowX,hPX⟩:=Ly htb hke hvu;rw [hlowX];obtain ⟨cs0X,hcX⟩:∃l,cs1++ [(u,ku)]=l:=⟨_,Z⟩;rw [hcX] at htb hPX⊢) | (obtain ⟨lowX,hlowX,hPX⟩:=Lz htb hke (φi.1 (by omega));rw [hlowX];obtain ⟨cs0X,hcX⟩:∃l,cs0=l:=⟨_,Z⟩;rw [hcX] at htb hPX⊢)
        refine Cc [[],[],[0,1],[0,1,2],[],[],[4,5],[4,5,6],[0,1,2,3,4,5,6,7]] mixed Z (Cj (AI [6] [] Z Z (fun _=>AG (Ai Z Z)) (AI [16] [] Z Z (fun _=>AG (Ai Z Z)) (As [182,183] Z Z (fun _=>AG (Bu (v) Z Z (Z) (hvn) Z Tryz.underlying28 BD Z)) ?_))));refine As [184] Z Z (fun _=>AG (CC Z Z (IB hvn) Z Aq Z)) (AI [5] [] Z Z (fun _=>AG (Ai Z Z)) (AI [16] [] Z Z (fun _=>AG (Ai Z Z)) (As [186,187] Z Z (fun _=>AG (Bu (v) Z Z (Z) (hvn) Z Tryz.underlying28 BD Z)) (As [188] Z Z (fun _=>AG (CC Z Z (IB hvn) Z Aq Z)) (C1 8 Z Z Z (Ae 9 Z Z (J (EA Z Z Z) (AD ⟨Z,?_⟩))))))));refine C6 (Ah Z (fun h190=>?_) (fun h190=>?_))
        ·refine BF ?_;exact ⟨(⟨S1.idx,lowX,S1.of,S1.st,cs0X,S1.cnt,S1.clk⟩,none,cs0X,r3,cs0X++ [(v,k)]++cj),⟨hPX.b (fun e=>h190 (Δ Int.ofNat e)),(ωk _).symm,hr31,[(v,k)]++cj,ψm _ _ _⟩,by rw [←hmu];exact He htb.hcs,A1 hF [0,1,2,3,4] Z (Z) ⟨Z,Z,Z,Z,Z,Z,Z,Z,Z,Z,trivial⟩⟩
        ·refine A3 (AC (A5 ?_));obtain ⟨st1,st2,hst⟩:=List.append_of_mem (In htb).2.1;obtain ⟨sj,hsj⟩:=hr31;have hndp:=JP htb.ti hst;have hof:Df g.length S1.of=Df g.length (fun x=>if x∈([]:List Nat) then (S1.cnt:Int) else S1.of x):=(by simp);rw [hof,show S1.st.length=(st1++(v::st2)).length by rw [hst]];have hstn:=Oj htb.ti;have hstv:∀x∈st1++v::st2,x<g.length:=(fun x hx=>htb.ti.lt x ((htb.ti.st x).1 (by rw [hst];exact hx)).1);rw [hst] at hsj hstn;refine B6 (α:=List Nat×List Nat) (fun q=>⟨214,[(0,.d (Ji g)),(5,(.own 0 0 g.length)),(6,(.own 1 0 g.length)),(7,(.own 2 0 g.length)),(9,(.own 3 0 (st1++q.1).length)),(10,(.d (AM S1.cnt))),(11,(.d (AM S1.clk))),(13,(.own 4 0 cs0X.length)),(16,(.d (AM v))),(37,(.d (AM g.length))),(38,(.d (AM i)))],[(0,[.rowD 3 1 (rowN g.length S1.idx)]),(1,[.rowD 3 1 (rowN g.length lowX)]),(2,[.rowD 3 1 (Df g.length (fun x=>if x∈q.2 then (S1.cnt:Int) else S1.of x))]),(3,[.rowD 3 1 (r3.map AM)]),(4,[.rowD 318 2 ((cs0X++ [(v,k)]++cj).map S8)])]⟩) (fun q=>q.1++q.2=v::st2∧q.1≠ []) (fun q=>q.1.length) ((v::st2,[])) (⟨ωk _,fun e=>by cases e⟩) (A1 hF [0,1,2,3,4] Z Z ⟨Z,Z,Z,Z,Z,Z,Z,Z,Z,Z,Z,trivial⟩) ?_;rintro ⟨c,dn⟩ ⟨hcd,hcne⟩;dsimp only at hcd hcne⊢;refine A5 (AC ?_);obtain ⟨c0,w,hcw⟩:=Er hcne;subst hcw;have hws:st1++v::st2++sj=st1++(c0++ [w])++(dn++sj):=by rw [←hcd];simp
         have hwn:w<g.length:=hstv w (by rw [←hcd];simp);have hl6:(st1++(c0++ [w])).length≤g.length:=by rw [←hcd] at hstn;simp at hstn⊢;omega
         have hl7:(((st1++(c0++ [w])).length:Nat):Int) - 1=((st1++c0).length:Int):=by simp<;>omega
         have hl8:(st1++c0).length<(st1++(c0++ [w])).length:=by simp
         have hl9:(st1++c0).length≤(r3.map AM).length:=by rw [hsj,hws];simp<;>omega
         have hgw:(r3.map AM)[(st1++c0).length]? =some (AM w):=by rw [hsj,hws];exact getW rfl
         refine AE (goMv Z Z (goMv Z Z (J (LJ Z Tryz.underlying28 Z) (J (LI Z Z (Υ _ (by omega)) Z) (J (Bu ((st1++c0).length) Z Z (hl7) (hl8) Z Tryz.underlying28 BD Z) (J (CC Z Z (hgw) Z Aq Z) (AB Z Z ?_)))))));refine AD (AC (AE (goMv Z Z (goMv Z Z (J (LJ Z Tryz.underlying28 Z) (J (LI Z Z (Υ _ (by omega)) Z) (J (DF (st1++c0).length Z Z hl7 hl9 Z Tryz.underlying28 BD Z) (AB Z Z ?_))))))));skip;refine AD (AC (AE (goMv Z Z (goMv Z Z (goMv Z Z (J (Bu (w) Z Z (Z) (hwn) Z Tryz.underlying28 BD Z) ?_))))));refine V (Qc Z Z Z Z Z (by rw [H3];exact hwn) Ve Z BD) (AD (AC (AE (goMv Z Z (goMv Z Z (J (KJ Z Z Z) (AD (Ah Z (fun h208=>?_) (fun h208=>?_)))))))))
         ·refine BF ?_;obtain ⟨hc0,hdn⟩:=Lx hcd (Int.ofNat.inj h208) hndp;subst hc0;rw [ωk,hdn,Int.ofNat.inj h208];have hcl3:=htb.ti.num;have hcl4:=(LL htb.ti).1;refine AE (goMv Z Z (J (Ay Z Z (Υ _ (by omega)) Z) (Iu 210 (.d (AM (S1.cnt+1))) Z (eqv (Δ AF (by omega))) (AB Z Z (AD ?_)))));exact ⟨(⟨S1.idx,lowX,fun x=>if x∈v::st2 then (S1.cnt:Int) else S1.of x,st1,cs0X,S1.cnt+1,S1.clk⟩,none,cs0X,r3,cs0X++ [(v,k)]++cj),⟨hPX.c st1 st2 (Int.ofNat.inj (χs.1 h190)) hst,(ωk _).symm,⟨v::st2++sj,by rw [hsj];simp⟩,[(v,k)]++cj,ψm _ _ _⟩,by rw [←hmu];exact He htb.hcs,A1 hF [0,1,2,3,4] Z (Z) ⟨Z,Z,Z,Z,Z,Z,Z,Z,Z,Z,trivial⟩⟩
         ·refine A3 ?_;exact ⟨(c0,w::dn),J1 hcd (fun e=>h208 (Δ Int.ofNat e)),by show c0.length<(c0++ [w]).length;simp,A1 hF [0,1,2,3,4] Z (Z) ⟨Z,Z,Z,Z,Z,Z,Z,Z,Z,Z,Z,trivial⟩⟩
     ·obtain ⟨S1,hmu,htb,e1,e2,e3,e4,e5,e6,hr31⟩:=tb_else hth (hk1 fun e=>h61 (Δ Int.ofNat e)) hr3;rw [e1,e2,e3,e4,e5,e6];refine A3 (AC (AC ?_));refine Cc [[],[0],[0,1],[0,1,2],[],[],[5],[5,6],[5,6,7],[4,5,6,7,8],[4,5,6,7,8,9],[4,5,6,7,8,9,10],[0,1,2,3,4,5,6,7,8,9,10,11]] mixed Z (Cj (AI [14] [] Z Z (fun _=>AG (Ai Z Z)) (AI [85] [] Z Z (fun _=>AG (OG Z Z)) (AI [86] [] Z Z (fun _=>AG (MT Z Ef Z Z Z)) (As [87] Z Z (fun _=>AG (CC Z Z (FY Z) Z Aq Z)) (AI [0] [] Z Z (fun _=>AG (Ai Z Z)) (AI [14] [] Z Z (fun _=>AG (Ai Z Z)) (AI [90] [] Z Z (fun _=>AG (OG Z Z)) ?_))))))));refine AI [91] [] Z Z (fun _=>AG (MT Z Us Z Z Z)) (As [92] Z Z (fun _=>AG (CC Z Z (FY Z) Z Aq Z)) (AI [89,93] [] Z Z (fun _=>AG (Bb (v) Z Z (Z) (S6 hvn) Tryz.underlying147 Z CG Z)) (AI [94] [] Z Z (fun _=>AG (Cm Z Z BC Z)) (AI [95] [] Z Z (fun _=>AG (JN Z (ψ ..) Tryz.underlying28 Z)) (C1 12 Z Z Z (Ae 13 Z Z (J (BT Z Z Z) (AD ⟨Z,?_⟩))))))));refine C6 (Ah Z (fun h97=>?_) (fun h97=>?_))
      ·refine AC ?_;have hkl:k<(sucs g v).length:=Bf h97;have hjn:nth (sucs g v) k<g.length:=hg.suc hvn (Ct hkl);have hgn:=Ks hkl;have hjk:(sucs g v)[k]? =some (nth (sucs g v) k):=Rr hkl
       obtain ⟨j,hje⟩:∃j,nth (sucs g v) k=j:=⟨_,Z⟩
       rw [hje] at hjn hgn hjk;have hsl:=hg.len hvn;refine Cc [[],[],[1],[1,2],[1,2,3],[0,1,2,3,4],[0,1,2,3,4,5],[],[7],[7,8],[7,8,9],[0,1,2,3,4,5,6,7,8,9,10],[0,1,2,3,4,5,6,7,8,9,10,11],[0,1,2,3,4,5,6,7,8,9,10,11,12]] mixed Z (Cj (AI [0] [] Z Z (fun _=>AG (Ai Z Z)) (AI [14] [] Z Z (fun _=>AG (Ai Z Z)) (AI [99] [] Z Z (fun _=>AG (OG Z Z)) (AI [100] [] Z Z (fun _=>AG (MT Z Us Z Z Z)) (As [101] Z Z (fun _=>AG (CC Z Z (FY Z) Z Aq Z)) (AI [98,102] [] Z Z (fun _=>AG (Bb (v) Z Z (Z) (S6 hvn) Tryz.underlying147 Z CG Z)) ?_)))))));refine AI [103] [] Z Z (fun _=>AG (Cm Z Z BC Z)) (AI [14] [] Z Z (fun _=>AG (Ai Z Z)) (AI [105] [] Z Z (fun _=>AG (OG Z Z)) (AI [106] [] Z Z (fun _=>AG (MT Z Ef Z Z Z)) (As [107] Z Z (fun _=>AG (CC Z Z (FY Z) Z Aq Z)) (C1 11 Z Z Z (Ae 12 Z Z (J (Bb (k) Z Z (Z) (hgn) Tryz.underlying28 Z BD Z) (AD ⟨Z,?_⟩))))))));refine Ae 13 Z Z (J (Cm Z Z Aq Z) (AD ⟨Z,?_⟩));refine Ae 14 Z Z (AB Z Z (AD ⟨Z,?_⟩));refine C6 (AC (AE (goMv Z Z (J (OG Z Z) (J (MT Z Ef Z Z Z) ?_)))));refine J (CC Z Z (FY Z) Z Aq Z) (J (Ay Z Z (Υ _ (by omega)) Z) (Iu 115 (.d (AM (k+1))) Z (eqv (Δ AF (by omega))) (J (OG Z Z) (J (MT Z Ef Z Z Z) (V (KX (z':=S8 (v,k+1)) Z Z Z Z (FY Z) Z (υ 2) (setF Z) Z Z BD) (AD (AC (AC ?_))))))));rw [show (cs0++ [(v,k)]).length=(cs0++ [(v,k+1)]).length by simp] at hfrl⊢;refine AE (goMv Z Z (goMv Z Z (J (Bu (j) Z Z (Z) (hjn) Z Tryz.underlying28 BD Z) (J (CC Z Z (IB hjn) Z Aq Z) (J (KJ Z Z Z) (AD (Ah Z (fun h122=>?_) (fun h122=>?_))))))))
       ·refine AE ?_;refine goMv Z Z (goMv Z Z (J (Fe YY Zh Z Z Z) (V (Dz 22 RQ Z Z Z Z Z Z Z Z) (V (FB Z Z Z (by simp) Z Z (by simp) RQ (by omega) Z Z (takeF (x:=(j,0)) (cs0++ [(v,k+1)]) cj) Z Z) (Iu 127 (.own 4 0 (cs0++ [(v,k+1)]++ [(j,0)]).length) Z (by simp) (AB Z Z (AD (BF ?_))))))));exact ⟨(⟨S1.idx,S1.low,S1.of,S1.st,cs0++ [(v,k+1)],S1.cnt,S1.clk⟩,some j,cs0++ [(v,k+1)]++ [(j,0)],r3,cs0++ [(v,k+1)]++ [(j,0)]),⟨Yi htb hjk hjn (Int.ofNat.inj h122),Z,hr31,[],(ωk _).symm⟩,by rw [←hmu];exact Kj htb.hcs hkl,A1 hF [0,1,2,3,4] Z (Z) ⟨Z,Z,Z,Z,Z,Z,Z,Z,Z,Z,trivial⟩⟩
       ·refine AC (AE (goMv Z Z (goMv Z Z (J (Bu (j) Z Z (Z) (hjn) Z Tryz.underlying28 BD Z) (J (CC Z Z (RZ hjn) Z Aq Z) (J (BT Z Z Z) (AD (Ah Z (fun h132=>?_) (fun h132=>?_)))))))))
        ·refine Cc [[],[],[1],[1,2],[1,2,3],[],[],[6],[6,7],[6,7,8],[5,6,7,8,9],[5,6,7,8,9,10],[],[],[12,13],[12,13,14],[5,6,7,8,9,10,11,12,13,14,15],[0,1,2,3,4,5,6,7,8,9,10,11,12,13,14,15,16],[0,1,2,3,4,5,6,7,8,9,10,11,12,13,14,15,16,17]] mixed Z (Cj (AI [6] [] Z Z (fun _=>AG (Ai Z Z)) (AI [14] [] Z Z (fun _=>AG (Ai Z Z)) (AI [134] [] Z Z (fun _=>AG (OG Z Z)) ?_))));refine AI [135] [] Z Z (fun _=>AG (MT Z Us Z Z Z)) (As [136] Z Z (fun _=>AG (CC Z Z (FY Z) Z Aq Z)) (AI [6] [] Z Z (fun _=>AG (Ai Z Z)) (AI [14] [] Z Z (fun _=>AG (Ai Z Z)) (AI [139] [] Z Z (fun _=>AG (OG Z Z)) (AI [140] [] Z Z (fun _=>AG (MT Z Us Z Z Z)) (As [141] Z Z (fun _=>AG (CC Z Z (FY Z) Z Aq Z)) (As [138,142] Z Z (fun _=>AG (Bu (v) Z Z (Z) (hvn) Z Tryz.underlying28 BD Z)) (As [143] Z Z (fun _=>AG (CC Z Z (IB hvn) Z Aq Z)) ?_))))))));refine AI [5] [] Z Z (fun _=>AG (Ai Z Z)) (AI [15] [] Z Z (fun _=>AG (Ai Z Z)) (As [145,146] Z Z (fun _=>AG (Bu (j) Z Z (Z) (hjn) Z Tryz.underlying28 BD Z)) (As [147] Z Z (fun _=>AG (CC Z Z (IB hjn) Z Aq Z)) (AI [144,148] [] Z Z (fun _=>AG (KY Z Z (aU _ _) Z)) (C1 17 Z Z Z (Ae 18 Z Z (J (Bu (v) Z Z (Z) (hvn) Z Tryz.underlying28 BD Z) (AD ⟨Z,?_⟩))))))));refine Ae 19 Z Z (V (Qc Z Z Z Z Z (by rw [cY];exact hvn) cZ Z BD) (AD ⟨Z,?_⟩));refine C6 (BF ?_);exact ⟨(⟨S1.idx,At S1.low v (min (S1.low v) (S1.idx j)),S1.of,S1.st,cs0++ [(v,k+1)],S1.cnt,S1.clk⟩,none,cs0++ [(v,k+1)],r3,cs0++ [(v,k+1)]++cj),⟨Yj htb hjk hjn (fun e=>h122 (Δ Int.ofNat e)) h132,(ωk _).symm,hr31,cj,Z⟩,by rw [←hmu];exact Kj htb.hcs hkl,A1 hF [0,1,2,3,4] Z (Z) ⟨Z,Z,Z,Z,Z,Z,Z,Z,Z,Z,trivial⟩⟩
        ·refine A3 (BF ?_);exact ⟨(⟨S1.idx,S1.low,S1.of,S1.st,cs0++ [(v,k+1)],S1.cnt,S1.clk⟩,none,cs0++ [(v,k+1)],r3,cs0++ [(v,k+1)]++cj),⟨VE htb hjk hjn (fun e=>h122 (Δ Int.ofNat e)) h132,(ωk _).symm,hr31,cj,Z⟩,by rw [←hmu];exact Kj htb.hcs hkl,A1 hF [0,1,2,3,4] Z (Z) ⟨Z,Z,Z,Z,Z,Z,Z,Z,Z,Z,trivial⟩⟩
      ·refine A3 (AC ?_);have hke:k=(sucs g v).length:=by have:=(In htb).2.2.2;have:=h97;omega
       refine AE (goMv Z Z (J (OG Z Z) (J (MT Z Us Z Z Z) (J (CC Z Z (FY Z) Z Aq Z) (AB Z Z ?_)))));refine AD (AC (AE (goMv Z Z (goMv Z Z (J (LJ Z Tryz.underlying319 Z) (J (LI Z Z (Υ _ (by omega)) Z) (J (DF cs0.length Z Z hlen1 (by simp) Z Tryz.underlying319 RA Z) (AB Z Z ?_))))))));refine AD (AC (AC (AE (goMv Z Z (J (LJ Z Tryz.underlying319 Z) (J (KK Z Z Z) (AD (Ah Z (fun h162=>?_) (fun h162=>?_)))))))))
       ·refine AC ?_;obtain ⟨cs1,⟨u,ku⟩,hcu⟩:=Er (l:=cs0) (fun e=>by rw [e] at h162;exact absurd h162 (by decide));subst hcu;obtain ⟨hun,hvu⟩:=Yh htb;have hlen3:(((cs1++ [(u,ku)]).length:Nat):Int) - 1=(cs1.length:Int):=by simp
        have hlen4:cs1.length<(cs1++ [(u,ku)]).length:=by simp
        refine AE (goMv Z Z (goMv Z Z (J (LJ Z Tryz.underlying319 Z) (J (LI Z Z (Υ _ (by omega)) Z) (J (Bu (cs1.length) Z Z (hlen3) (hlen4) Z Tryz.underlying319 RA Z) (J (MT Z Us Z Z Z) (J (CC Z Z (getF2 Z) Z Aq Z) (AB Z Z ?_))))))));refine AD (Cc [[],[],[],[],[2,3],[2,3,4],[],[],[6,7],[6,7,8],[2,3,4,5,6,7,8,9],[0,1,2,3,4,5,6,7,8,9,10],[0,1,2,3,4,5,6,7,8,9,10,11]] mixed Z (Cj (AI [6] [] Z Z (fun _=>AG (Ai Z Z)) (AI [17] [] Z Z (fun _=>AG (Ai Z Z)) (AI [6] [] Z Z (fun _=>AG (Ai Z Z)) (AI [17] [] Z Z (fun _=>AG (Ai Z Z)) (As [172,173] Z Z (fun _=>AG (Bu (u) Z Z (Z) (hun) Z Tryz.underlying28 BD Z)) (As [174] Z Z (fun _=>AG (CC Z Z (IB hun) Z Aq Z)) ?_))))))));refine AI [6] [] Z Z (fun _=>AG (Ai Z Z)) (AI [16] [] Z Z (fun _=>AG (Ai Z Z)) (As [176,177] Z Z (fun _=>AG (Bu (v) Z Z (Z) (hvn) Z Tryz.underlying28 BD Z)) (As [178] Z Z (fun _=>AG (CC Z Z (IB hvn) Z Aq Z)) (AI [175,179] [] Z Z (fun _=>AG (KY Z Z (aU _ _) Z)) (C1 11 Z Z Z (Ae 12 Z Z (J (Bu (u) Z Z (Z) (hun) Z Tryz.underlying28 BD Z) (AD ⟨Z,?_⟩))))))));refine Ae 13 Z Z (V (Qc Z Z Z Z Z (by rw [cY];exact hun) cZ Z BD) (AD ⟨Z,?_⟩));refine C6 (AC (AC ?_))
        first | (obtain ⟨lowX,hlowX,hPX⟩:=Ly htb hke hvu;rw [hlowX];obtain ⟨cs0X,hcX⟩:∃l,cs1++ [(u,ku)]=l:=⟨_,Z⟩;rw [hcX] at htb hPX⊢) | (obtain ⟨lowX,hlowX,hPX⟩:=Lz htb hke (φi.1 (by omega));rw [hlowX];obtain ⟨cs0X,hcX⟩:∃l,cs0=l:=⟨_,Z⟩;rw [hcX] at htb hPX⊢)
        refine Cc [[],[],[0,1],[0,1,2],[],[],[4,5],[4,5,6],[0,1,2,3,4,5,6,7]] mixed Z (Cj (AI [6] [] Z Z (fun _=>AG (Ai Z Z)) (AI [16] [] Z Z (fun _=>AG (Ai Z Z)) (As [182,183] Z Z (fun _=>AG (Bu (v) Z Z (Z) (hvn) Z Tryz.underlying28 BD Z)) ?_))));refine As [184] Z Z (fun _=>AG (CC Z Z (IB hvn) Z Aq Z)) (AI [5] [] Z Z (fun _=>AG (Ai Z Z)) (AI [16] [] Z Z (fun _=>AG (Ai Z Z)) (As [186,187] Z Z (fun _=>AG (Bu (v) Z Z (Z) (hvn) Z Tryz.underlying28 BD Z)) (As [188] Z Z (fun _=>AG (CC Z Z (IB hvn) Z Aq Z)) (C1 8 Z Z Z (Ae 9 Z Z (J (EA Z Z Z) (AD ⟨Z,?_⟩))))))));refine C6 (Ah Z (fun h190=>?_) (fun h190=>?_))
        ·refine BF ?_;exact ⟨(⟨S1.idx,lowX,S1.of,S1.st,cs0X,S1.cnt,S1.clk⟩,none,cs0X,r3,cs0X++ [(v,k)]++cj),⟨hPX.b (fun e=>h190 (Δ Int.ofNat e)),(ωk _).symm,hr31,[(v,k)]++cj,ψm _ _ _⟩,by rw [←hmu];exact He htb.hcs,A1 hF [0,1,2,3,4] Z (Z) ⟨Z,Z,Z,Z,Z,Z,Z,Z,Z,Z,trivial⟩⟩
        ·refine A3 (AC (A5 ?_));obtain ⟨st1,st2,hst⟩:=List.append_of_mem (In htb).2.1;obtain ⟨sj,hsj⟩:=hr31;have hndp:=JP htb.ti hst;have hof:Df g.length S1.of=Df g.length (fun x=>if x∈([]:List Nat) then (S1.cnt:Int) else S1.of x):=(by simp);rw [hof,show S1.st.length=(st1++(v::st2)).length by rw [hst]];have hstn:=Oj htb.ti;have hstv:∀x∈st1++v::st2,x<g.length:=(fun x hx=>htb.ti.lt x ((htb.ti.st x).1 (by rw [hst];exact hx)).1);rw [hst] at hsj hstn;refine B6 (α:=List Nat×List Nat) (fun q=>⟨214,[(0,.d (Ji g)),(5,(.own 0 0 g.length)),(6,(.own 1 0 g.length)),(7,(.own 2 0 g.length)),(9,(.own 3 0 (st1++q.1).length)),(10,(.d (AM S1.cnt))),(11,(.d (AM S1.clk))),(13,(.own 4 0 cs0X.length)),(16,(.d (AM v))),(37,(.d (AM g.length))),(38,(.d (AM i)))],[(0,[.rowD 3 1 (rowN g.length S1.idx)]),(1,[.rowD 3 1 (rowN g.length lowX)]),(2,[.rowD 3 1 (Df g.length (fun x=>if x∈q.2 then (S1.cnt:Int) else S1.of x))]),(3,[.rowD 3 1 (r3.map AM)]),(4,[.rowD 318 2 ((cs0X++ [(v,k)]++cj).map S8)])]⟩) (fun q=>q.1++q.2=v::st2∧q.1≠ []) (fun q=>q.1.length) ((v::st2,[])) (⟨ωk _,fun e=>by cases e⟩) (A1 hF [0,1,2,3,4] Z Z ⟨Z,Z,Z,Z,Z,Z,Z,Z,Z,Z,Z,trivial⟩) ?_;rintro ⟨c,dn⟩ ⟨hcd,hcne⟩;dsimp only at hcd hcne⊢;refine A5 (AC ?_);obtain ⟨c0,w,hcw⟩:=Er hcne;subst hcw;have hws:st1++v::st2++sj=st1++(c0++ [w])++(dn++sj):=by rw [←hcd];simp
         have hwn:w<g.length:=hstv w (by rw [←hcd];simp);have hl6:(st1++(c0++ [w])).length≤g.length:=by rw [←hcd] at hstn;simp at hstn⊢;omega
         have hl7:(((st1++(c0++ [w])).length:Nat):Int) - 1=((st1++c0).length:Int):=by simp<;>omega
         have hl8:(st1++c0).length<(st1++(c0++ [w])).length:=by simp
         have hl9:(st1++c0).length≤(r3.map AM).length:=by rw [hsj,hws];simp<;>omega
         have hgw:(r3.map AM)[(st1++c0).length]? =some (AM w):=by rw [hsj,hws];exact getW rfl
         refine AE (goMv Z Z (goMv Z Z (J (LJ Z Tryz.underlying28 Z) (J (LI Z Z (Υ _ (by omega)) Z) (J (Bu ((st1++c0).length) Z Z (hl7) (hl8) Z Tryz.underlying28 BD Z) (J (CC Z Z (hgw) Z Aq Z) (AB Z Z ?_)))))));refine AD (AC (AE (goMv Z Z (goMv Z Z (J (LJ Z Tryz.underlying28 Z) (J (LI Z Z (Υ _ (by omega)) Z) (J (DF (st1++c0).length Z Z hl7 hl9 Z Tryz.underlying28 BD Z) (AB Z Z ?_))))))));skip;refine AD (AC (AE (goMv Z Z (goMv Z Z (goMv Z Z (J (Bu (w) Z Z (Z) (hwn) Z Tryz.underlying28 BD Z) ?_))))));refine V (Qc Z Z Z Z Z (by rw [H3];exact hwn) Ve Z BD) (AD (AC (AE (goMv Z Z (goMv Z Z (J (KJ Z Z Z) (AD (Ah Z (fun h208=>?_) (fun h208=>?_)))))))))
         ·refine BF ?_;obtain ⟨hc0,hdn⟩:=Lx hcd (Int.ofNat.inj h208) hndp;subst hc0;rw [ωk,hdn,Int.ofNat.inj h208];have hcl3:=htb.ti.num;have hcl4:=(LL htb.ti).1;refine AE (goMv Z Z (J (Ay Z Z (Υ _ (by omega)) Z) (Iu 210 (.d (AM (S1.cnt+1))) Z (eqv (Δ AF (by omega))) (AB Z Z (AD ?_)))));exact ⟨(⟨S1.idx,lowX,fun x=>if x∈v::st2 then (S1.cnt:Int) else S1.of x,st1,cs0X,S1.cnt+1,S1.clk⟩,none,cs0X,r3,cs0X++ [(v,k)]++cj),⟨hPX.c st1 st2 (Int.ofNat.inj (χs.1 h190)) hst,(ωk _).symm,⟨v::st2++sj,by rw [hsj];simp⟩,[(v,k)]++cj,ψm _ _ _⟩,by rw [←hmu];exact He htb.hcs,A1 hF [0,1,2,3,4] Z (Z) ⟨Z,Z,Z,Z,Z,Z,Z,Z,Z,Z,trivial⟩⟩
         ·refine A3 ?_;exact ⟨(c0,w::dn),J1 hcd (fun e=>h208 (Δ Int.ofNat e)),by show c0.length<(c0++ [w]).length;simp,A1 hF [0,1,2,3,4] Z (Z) ⟨Z,Z,Z,Z,Z,Z,Z,Z,Z,Z,Z,trivial⟩⟩
       ·refine A3 (AC (AC ?_))
        first | (obtain ⟨lowX,hlowX,hPX⟩:=Ly htb hke hvu;rw [hlowX];obtain ⟨cs0X,hcX⟩:∃l,cs1++ [(u,ku)]=l:=⟨_,Z⟩;rw [hcX] at htb hPX⊢) | (obtain ⟨lowX,hlowX,hPX⟩:=Lz htb hke (φi.1 (by omega));rw [hlowX];obtain ⟨cs0X,hcX⟩:∃l,cs0=l:=⟨_,Z⟩;rw [hcX] at htb hPX⊢)
        refine Cc [[],[],[0,1],[0,1,2],[],[],[4,5],[4,5,6],[0,1,2,3,4,5,6,7]] mixed Z (Cj (AI [6] [] Z Z (fun _=>AG (Ai Z Z)) (AI [16] [] Z Z (fun _=>AG (Ai Z Z)) (As [182,183] Z Z (fun _=>AG (Bu (v) Z Z (Z) (hvn) Z Tryz.underlying28 BD Z)) ?_))));refine As [184] Z Z (fun _=>AG (CC Z Z (IB hvn) Z Aq Z)) (AI [5] [] Z Z (fun _=>AG (Ai Z Z)) (AI [16] [] Z Z (fun _=>AG (Ai Z Z)) (As [186,187] Z Z (fun _=>AG (Bu (v) Z Z (Z) (hvn) Z Tryz.underlying28 BD Z)) (As [188] Z Z (fun _=>AG (CC Z Z (IB hvn) Z Aq Z)) (C1 8 Z Z Z (Ae 9 Z Z (J (EA Z Z Z) (AD ⟨Z,?_⟩))))))));refine C6 (Ah Z (fun h190=>?_) (fun h190=>?_))
        ·refine BF ?_;exact ⟨(⟨S1.idx,lowX,S1.of,S1.st,cs0X,S1.cnt,S1.clk⟩,none,cs0X,r3,cs0X++ [(v,k)]++cj),⟨hPX.b (fun e=>h190 (Δ Int.ofNat e)),(ωk _).symm,hr31,[(v,k)]++cj,ψm _ _ _⟩,by rw [←hmu];exact He htb.hcs,A1 hF [0,1,2,3,4] Z (Z) ⟨Z,Z,Z,Z,Z,Z,Z,Z,Z,Z,trivial⟩⟩
        ·refine A3 (AC (A5 ?_));obtain ⟨st1,st2,hst⟩:=List.append_of_mem (In htb).2.1;obtain ⟨sj,hsj⟩:=hr31;have hndp:=JP htb.ti hst;have hof:Df g.length S1.of=Df g.length (fun x=>if x∈([]:List Nat) then (S1.cnt:Int) else S1.of x):=(by simp);rw [hof,show S1.st.length=(st1++(v::st2)).length by rw [hst]];have hstn:=Oj htb.ti;have hstv:∀x∈st1++v::st2,x<g.length:=(fun x hx=>htb.ti.lt x ((htb.ti.st x).1 (by rw [hst];exact hx)).1);rw [hst] at hsj hstn;refine B6 (α:=List Nat×List Nat) (fun q=>⟨214,[(0,.d (Ji g)),(5,(.own 0 0 g.length)),(6,(.own 1 0 g.length)),(7,(.own 2 0 g.length)),(9,(.own 3 0 (st1++q.1).length)),(10,(.d (AM S1.cnt))),(11,(.d (AM S1.clk))),(13,(.own 4 0 cs0X.length)),(16,(.d (AM v))),(37,(.d (AM g.length))),(38,(.d (AM i)))],[(0,[.rowD 3 1 (rowN g.length S1.idx)]),(1,[.rowD 3 1 (rowN g.length lowX)]),(2,[.rowD 3 1 (Df g.length (fun x=>if x∈q.2 then (S1.cnt:Int) else S1.of x))]),(3,[.rowD 3 1 (r3.map AM)]),(4,[.rowD 318 2 ((cs0X++ [(v,k)]++cj).map S8)])]⟩) (fun q=>q.1++q.2=v::st2∧q.1≠ []) (fun q=>q.1.length) ((v::st2,[])) (⟨ωk _,fun e=>by cases e⟩) (A1 hF [0,1,2,3,4] Z Z ⟨Z,Z,Z,Z,Z,Z,Z,Z,Z,Z,Z,trivial⟩) ?_;rintro ⟨c,dn⟩ ⟨hcd,hcne⟩;dsimp only at hcd hcne⊢;refine A5 (AC ?_);obtain ⟨c0,w,hcw⟩:=Er hcne;subst hcw;have hws:st1++v::st2++sj=st1++(c0++ [w])++(dn++sj):=by rw [←hcd];simp
         have hwn:w<g.length:=hstv w (by rw [←hcd];simp);have hl6:(st1++(c0++ [w])).length≤g.length:=by rw [←hcd] at hstn;simp at hstn⊢;omega
         have hl7:(((st1++(c0++ [w])).length:Nat):Int) - 1=((st1++c0).length:Int):=by simp<;>omega
         have hl8:(st1++c0).length<(st1++(c0++ [w])).length:=by simp
         have hl9:(st1++c0).length≤(r3.map AM).length:=by rw [hsj,hws];simp<;>omega
         have hgw:(r3.map AM)[(st1++c0).length]? =some (AM w):=by rw [hsj,hws];exact getW rfl
         refine AE (goMv Z Z (goMv Z Z (J (LJ Z Tryz.underlying28 Z) (J (LI Z Z (Υ _ (by omega)) Z) (J (Bu ((st1++c0).length) Z Z (hl7) (hl8) Z Tryz.underlying28 BD Z) (J (CC Z Z (hgw) Z Aq Z) (AB Z Z ?_)))))));refine AD (AC (AE (goMv Z Z (goMv Z Z (J (LJ Z Tryz.underlying28 Z) (J (LI Z Z (Υ _ (by omega)) Z) (J (DF (st1++c0).length Z Z hl7 hl9 Z Tryz.underlying28 BD Z) (AB Z Z ?_))))))));skip;refine AD (AC (AE (goMv Z Z (goMv Z Z (goMv Z Z (J (Bu (w) Z Z (Z) (hwn) Z Tryz.underlying28 BD Z) ?_))))));refine V (Qc Z Z Z Z Z (by rw [H3];exact hwn) Ve Z BD) (AD (AC (AE (goMv Z Z (goMv Z Z (J (KJ Z Z Z) (AD (Ah Z (fun h208=>?_) (fun h208=>?_)))))))))
         ·refine BF ?_;obtain ⟨hc0,hdn⟩:=Lx hcd (Int.ofNat.inj h208) hndp;subst hc0;rw [ωk,hdn,Int.ofNat.inj h208];have hcl3:=htb.ti.num;have hcl4:=(LL htb.ti).1;refine AE (goMv Z Z (J (Ay Z Z (Υ _ (by omega)) Z) (Iu 210 (.d (AM (S1.cnt+1))) Z (eqv (Δ AF (by omega))) (AB Z Z (AD ?_)))));exact ⟨(⟨S1.idx,lowX,fun x=>if x∈v::st2 then (S1.cnt:Int) else S1.of x,st1,cs0X,S1.cnt+1,S1.clk⟩,none,cs0X,r3,cs0X++ [(v,k)]++cj),⟨hPX.c st1 st2 (Int.ofNat.inj (χs.1 h190)) hst,(ωk _).symm,⟨v::st2++sj,by rw [hsj];simp⟩,[(v,k)]++cj,ψm _ _ _⟩,by rw [←hmu];exact He htb.hcs,A1 hF [0,1,2,3,4] Z (Z) ⟨Z,Z,Z,Z,Z,Z,Z,Z,Z,Z,trivial⟩⟩
         ·refine A3 ?_;exact ⟨(c0,w::dn),J1 hcd (fun e=>h208 (Δ Int.ofNat e)),by show c0.length<(c0++ [w]).length;simp,A1 hF [0,1,2,3,4] Z (Z) ⟨Z,Z,Z,Z,Z,Z,Z,Z,Z,Z,Z,trivial⟩⟩
    ·refine BF ?_
     first | have hE:=Yf hth (hfr▸φi.1 (by omega)) | skip
     refine AE (J (Ay Z Z (Υ _ (by omega)) Z) (goMv Z Z (AD ?_)));exact ⟨(i+1,S,r3),⟨hil,hE.1,hE.2.1,Rl hth.old hE.2.2,hr3⟩,by show g.length - (i+1)<g.length - i;omega,A1 hF [0,1,2,3] Z (Z) ⟨Z,Z,Z,Z,Z,Z,Z,Z,Z,trivial⟩⟩
  ·refine BF (AC ?_);have hin:i=g.length:=by have:=h39;omega
   subst hin;obtain ⟨hof,hofe⟩:=Ye hti hcs hold;have hre:Df g.length S.of=rowN g.length (fun v=>(S.of v).toNat):=ωj fun v hv=>Δ AF (hofe v (ς.1 hv));rw [hre];refine AE (goMv Z Z (goMv Z Z (AB Z Z (AB Z Z (AD (A8 ?_))))));exact ⟨_,[2],_,A7 Z,Z,Z,_,_,hof,Z,Z⟩
end Go.Proofs.YteifpcnphnhaoaaGreat
