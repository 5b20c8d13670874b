import Derived.Test.YteifpcnphnhaoaaGreatMg21
namespace Go.Proofs.YteifpcnphnhaoaaGreat
open Go.RowKit
set_option maxRecDepth 100000
def Ex (ros:List Roo) (its:List AK):Nat ->(Nat ->Bool) ->List JH×(Nat ->Bool)
 | 0,on=>([],on)
 | f+1,on=>match DO (netS ros its on) with
  | none=>([],on)
  | some e=>(e::(Ex ros its f (A7 on ((its.map AK.id).idxOf e.id))).1,(Ex ros its f (A7 on ((its.map AK.id).idxOf e.id))).2)
def EL (n:Nat) (on:Nat ->Bool):Nat:=((List.range n).filter on).length
def Js (p:Prb):List JH×(Nat ->Bool):=Ex (rosS p) (ordP p) (ordP p).length fun _=>true
def BX (its:List AK) (on:Nat ->Bool) (k:Nat):List Int:=((List.range k).filter on).map fun i=>(its.getD i itm0).id
theorem LB {n i:Nat} (hi:i<n) {on:Nat ->Bool} (ho:on i=true):EL n (A7 on i)+1=EL n on:=by
 obtain ⟨B,h1,h3⟩:=ID hi;unfold EL;rw [h1,ψc,ψc,ς,ς,ψv,ψv,Ee,ho];have e1:(List.range i).filter (A7 on i)=(List.range i).filter on:=χq fun j hj=>Zcm (by have:=Θ.1 hj;omega);have e2:B.filter (A7 on i)=B.filter on:=χq fun j hj=>Zcm (by have:=h3 j hj;omega);rw [e1,e2]
 simp
 omega
theorem IM {α:Type} [BEq α] [LawfulBEq α] {l:List α} (hn:l.Nodup) {i:Nat} (hi:i<l.length):l.idxOf l[i]=i:=by
 have h1:l.idxOf l[i]<l.length:=ψo (κ hi);have h2:=φa h1;exact (List.getElem_inj hn).1 h2
theorem M9 {ros:List Roo} {its:List AK} {f:Nat} {on:Nat ->Bool} (h:DO (netS ros its on)=none):Ex ros its f on=([],on):=by
 cases f with
 | zero=>rfl
 | succ f=>unfold Ex;rw [h]
theorem M8 {ros:List Roo} {its:List AK} {f:Nat} {on:Nat ->Bool} {e:JH} (h:DO (netS ros its on)=some e):Ex ros its (f+1) on=(e::(Ex ros its f (A7 on ((its.map AK.id).idxOf e.id))).1,(Ex ros its f (A7 on ((its.map AK.id).idxOf e.id))).2):=by
 show (match DO (netS ros its on) with | none=>_ | some e=>_)=_;rw [h]
theorem MM {ros:List Roo} {its:List AK} {on:Nat ->Bool} {N:Net} (h:Ap N=netS ros its on) {i:Nat} {x:Nd} (hx:N.nd[i]? =some x):i<its.length∧x.on=on i∧x.it=its.getD i itm0:=by
 have h1:(N.nd.map Du)[i]? =some (Du x):=by rw [η,hx];rfl
 rw [show N.nd.map Du=(List.range its.length).map (Ke (ros.map Roo.r) its on) from Γ Net.nd h] at h1;have hi:i<its.length:=by have:=(χ.1 h1).1;simpa using this
 rw [η,ψu hi] at h1;have h2:Du x=Ke (ros.map Roo.r) its on i:=(Option.some.inj h1).symm;exact ⟨hi,Γ Nd.on h2,Γ Nd.it h2⟩
theorem Mp (its:List AK) (on:Nat ->Bool) (k:Nat):BX its on (k+1)=BX its on k++if on k=true then [(its.getD k itm0).id] else []:=by
 unfold BX;rw [ψm,ψc,ωe,P0]
 split<;>rfl
theorem X4 (its:List AK) (on:Nat ->Bool) (k:Nat):(BX its on k).length≤k:=by
 unfold BX;rw [ψ];exact ωf (ωj _ _) (by simp)
theorem S_len {ros:List Roo} {its:List AK} {on:Nat ->Bool} {N:Net} (h:Ap N=netS ros its on):N.nd.length=its.length:=by
 have h1:=Γ (fun N=>N.nd.length) h;have h2:(N.nd.map Du).length=((List.range its.length).map _).length:=h1
 rwa [ψ,ψ,ωh] at h2
theorem Z2 {p:Prb} (hf:DW p) (hE:Ad p=0):SmO (rosS p) (ordP p):=by
 refine ⟨ωf (DK p) hf.i,fun x hx=>hf.x x (HX hx),F1 hE,fun x hx id hid=>?_,Md hE,fun x hx=>?_,?_⟩
 ·have h1:ordP p=sortO p.it:=θ hE;have h2:Ug (p.it.map AK.id) x=0:=Jc (Nv hE).2.2 _ (ν.2 ⟨x,HX hx,Z⟩)
  have h3:id∈p.it.map AK.id:=by
   unfold Ug at h2
   split at h2
   ·cases h2
   ·rename_i h4
    by_cases h5:id∈p.it.map AK.id
    ·exact h5
    ·exact absurd (List.any_eq_true.2 ⟨id,hid,by unfold J1;simpa using h5⟩) h4
  rw [h1];exact ((Qd p.it).map AK.id).mem_iff.2 h3
 ·have h1:x∈p.ro:=by
   obtain ⟨i,hi,rfl⟩:=ν.1 hx;have hi':=Θ.1 ((Y3 (p.ro.map Roo.r)).mem_iff.1 hi);rw [Bp DB (by simpa using hi')];exact κ _
  exact K0 (Nv hE).1 x h1
 ·unfold rosS;rw [ψ,(Y3 _).length_eq,ωh,ψ];exact hf.r
theorem Sm (p:Prb) (hf:DW p) (hE:Ad p≠0):AO Tryz.prog 95 [.d (Bq p)] (.tup [.sl (some true) [],.sl (some true) [],AF (Ad p)]):=by
 have hbu:=YS p hf hE;refine Az Tryz.func95 Z Z Tryz.ntmps95 Z Z Z fun F hF=>(AC (AE (V (CC 1 Z Z Z Z Z Z Z) (AB Z Z (AB Z Z (AB Z Z ?_))))));refine AD (Wi (AC (AE (J (BM Z Z B2 Z Z Z) (V (EW hbu Z [] trivial Z Z Z Z Z Z Z Z Z) (goMv Z Z (J (DD Z Z Z) (J (DD Z Z Z) ?_))))))));refine AB Z Z (AB Z Z (AD (AC (AC (AE (goMv Z Z (J (DX Z Z Z) (AD ?_))))))));refine DV Z ((by simpa using hE)) (AC (AE (goMv Z Z (AB Z Z (AB Z Z (AB Z Z (AD (A5 ?_))))))));exact ⟨_,[],[],A3 Z,Z,Z,Z,Z⟩
set_option maxHeartbeats 1000000 in
theorem Uh (p:Prb) (hf:DW p) (hE:Ad p=0):AO Tryz.prog 95 [.d (Bq p)] (.tup [.sl none ((BX (ordP p) (Js p).2 (ordP p).length).map AF),.sl none ((Js p).1.map bz),AF 0]):=by
 have hbu:=TT p hf hE;have hsm:=Z2 hf hE;unfold Js;rw [al] at hbu
 obtain ⟨its,hits⟩:∃its,ordP p=its:=⟨_,Z⟩
 obtain ⟨ros,hros⟩:∃ros,rosS p=ros:=⟨_,Z⟩
 rw [hits,hros] at hbu hsm⊢;have hl:=hsm.l;refine Az Tryz.func95 Z Z Tryz.ntmps95 Z Z Z fun F hF=>(AC (AE ?_));refine V (CC 1 Z Z Z Z Z Z Z) (AB Z Z (AB Z Z (AB Z Z (AD (Wi (AC (AE (J (BM Z Z B2 Z Z Z) ?_))))))));refine CY (Wm hbu Z [40,50,51] ⟨Z,Z,Z,trivial⟩ Z Z Z Z (fun r H' ⟨_,_,_,_,_,_,_,e1,e2,_⟩=>by subst e1 e2;exact ⟨Z,Z,Z⟩) Z) Z ?_;rintro _ ⟨r,H',⟨wb,mv,nb,pb,N,M,bs,rfl,rfl,hR,hN⟩,rfl⟩;refine goMv Z Z (J (DD Z Z Z) (J (DD Z Z Z) (AB Z Z (AB Z Z (AD ?_)))));refine AC (AC (AE (goMv Z Z (J (DX Z Z Z) (AD (EN Z (Z) (A1 (AC ?_))))))));have hids:BP N=its.map AK.id:=by rw [←Gi,hN,Pd]
 rw [hids];refine AE (AB Z Z (AD (AC (a_label (AC (A4 (O4 7 900 Z7 Z Z Z Z (B5 (α:=(Nat ->Bool)×Net×MF×List JH×Nat) (fun q=>⟨64,[(5,(.d (pD wb 0))),(7,(.own 900 0 q.2.2.2.1.length))],(900,[.rowD 245 9 (q.2.2.2.1.map bz)])::HW mv bs (Fa nb (its.map AK.id)) q.2.2.1⟩) (fun q=>Bx wb mv nb pb q.2.1 q.2.2.1∧Ap q.2.1=netS ros its q.1∧EL its.length q.1≤q.2.2.2.2∧q.2.2.2.1.length+q.2.2.2.2≤its.length∧q.2.2.2.1++(Ex ros its q.2.2.2.2 q.1).1=(Ex ros its its.length fun _=>true).1∧(Ex ros its q.2.2.2.2 q.1).2=(Ex ros its its.length fun _=>true).2) (fun q=>q.2.2.2.2) ((fun _=>true,N,M,[],its.length)) (⟨hR,hN,by show ((List.range its.length).filter _).length≤_;exact ωf (ωj _ _) (by simp),by simp,Z,Z⟩) (A0 hF [900,40,50,51] Z Z ⟨Z,Z,trivial⟩) ?_))))))));rintro ⟨on,N,M,acc,f⟩ ⟨hR,hN,hc,hal,hr1,hr2⟩;dsimp only at hR hN hc hal hr1 hr2⊢;refine A4 (AC ?_);have hw:=W_ers (N:=N) (by rw [hN];exact S_w hsm on);have hsb:=S_sumB hsm hN;have hids:BP N=its.map AK.id:=by rw [←Gi,hN,Pd]
 have hnx:=next_c bs hR hw hsb;rw [hids] at hnx;refine AE (goMv Z Z (V (EW hnx Z [40,50,51] ⟨Z,Z,Z,trivial⟩ Z Z Z Z Z Z Z Z Z) (goMv Z Z ?_)))
 cases hne:DO N
 ·refine J (DD Z Z Z) (J (DD Z Z Z) (V (CD 2 I7 Z Z Z Z) (V (Be Z Z Z Z Z Z Z JK) (AB Z Z (AD ?_)))));refine AC (AC (AE (goMv Z Z (J (O3 Z Z) (AD (DV Z (Z) (BC (AC ?_))))))));have hro:Ex ros its f on=([],on):=M9 (by rw [←hN,SE,hne]);rw [hro] at hr1 hr2;rw [ωl] at hr1;dsimp only at hr2;have hwb:=hR.w;have hnr:BF M N.nh aC 1 ((List.range N.nd.length).map fun i=>BG (nb i)):=hR.rs.1 .n;have hnz:=Ta hnr;rw [ωh] at hnz;have hNl:=S_len hN;refine AE (AB Z Z (AD (AC (AC (AE (goMv Z Z ?_))))));refine J (DE Z Z) (J (CQ Z IS Z Z Z) (J (Dn (f:=40) Z Z (hwb) Z Fz Z) (J (VF hnz Z Tryz.underlying175 Z) (goMv Z Z (AD (A4 (O4 10 901 BW Z Z Z Z (B5 (α:=Nat×List Int) (fun q=>⟨64,[(7,(.own 900 0 acc.length)),(10,(.own 901 0 q.2.length)),(43,(.d (hdr N.nh N.nd.length))),(44,(.d (AF (N.nd.length:Int)))),(45,(.d (AF (q.1:Int))))],(901,[.rowD 3 1 (q.2.map AF)])::(900,[.rowD 245 9 (acc.map bz)])::HW mv bs (Fa nb (its.map AK.id)) M⟩) (fun q=>q.1≤N.nd.length∧q.2=BX its on q.1) (fun q=>N.nd.length - q.1) ((0,[])) (⟨Δ _,Z⟩) (A0 hF [901,900,40,50,51] Z Z ⟨Z,Z,Z,Z,Z,trivial⟩) ?_))))))));rintro ⟨k,ids⟩ ⟨hk0,hI⟩;dsimp only at hk0 hI⊢;refine AC (AE (J (BV Z Z Z) (AD (AC (Ae Z (fun h46=>?_) (fun h46=>?_))))))
  ·have hk1:k<N.nd.length:=Bf h46;refine A1 (AC (A4 (AC ?_)))
   obtain ⟨x,hx⟩:∃x,N.nd[k]? =some x:=⟨_,ω hk1⟩
   obtain ⟨hiN,hoi,hit⟩:=MM hN hx;have hxb:=hR.n k x hx;obtain ⟨rb,rc,hre⟩:=Tj hnr (j:=k) (by rw [ωh];exact hk1);have hrow:=Qm hnr hre;have hidl:ids.length≤k:=by rw [hI];exact X4 its on k
   refine AE (J (VB hre (k) Z Z Z hk1 Tryz.underlying175 LI Z) (J (Zcx (f:=40) (e:=k) (off:=0) Z (by omega) Z (hrow) ((by rw [η,ψu hk1];rfl)) Z Mq Z) ?_));refine AB Z Z ?_;refine AD (AC (AE (goMv Z Z (J (DE Z Z) (J (CQ Z E4 Z Z Z) (J (Dn (f:=40) Z Z (hxb) Z on4 Z) (AD (KK Z (fun h52=>?_) (fun h52=>?_)))))))))
   ·refine AE (goMv Z Z (goMv Z Z (J (DE Z Z) (J (CQ Z F8 Z Z Z) (J (CQ Z OC Z Z Z) ?_)))));refine J (Dn (f:=40) Z Z (hxb) Z Aq Z) (V (D1 3 BW Z Z Z Z Z Z Z Z) (V (I0 (ids) ([x.it.id]) Z Z Z Z Z Z Z Z BW (by simp only [Ψ];omega) Z Z Z Z) (AB Z Z (AD (AE (J (Ay Z Z (AT (k+1) (by omega)) Z) (goMv Z Z (AD ?_))))))));exact ⟨(k+1,_),⟨by show k+1≤_;omega,by show _=BX its on (k+1);rw [Mp,θ (by rw [←hoi];simpa using h52),←hI,←hit]⟩,by show N.nd.length - (k+1)<N.nd.length - k;omega,A0 hF [901,900,40,50,51] Z (Z) ⟨Z,Z,Z,Z,Z,trivial⟩⟩
   ·refine A1 (AE (J (Ay Z Z (AT (k+1) (by omega)) Z) (goMv Z Z (AD ?_))));exact ⟨(k+1,_),⟨by show k+1≤_;omega,by show _=BX its on (k+1);rw [Mp,ϑ (by rw [←hoi];simpa using h52),ωl,←hI]⟩,by show N.nd.length - (k+1)<N.nd.length - k;omega,A0 hF [901,900,40,50,51] Z (Z) ⟨Z,Z,Z,Z,Z,trivial⟩⟩
  ·refine BC (AC ?_);have hke:k=its.length:=by have h:=h46;omega
   refine L3 (emb:=bz) 7 900 acc Z Z Z Z Z Z Z ?_;refine L3 (emb:=AF) 10 901 ids Z Z Z Z Z Z Z (AE (goMv Z Z (goMv Z Z (AB Z Z (AB Z Z (AB Z Z (AD (A5 ?_))))))));exact ⟨_,[],[],A3 Z,Z,Z,by rw [←hr2,←hr1,hI,hke],Z⟩
 ·refine J (DD Z Z Z) (J (DD Z Z Z) (V (CD 4 I7 Z Z Z Z) (V (Be Z Z Z Z Z Z Z JK) (AB Z Z (AD ?_)))));refine AC (AC (AE (goMv Z Z (J (O3 Z Z) (AD (EN Z (Z) (A1 (AC ?_))))))))
  rename_i e
  obtain ⟨i,x,hx,hon,hid⟩:=Pz hne;obtain ⟨hiN,hoi,hit⟩:=MM hN hx;rw [hon] at hoi;have hoi:=hoi.symm;have hil:i<(its.map AK.id).length:=by rw [ψ];exact hiN
  have hei:(its.map AK.id)[i]=e.id:=by rw [hid,hit,ωb,Bp itm0 hiN]
  have hby:=Q9 (nb:=nb) hsm.i hil;rw [hei] at hby;have hcn:=LB hiN hoi
  obtain ⟨f2,rfl⟩:∃f2,f=f2+1:=⟨f - 1,by omega⟩
  have hrs:Ex ros its (f2+1) on=(e::(Ex ros its f2 (A7 on i)).1,(Ex ros its f2 (A7 on i)).2):=by rw [M8 (by rw [←hN,SE,hne]),←hei,IM hsm.i hil]
  have hxm:=ζ hx;have hrm:=Zt hR hx hsb (hw.e x hxm) (hw.l x hxm).1 (hw.l x hxm).2.1 (fun e he=>(hw.p x hxm e he).2) hw.m;refine Cb [[],[0],[0,1],[0,1,2],[],[4],[0,1,2,3,4,5],[0,1,2,3,4,5,6]] mixed Z (Cr (AJ [5] [] Z Z (fun _=>AG (Aj Z Z)) (AJ [28] [] Z Z (fun _=>AG (DE Z Z)) ?_)));refine AJ [29] [] Z Z (fun _=>AG (CQ Z MA Z Z Z)) (AJ [30] [40] Z Z (fun _=>AG (Dn (f:=40) Z Z (hR.w) Z Vo Z)) (AJ [8] [] Z Z (fun _=>AG (AZ Z fi245_0 Z Z Z)) (AJ [32] [4] Z Z (fun _=>AG (A6 Z Z Z Aq Z)) (C3 6 Z Z Z (Aa 7 Z Z (DM 31 51 0 Z Z (J (HF (Fa nb (its.map AK.id)) e.id (.pointer none) (pV (nb i) 0) Z Z Z WC HE VJ hby Z) (AD ⟨Z,?_⟩))))))));refine Aa 8 Z Z ?_;refine CY (Wm hrm Z [40] ⟨Z,trivial⟩ Z Z Z Z (fun r H' ⟨e1,M',e2,_⟩=>by subst e1 e2;exact ⟨Z,Z,Z⟩) Z) Z ?_;rintro _ ⟨r,H',⟨rfl,M2,rfl,hR2⟩,rfl⟩;refine AD ⟨Z,?_⟩;refine C9 (AE (goMv Z Z (J (BM Z Z rw245 Z Z Z) (V (D1 5 Z7 Z Z Z Z Z Z Z Z) (V (I0 (acc) ([e]) Z Z Z Z Z Z Z Z Z7 (by simp only [Ψ];omega) Z Z Z Z) (AB Z Z (AD ?_)))))));exact ⟨(A7 on i,rmN N i x,M2,acc++ [e],f2),⟨hR2,rm_S hsm.r hN hiN hoi hx,by show EL its.length (A7 on i)≤f2;omega,by show (acc++ [e]).length+f2≤_;rw [ς];simp;omega,by show (acc++ [e])++(Ex ros its f2 (A7 on i)).1=_;rw [ψk,←hr1,hrs];rfl,by show (Ex ros its f2 (A7 on i)).2=_;rw [←hr2,hrs]⟩,by show f2<f2+1;omega,A0 hF [900,40,50,51] Z (Z) ⟨Z,Z,trivial⟩⟩
theorem Zh {γ:Type} (f:γ ->AP) {l m ys:List γ} (hn:(l.map f).Nodup) (hm:m.Perm l) (hms:m.Pairwise fun a b=>¬B9 (f b) (f a)<0) (h1:ys.Perm l) (h2:ys.Pairwise fun a b=>¬B9 (f b) (f a)<0):ys=m:=by
 have st:∀{k:List γ},(k.map f).Nodup ->(k.Pairwise fun a b=>¬B9 (f b) (f a)<0) ->k.Pairwise fun a b=>B9 (f a) (f b)<0:=fun {k} hn h=>by
  rw [List.Nodup,ψb] at hn;refine (h.and hn).imp fun {a b} ⟨g1,g2⟩=>?_;have h1:=MI.anti (f a) (f b);have h2:B9 (f a) (f b)≠0:=fun e=>g2 (DA.1 e);omega
 exact Zcw (R:=fun a b=>B9 (f a) (f b)<0) (fun x=>by rw [MI.refl];omega) (fun x y z=>MI.trans _ _ _) (st ((h1.map f).nodup_iff.2 hn) h2) (st ((hm.map f).nodup_iff.2 hn) hms) fun x=>by rw [h1.mem_iff,hm.mem_iff]
theorem Pj (rs:List AP):(Fu rs).Pairwise fun a b=>¬JD rs b a<0:=by
 have:=List.pairwise_mergeSort (le:=fun i j=>decide (JD rs i j≤0)) (fun a b c h1 h2=>?_) (fun a b=>?_) (List.range rs.length)
 ·refine List.Pairwise.imp (fun {a b} h=>?_) this;have h1:=(Pc rs).anti a b;have h2:JD rs a b≤0:=by simpa using h
  omega
 ·have h1':JD rs a b≤0:=by simpa using h1
  have h2':JD rs b c≤0:=by simpa using h2
  have:JD rs a c≤0:=by
   by_cases e1:JD rs a b=0
   ·rw [(Pc rs).eqv a b c e1];exact h2'
   ·by_cases e2:JD rs b c=0
    ·have a1:=(Pc rs).anti b c;have e3:=(Pc rs).eqv c b a (by omega);have a2:=(Pc rs).anti a c;have a3:=(Pc rs).anti a b;omega
    ·have:=(Pc rs).trans a b c (by omega) (by omega);omega
  simpa using this
 ·have h1:=(Pc rs).anti a b
  by_cases h:JD rs a b≤0
  ·simp [h]
  ·have:JD rs b a≤0:=by omega
   simp [this]
theorem Fv (p:Prb):(rosS p).Perm p.ro:=by
 unfold rosS;refine ((Y3 (p.ro.map Roo.r)).map _).trans (List.Perm.of_eq ?_);rw [ψ]
 apply χa (by simp)
 intro i h1 h2;simp only [ωb,ψp];exact Bp DB (by simpa using h2)
theorem LM (p:Prb):(rosS p).Pairwise fun a b=>¬B9 b.r a.r<0:=by
 unfold rosS;rw [ψb];refine φh (fun {a b} ha hb h=>?_) (Pj (p.ro.map Roo.r));have ha':=Θ.1 ((Y3 (p.ro.map Roo.r)).mem_iff.1 ha);have hb':=Θ.1 ((Y3 (p.ro.map Roo.r)).mem_iff.1 hb);unfold JD at h;rw [Ll (by simpa using hb'),Ll (by simpa using ha')] at h;exact h
theorem XS {p:Prb} (hp:(p.ro.map Roo.r).Nodup) {ys:List Roo} (h1:ys.Perm p.ro) (h2:ys.Pairwise fun a b=>¬B9 b.r a.r<0):ys=rosS p:=
 Zh Roo.r (l:=p.ro) hp (Fv p) (LM p) h1 h2
theorem Zk {p:Prb} (hp:Ad p=0) {ys:List Roo} (h1:ys.Perm p.ro) (h2:ys.Pairwise fun a b=>¬B9 b.r a.r<0):ys=rosS p:=XS (GY hp) h1 h2
theorem ST (p:Prb) (hf:DW p) (hE:Ad p≠0):AO Tryz.prog 39 [.d (Bq p)] (.tup [.sl (some true) [],AF (Ad p)]):=by
 have hx:=Sm p hf hE;refine Az Tryz.func39 Z Z Tryz.ntmps39 Z Z Z fun F hF=>(AC (AE (V (CC 1 Z Z Z Z Z Z Z) (AB Z Z (AB Z Z (AD (AC (AE ?_))))))));refine J (BM Z Z B2 Z Z Z) (J (B4 (hx) Z Z) (goMv Z Z (J (DD Z Z Z) (J (DD Z Z Z) (J (DD Z Z Z) (AB Z Z (AB Z Z (AB Z Z ?_))))))));refine AD (AC (AE (goMv Z Z (goMv Z Z (AB Z Z (AB Z Z (AD (A5 ?_))))))));exact ⟨_,[],[],A3 Z,Z,Z,Z,Z⟩
def largeS (p:Prb):List Int:=BX (ordP p) (Js p).2 (ordP p).length
theorem Iu (p:Prb) (hf:DW p) (hE:Ad p=0):AO Tryz.prog 39 [.d (Bq p)] (.tup [.sl none ((largeS p).map AF),AF 0]):=by
 have hx:=Uh p hf hE;refine Az Tryz.func39 Z Z Tryz.ntmps39 Z Z Z fun F hF=>(AC (AE (V (CC 1 Z Z Z Z Z Z Z) (AB Z Z (AB Z Z (AD (AC (AE ?_))))))));refine J (BM Z Z B2 Z Z Z) (J (B4 (hx) Z Z) (goMv Z Z (J (DD Z Z Z) (J (DD Z Z Z) (J (DD Z Z Z) (AB Z Z (AB Z Z (AB Z Z ?_))))))));refine AD (AC (AE (goMv Z Z (goMv Z Z (AB Z Z (AB Z Z (AD (A5 ?_))))))));exact ⟨_,[],[],A3 Z,Z,Z,Z,Z⟩
def Li (l:List Int) (x:Int):List Int:=l.filter fun y=>decide (y≠x)
def JY (its:List AK) (x:Roo) (l:List Int):Int:=max x.n 0+((its.filter fun i=>decide (i.id∈l)).map fun i=>Bg i x.r).sum
theorem cO (i:AK) (r:AP): -1000000000000000≤Bg i r∧Bg i r≤1000000000000000:=by
 unfold Bg
 split
 ·rename_i h
  have:=MH h.1 r
  simpa [Mx] using this
 ·omega
def blkR (its:List AK) (l:List Int) (id:Int) (x:Roo):Option JH:=if id∈qIds its x.r then (((qIds its x.r).takeWhile fun a=>decide (a≠id)).find? fun a=>decide (a∉l)).map fun a=>⟨id,1,x.r,a⟩ else none
def Ca (p:Prb) (l:List Int) (id:Int):Option JH:=match (rosS p).findSome? (blkR (sortO p.it) l id) with
 | some e=>some e
 | none=>((BK p id).af.find? fun a=>decide (a∉l)).map fun a=>⟨id,2,D5,a⟩
theorem Pf {α:Type} {p:α ->Bool}:∀{l:List α} {m:Nat} (hm:m<l.length),(∀a∈l.take m,p a=true) ->p l[m]=false ->l.takeWhile p=l.take m
 | a::l,0,_,_,h=>by simp at h;simp [h]
 | a::l,m+1,hm,h0,h=>by
  have h1:p a=true:=h0 a (by simp);have ih:=Pf (l:=l) (m:=m) (by simpa using hm) (fun x hx=>h0 x (by simp [hx])) (by simpa using h);rw [List.takeWhile_cons,h1,List.take_succ_cons,←ih];rfl
def Rn (its its0:List AK) (l:List Int) (x:Roo):Option JH:=if JY its0 x l<0 then ((qIds its x.r).reverse.find? fun a=>decide (a∈l)).map fun a=>⟨a,0,x.r,-1⟩ else none
def WA (p:Prb) (l:List Int):Option JH:=match l.findSome? (Ca p l) with
 | some e=>some e
 | none=>(rosS p).findSome? (Rn (sortO p.it) p.it l)
theorem YV {p:Prb} {l:List Int} {id:Int} {e:JH} (h:Ca p l id=some e):e.id=id:=by
 unfold Ca at h
 split at h
 ·rename_i e' h1
  injection h with h;subst h
  obtain ⟨x,_,h2⟩:=List.exists_of_findSome?_eq_some h1;unfold blkR at h2
  split at h2
  ·obtain ⟨a,_,rfl⟩:=Option.map_eq_some_iff.1 h2;rfl
  ·cases h2
 ·obtain ⟨a,_,rfl⟩:=Option.map_eq_some_iff.1 h;rfl
theorem Gd {α:Type} {p q:α ->Bool}:∀{l:List α},(∀x∈l,p x=q x) ->l.find? p=l.find? q
 | [],_=>rfl
 | a::l,h=>by
  rw [List.find?_cons,List.find?_cons,h a (ωk ..),Gd fun x hx=>h x (ωn _ hx)]
theorem Jd {α β:Type} {f g:α ->Option β}:∀{l:List α},(∀x∈l,f x=g x) ->l.findSome? f=l.findSome? g
 | [],_=>rfl
 | a::l,h=>by
  rw [φq,φq,h a (ωk ..),Jd fun x hx=>h x (ωn _ hx)]
theorem Kp {α β:Type} {f:α ->Option β} {p:α ->Bool}:∀{l:List α},(∀x∈l,p x=false ->f x=none) ->(l.filter p).findSome? f=l.findSome? f
 | [],_=>rfl
 | a::l,h=>by
  have ih:=Kp (f:=f) (p:=p) (l:=l) fun x hx=>h x (ωn _ hx);rw [ψv]
  cases hp:p a with
  | true=>rw [θ Z,φq,φq,ih]
  | false=>rw [ϑ (by simp),ih,φq,h a (ωk ..) hp]
theorem LU {α β γ:Type} {g:α ->β} {p:β ->Bool} {h:β ->γ}:∀{l:List α},((l.map g).find? p).map h=l.findSome? fun x=>if p (g x)=true then some (h (g x)) else none
 | []=>rfl
 | a::l=>by
  rw [ωm,List.find?_cons,φq]
  cases hp:p (g a) with
  | true=>rw [θ rfl];rfl
  | false=>rw [ϑ (by simp),←LU (l:=l)]
theorem Wd {x:AK} (h:BD x=0) {r:AP} (hr:BJ r=0):CB (dltS x) r=Bg x r:=by
 have h1:dltS x=Kx (ctr x):=θ h;have h2:Bg x r=Ai (ctr x) r:=θ ⟨h,hr⟩;rw [h1,h2]
 by_cases h0:Ai (ctr x) r=0
 ·rw [h0];refine EI fun hm=>?_;obtain ⟨d,hd,e⟩:=ν.1 hm;obtain ⟨h3,h4⟩:=(GJ _ _).1 hd;have h5:=(Et (ctr x) d.1 d.2).1 h3;rw [e,h0] at h5;exact h4 h5.2
 ·refine Zcb (by rw [←h1];exact Zcc x) ((GJ _ _).2 ⟨(Et _ _ _).2 ⟨?_,Z⟩,h0⟩)
  by_cases hm:r∈(ctr x).map Prod.fst
  ·exact hm
  ·exact absurd (EK hm) h0
theorem OK {l:List Roo} (h:EP l=0):∀x∈l,BJ x.r=0:=fun x hx=>by
 have h0:=Wo.1 h;obtain ⟨j,hj,rfl⟩:=ωt hx;have:=h0 j (Θ.2 hj);unfold OL at this;rw [Bp DB hj] at this
 split at this
 ·contradiction
 ·rename_i hv
  exact Classical.byContradiction fun h=>hv h
theorem OS {l:List AK} (h:Fj l=0):∀x∈l,BD x=0:=fun x hx=>by
 have h0:=Wo.1 h;obtain ⟨j,hj,rfl⟩:=ωt hx;have:=h0 j (Θ.2 hj);unfold OU at this;rw [Bp itm0 hj] at this
 split at this
 ·contradiction
 ·rename_i hv
  exact Classical.byContradiction fun h=>hv h
theorem q_ids {its:List AK} (hv:∀x∈its,BD x=0) {r:AP} (hr:BJ r=0):qIds its r=(negQ (its.map dltS) r).map fun i=>(its.getD i itm0).id:=by
 unfold qIds negQ
 have e:its=(List.range its.length).map fun i=>its.getD i itm0:=by
  apply χa (by simp)
  intro i h1 h2;simp only [ωb,ψp];rw [Bp itm0 h1]
 conv=>lhs;rw [e]
 rw [List.filter_map,ωr,ψ]
 congr 1
 refine χq fun i hi=>?_;have hi':=Θ.1 hi;show decide (Bg (its.getD i itm0) r<0)=_;rw [Bp [] (by simpa using hi'),ωb,Bp itm0 hi',Wd (hv _ (κ hi')) hr]
theorem Mo {its:List AK} (hn:(its.map AK.id).Nodup) (on:Nat ->Bool) {i:Nat} (hi:i<its.length):(its.getD i itm0).id∈BX its on its.length↔on i=true:=by
 unfold BX;rw [ν]
 constructor
 ·rintro ⟨j,hj,e⟩;obtain ⟨h1,h2⟩:=Ω.1 hj;have hj':=Θ.1 h1;rw [Bp itm0 hi,Bp itm0 hj'] at e
  have:j=i:=by
   have h3:(its.map AK.id)[j]'(by simpa using hj')=(its.map AK.id)[i]'(by simpa using hi):=by
    rw [ωb,ωb];exact e
   exact (List.getElem_inj hn).1 h3
  rw [←this];exact h2
 ·intro h;exact ⟨i,Ω.2 ⟨Θ.2 hi,h⟩,Z⟩
theorem psum {l m:List Int} (h:l.Perm m):l.sum=m.sum:=by
 induction h with
 | nil=>rfl
 | cons x _ ih=>rw [χd,χd,ih]
 | swap x y l=>simp only [χd];omega
 | trans _ _ h1 h2=>rw [h1,h2]
theorem VZ {α:Type} {p:α ->Bool} {f:α ->Int}:∀{l:List α},((l.filter p).map f).sum=(l.map fun i=>if p i=true then f i else 0).sum
 | []=>rfl
 | a::l=>by
  rw [ψv,ωm,χd,←VZ (l:=l)]
  cases hp:p a with
  | true=>rw [θ Z,θ Z,ωm,χd]
  | false=>rw [ϑ (by simp),ϑ (by simp),Int.zero_add]
theorem Qh {ros:List Roo} {its:List AK} {on:Nat ->Bool} {i:Nat} (h:i<its.length):(netS ros its on).nd.getD i Bc=Ke (ros.map Roo.r) its on i:=by
 show ((List.range its.length).map _).getD i Bc=_;rw [Bp Bc (by simpa using h),ωb,ψp]
theorem QA {ds:List (List (AP×Int))} {r:AP} {i:Nat} (h:i∈negQ ds r):i<ds.length:=Θ.1 (Ω.1 h).1
theorem Kj (its:List AK):its=(List.range its.length).map fun i=>its.getD i itm0:=by
 apply χa (by simp)
 intro i h1 h2;simp only [ωb,ψp];rw [Bp itm0 h1]
structure PVO (p:Prb) (ros:List Roo) (its:List AK):Prop where
 e:Ad p=0
 f:DW p
 s:SmO ros its
 hr:rosS p=ros
 hi:sortO p.it=its
 v:∀x∈its,BD x=0
 w:∀x∈ros,BJ x.r=0
 up:ros.Pairwise fun a b=>B9 a.r b.r<0
theorem pv_of {p:Prb} (hE:Ad p=0) (hf:DW p):PVO p (rosS p) (sortO p.it):=by
 have h1:ordP p=sortO p.it:=θ hE;have hs:=Z2 hf hE;rw [h1] at hs;refine ⟨hE,hf,hs,Z,Z,fun x hx=>OS (Nv hE).2.1 x ((Qd p.it).mem_iff.1 hx),fun x hx=>OK (Nv hE).1 x ((Fv p).mem_iff.1 hx),?_⟩;have hn:=hs.r;rw [List.Nodup,ψb] at hn;refine ((LM p).and hn).imp fun {a b} ⟨g1,g2⟩=>?_;have h1:=MI.anti a.r b.r;have h2:B9 a.r b.r≠0:=fun e=>g2 (DA.1 e);omega
theorem aN {p:Prb} {ros:List Roo} {its:List AK} (h:PVO p ros its) (on:Nat ->Bool) {x:Roo} (hx:x∈ros):JY p.it x (BX its on its.length)=max x.n 0+Ep (its.map dltS) on x.r:=by
 unfold JY
 congr 1
 have hp:p.it.Perm its:=by rw [←h.hi];exact (Qd p.it).symm
 rw [psum ((hp.filter _).map _)]
 obtain ⟨l,hl⟩:∃l,BX its on its.length=l:=⟨_,Z⟩
 rw [hl]
 have e:((its.filter fun i=>decide (i.id∈l)).map fun i=>Bg i x.r).sum=((List.range its.length).map fun i=>if decide ((its.getD i itm0).id∈l)=true then Bg (its.getD i itm0) x.r else 0).sum:=by
  conv=>lhs;rw [Kj its]
  rw [List.filter_map,ωr,VZ];rfl
 have hlen:(its.map dltS).length=its.length:=by simp
 rw [e];unfold Ep;rw [hlen]
 congr 1
 refine ωi fun i hi=>?_;have hi':=Θ.1 hi;have hon:=Mo h.s.i on hi';rw [hl] at hon;have hv:=Wd (h.v (its.getD i itm0) (by rw [Bp itm0 hi'];exact κ hi')) (h.w x hx);have hg:(its.map dltS).getD i []=dltS (its.getD i itm0):=by rw [Bp [] (by simpa using hi'),Bp itm0 hi',ωb]
 rw [hg,hv]
 by_cases ho:on i=true
 ·rw [θ ho,θ (ωc (hon.2 ho))]
 ·rw [ϑ ho,ϑ (by simpa using fun h=>ho (hon.1 h))]
theorem over_eq {p:Prb} {ros:List Roo} {its:List AK} (h:PVO p ros its) (on:Nat ->Bool) {x:Roo} (hx:x∈ros):Rn its p.it (BX its on its.length) x=Tf (netS ros its on) (aB (its.map dltS) on x):=by
 unfold Rn Tf;rw [aN h on hx]
 have hov:(ON (aB (its.map dltS) on x) (aB (its.map dltS) on x).sum=true)↔max x.n 0+Ep (its.map dltS) on x.r<0:=by
  unfold ON aftP aB;rw [ωs];dsimp only;have:(0:Int)≤max x.n 0:=Int.le_max_right _ _;omega
 by_cases hc:max x.n 0+Ep (its.map dltS) on x.r<0
 ·rw [θ hc,θ (hov.2 hc),q_ids h.v (h.w x hx),←List.map_reverse,List.find?_map];show Option.map _ (Option.map _ _)=Option.map _ ((negQ (its.map dltS) x.r).reverse.find? _)
  have e:(negQ (its.map dltS) x.r).reverse.find? ((fun a=>decide (a∈BX its on its.length))∘fun i=>(its.getD i itm0).id)=(negQ (its.map dltS) x.r).reverse.find? (onN (netS ros its on)):=Gd fun i hi=>by
   have hl:=QA (List.mem_reverse.1 hi);rw [ψ] at hl;show decide ((its.getD i itm0).id∈_)=onN _ i;unfold onN;rw [Qh hl];show _=on i;have:=Mo h.s.i on hl
   cases ho:on i with
   | true=>exact ωc (this.2 ho)
   | false=>exact ωp fun h=>by rw [this.1 h] at ho;cases ho
  rw [e]
  cases hf:(negQ (its.map dltS) x.r).reverse.find? (onN (netS ros its on)) with
  | none=>rfl
  | some i=>
   have hl:=QA (List.mem_reverse.1 (List.mem_of_find?_eq_some hf));rw [ψ] at hl;show some _=some _
   congr 1
   have hg:(netS ros its on).nd.getD i Bc=Ke (ros.map Roo.r) its on i:=Qh hl;show JH.mk (its.getD i itm0).id 0 x.r (-1)=JH.mk ((netS ros its on).nd.getD i Bc).it.id 0 x.r (-1);rw [hg];rfl
 ·rw [ϑ hc,ϑ fun h=>hc (hov.1 h)]
theorem Si {α:Type} (p:α ->Bool):∀(A:List α),A.find? p=A[A.findIdx p]?
 | []=>rfl
 | a::A=>by
  rw [List.find?_cons,List.findIdx_cons]
  cases hp:p a with
  | true=>rfl
  | false=>rw [Si p A];rfl
theorem dlt_ris (X:AK):(dltS X).Pairwise fun a b=>B9 a.1 b.1<0:=by
 unfold dltS
 split
 ·exact Jy (ctr X)
 ·exact List.Pairwise.nil
theorem pl_eq {p:Prb} {ros:List Roo} {its:List AK} (h:PVO p ros its) (ds:List (List (AP×Int))) (X:AK):plK (ros.map Roo.r) ds (dltS X)=(ros.filter fun x=>decide (CB (dltS X) x.r<0)).map fun x=>((ros.map Roo.r).idxOf x.r,(negQ ds x.r).length):=by
 have key:((dltS X).filter fun d=>decide (d.1∈ros.map Roo.r) && decide (d.2<0)).map Prod.fst=(ros.filter fun x=>decide (CB (dltS X) x.r<0)).map Roo.r:=by
  refine Zcw (R:=fun a b=>B9 a b<0) (fun x=>by rw [MI.refl];omega) (fun x y z=>MI.trans x y z) ?_ ?_ fun r=>?_
  ·rw [ψb];exact List.Pairwise.filter _ (dlt_ris X)
  ·rw [ψb];exact List.Pairwise.filter _ h.up
  ·constructor
   ·intro hr;obtain ⟨d,hd,rfl⟩:=ν.1 hr;obtain ⟨h1,h2⟩:=Ω.1 hd;rw [ωd,ωs,ωs] at h2;obtain ⟨x,hx,e⟩:=ν.1 h2.1;refine ν.2 ⟨x,Ω.2 ⟨hx,?_⟩,e⟩;have:CB (dltS X) d.1=d.2:=Zcb (Zcc X) h1;rw [e,this];exact ωc h2.2
   ·intro hr;obtain ⟨x,hx,rfl⟩:=ν.1 hr;obtain ⟨h1,h2⟩:=Ω.1 hx;have h2:=ωy h2
    have hk:x.r∈(dltS X).map Prod.fst:=Classical.byContradiction fun hn=>by
     have:CB (dltS X) x.r=0:=EI hn;omega
    obtain ⟨d,hd,e⟩:=ν.1 hk;have:CB (dltS X) d.1=d.2:=Zcb (Zcc X) hd;rw [e] at this;refine ν.2 ⟨d,Ω.2 ⟨hd,?_⟩,e⟩;rw [ωd,ωs,ωs];exact ⟨by rw [e];exact ν.2 ⟨x,h1,Z⟩,by omega⟩
 have e1:plK (ros.map Roo.r) ds (dltS X)=(((dltS X).filter fun d=>decide (d.1∈ros.map Roo.r) && decide (d.2<0)).map Prod.fst).map fun r=>((ros.map Roo.r).idxOf r,(negQ ds r).length):=by
  unfold plK;rw [ωr];rfl
 rw [e1,key,ωr];rfl
theorem aA {p:Prb} {ros:List Roo} {its:List AK} (h:PVO p ros its) (on:Nat ->Bool) {x:Roo} (hx:x∈ros):(netS ros its on).po.getD ((ros.map Roo.r).idxOf x.r) Bz=aB (its.map dltS) on x:=by
 obtain ⟨j,hj,rfl⟩:=ωt hx;have hj':j<(ros.map Roo.r).length:=by simpa using hj
 have e:(ros.map Roo.r).idxOf ros[j].r=j:=by
  have:=IM h.s.r hj';rw [ωb] at this;exact this
 rw [e];show (ros.map _).getD j Bz=_;rw [Bp Bz (by simpa using hj),ωb]
theorem QI {its:List AK} (hn:(its.map AK.id).Nodup) {i j:Nat} (hi:i<its.length) (hj:j<its.length) (h:(its.getD i itm0).id=(its.getD j itm0).id):i=j:=by
 rw [Bp itm0 hi,Bp itm0 hj] at h
 have h3:(its.map AK.id)[i]'(by simpa using hi)=(its.map AK.id)[j]'(by simpa using hj):=by
  rw [ωb,ωb];exact h
 exact (List.getElem_inj hn).1 h3
theorem Wc {p:Prb} {ros:List Roo} {its:List AK} (h:PVO p ros its) (on:Nat ->Bool) {i:Nat} (hi:i<its.length) {x:Roo} (hx:x∈ros):
  blkR its (BX its on its.length) (its.getD i itm0).id x=if CB (dltS (its.getD i itm0)) x.r<0 then (if badP (netS ros its on) ((ros.map Roo.r).idxOf x.r,(negQ ((its.map dltS).take i) x.r).length)=true then some (N6 (netS ros its on) (Ke (ros.map Roo.r) its on i) ((ros.map Roo.r).idxOf x.r,(negQ ((its.map dltS).take i) x.r).length)) else none) else none:=by
 have hdi:i<(its.map dltS).length:=by simpa using hi
 have hg:(its.map dltS).getD i []=dltS (its.getD i itm0):=by rw [Bp [] hdi,Bp itm0 hi,ωb]
 have hq:=q_ids h.v (h.w x hx);obtain ⟨B,c1,c2,c3⟩:=My hdi x.r;rw [hg] at c1
 have hin:(its.getD i itm0).id∈qIds its x.r↔CB (dltS (its.getD i itm0)) x.r<0:=by
  rw [hq,ν]
  constructor
  ·rintro ⟨j,hj,e⟩;have hjl:=QA hj;rw [ψ] at hjl;have:=QI h.s.i hjl hi e;subst this;have:=(Ω.1 hj).2;rw [hg] at this;exact ωy this
  ·intro ha;refine ⟨i,?_,Z⟩;rw [c1,θ ha];simp
 unfold blkR
 by_cases ha:CB (dltS (its.getD i itm0)) x.r<0
 ·rw [θ (hin.2 ha),θ ha];rw [θ ha] at c1
  obtain ⟨A,hA⟩:∃A,negQ ((its.map dltS).take i) x.r=A:=⟨_,Z⟩
  rw [hA] at c1 c2⊢
  have hQ:qIds its x.r=A.map (fun j=>(its.getD j itm0).id)++((its.getD i itm0).id::B.map fun j=>(its.getD j itm0).id):=by
   rw [hq,c1,ωe,List.singleton_append,ωm]
  have hAl:(A.map fun j=>(its.getD j itm0).id).length=A.length:=ψ _;have hlt:A.length<(qIds its x.r).length:=by rw [hQ,ς,hAl];simp
  have htk:(qIds its x.r).take A.length=A.map fun j=>(its.getD j itm0).id:=by rw [hQ,←hAl,List.take_left'];rfl
  have hat:(qIds its x.r)[A.length]=(its.getD i itm0).id:=by
   have:(qIds its x.r)[A.length]? =some (its.getD i itm0).id:=by
    rw [hQ,ωq (by omega),hAl,Nat.sub_self];rfl
   rw [ω hlt] at this;exact Option.some.inj this
  rw [Pf hlt (fun a ha=>by
   rw [htk] at ha;obtain ⟨j,hj,rfl⟩:=ν.1 ha;have:=c2 j hj
   exact ωc fun e=>by have:=QI h.s.i (by omega) hi e;omega) (by rw [hat];simp),htk,List.find?_map]
  have e1:A.find? ((fun a=>decide (a∉BX its on its.length))∘fun j=>(its.getD j itm0).id)=A.find? fun j=>!on j:=Gd fun j hj=>by
   have hjl:j<its.length:=by have:=c2 j hj;omega
   have:=Mo h.s.i on hjl;show decide ((its.getD j itm0).id∉_)=!on j
   cases ho:on j with
   | true=>exact ωp fun hn=>hn (this.2 ho)
   | false=>exact ωc fun hn=>by rw [this.1 hn] at ho;cases ho
  rw [e1,Si]
  have hmi:((netS ros its on).po.getD ((ros.map Roo.r).idxOf x.r) Bz).mi=if A.findIdx (fun j=>!on j)<A.length then A.findIdx fun j=>!on j else (([i]:List Nat)++B).findIdx (fun j=>!on j)+A.length:=by
   rw [aA h on hx];show bB on (negQ (its.map dltS) x.r)=_;unfold bB;rw [c1,Hh]
  have hpq:((netS ros its on).po.getD ((ros.map Roo.r).idxOf x.r) Bz).q=negQ (its.map dltS) x.r:=by rw [aA h on hx];rfl
  have hpr:((netS ros its on).po.getD ((ros.map Roo.r).idxOf x.r) Bz).r=x.r:=by rw [aA h on hx];rfl
  unfold badP N6;dsimp only;rw [hmi,hpq,hpr]
  by_cases hm:A.findIdx (fun j=>!on j)<A.length
  ·rw [θ hm,θ (ωc hm),ω hm];have hjm:=κ hm;have hjl:A[A.findIdx fun j=>!on j]<its.length:=by have:=c2 _ hjm;omega
   have e2:(negQ (its.map dltS) x.r).getD (A.findIdx fun j=>!on j) 0=A[A.findIdx fun j=>!on j]:=by
    rw [c1,ϱ,ψa hm,ω hm];rfl
   rw [e2,Qh hjl];rfl
  ·rw [ϑ hm,ϑ (by simp),ωv (by omega)];rfl
 ·rw [ϑ (fun hh=>ha (hin.1 hh)),ϑ ha]
theorem ci {p:Prb} {ros:List Roo} {its:List AK} (h:PVO p ros its) (on:Nat ->Bool) {i:Nat} (hi:i<its.length):Ca p (BX its on its.length) (its.getD i itm0).id=F6 (netS ros its on) (Ke (ros.map Roo.r) its on i):=by
 have hXm:its.getD i itm0∈its:=by rw [Bp itm0 hi];exact κ hi
 have hXp:its.getD i itm0∈p.it:=by rw [←h.hi] at hXm;rw [←h.hi];exact (Qd p.it).mem_iff.1 hXm
 have e1:ros.findSome? (blkR its (BX its on its.length) (its.getD i itm0).id)=((plK (ros.map Roo.r) ((its.map dltS).take i) (dltS (its.getD i itm0))).find? (badP (netS ros its on))).map (N6 (netS ros its on) (Ke (ros.map Roo.r) its on i)):=by
  rw [pl_eq h,LU,←Kp (p:=fun x=>decide (CB (dltS (its.getD i itm0)) x.r<0)) (fun x hx hp=>by rw [Wc h on hi hx,ϑ (of_decide_eq_false hp)])];refine Jd fun x hx=>?_;obtain ⟨h1,h2⟩:=Ω.1 hx;rw [Wc h on hi h1,θ (ωy h2)]
 have e2:BK p (its.getD i itm0).id=its.getD i itm0:=by
  obtain ⟨hk,_,h2,h3⟩:=NK (p:=p) (id:=(its.getD i itm0).id) (ν.2 ⟨_,hXp,Z⟩);refine WS (dI (Nv h.e).2.1) (by rw [h2];exact κ hk) hXp h3
 have e3:(its.getD i itm0).af.find? (fun a=>decide (a∉BX its on its.length))=(its.getD i itm0).af.find? (offOf (netS ros its on)):=Gd fun a ha=>by
  have hm:=h.s.a _ hXm a ha;have hj:=ψo hm;have hja:=φa hj;unfold offOf;rw [Pd]
  generalize (its.map AK.id).idxOf a=j at hj hja⊢
  have hj':j<its.length:=by simpa using hj
  rw [ωb] at hja;rw [Qh hj'];show _=!on j;have:=Mo h.s.i on hj';rw [Bp itm0 hj',hja] at this
  cases ho:on j with
  | true=>exact ωp fun hn=>hn (this.2 ho)
  | false=>exact ωc fun hn=>by rw [this.1 hn] at ho;cases ho
 unfold Ca;rw [h.hr,h.hi,e1,e2,e3];unfold F6
 show _=match (plK (ros.map Roo.r) ((its.map dltS).take i) (dltS (its.getD i itm0))).find? (badP (netS ros its on)) with
  | some e=>some (N6 (netS ros its on) (Ke (ros.map Roo.r) its on i) e)
  | none=>match (its.getD i itm0).af.find? (offOf (netS ros its on)) with
   | some id=>some ⟨(its.getD i itm0).id,2,D5,id⟩
   | none=>none
 cases (plK (ros.map Roo.r) ((its.map dltS).take i) (dltS (its.getD i itm0))).find? (badP (netS ros its on)) with
 | some e=>rfl
 | none=>
  show ((its.getD i itm0).af.find? (offOf (netS ros its on))).map _=_
  cases (its.getD i itm0).af.find? (offOf (netS ros its on))<;>rfl
theorem next_eq {p:Prb} {ros:List Roo} {its:List AK} (h:PVO p ros its) (on:Nat ->Bool):WA p (BX its on its.length)=DO (netS ros its on):=by
 have e1:(BX its on its.length).findSome? (Ca p (BX its on its.length))=(netS ros its on).nd.findSome? (ndX (netS ros its on)):=by
  show (((List.range its.length).filter on).map fun i=>(its.getD i itm0).id).findSome? _=((List.range its.length).map _).findSome? _;rw [List.findSome?_map,List.findSome?_map]
  rw [←Kp (p:=on) (l:=List.range its.length) (f:=ndX (netS ros its on)∘Ke (ros.map Roo.r) its on) (fun i _ ho=>by
   show ndX _ (Ke _ _ _ i)=none;unfold ndX;rw [ϑ];show ¬(on i=true)
   rw [ho];simp)]
  refine Jd fun i hi=>?_;obtain ⟨h1,h2⟩:=Ω.1 hi;show Ca p _ (its.getD i itm0).id=ndX _ (Ke _ _ _ i);rw [ci h on (Θ.1 h1)];unfold ndX;rw [θ];exact h2
 have e2:ros.findSome? (Rn its p.it (BX its on its.length))=(netS ros its on).po.findSome? (Tf (netS ros its on)):=by
  show _=(ros.map _).findSome? _;rw [List.findSome?_map];exact Jd fun x hx=>over_eq h on hx
 unfold WA DO;rw [h.hr,h.hi,e1,e2]
 cases (netS ros its on).nd.findSome? (ndX (netS ros its on))<;>rfl
theorem Qw {its:List AK} (hn:(its.map AK.id).Nodup) (on:Nat ->Bool) {i:Nat} (hi:i<its.length):Li (BX its on its.length) (its.getD i itm0).id=BX its (A7 on i) its.length:=by
 unfold Li BX;rw [List.filter_map,List.filter_filter]
 congr 1
 refine χq fun j hj=>?_;have hj':=Θ.1 hj;show (decide ((its.getD j itm0).id≠(its.getD i itm0).id) && on j)=A7 on i j
 by_cases e:j=i
 ·subst e;rw [Ee];simp
 ·have hne:(its.getD j itm0).id≠(its.getD i itm0).id:=fun h=>e (QI hn hj' hi h);rw [Zcm e,ωc hne,Bool.true_and]
def FewQ (p:Prb) (n:Nat):Prop:=p.it.length≤n∧p.ro.length≤30∧∀i∈p.it,i.po.length≤8∧i.pa.length≤8∧i.af.length≤8
instance (p:Prb) (n:Nat):Decidable (FewQ p n):=inferInstanceAs (Decidable (_∧_∧∀i∈p.it,_))
def LW (p:Prb) (l:List Int):Prop:=(∀id∈l,Ca p l id=none)∧∀x∈p.ro,¬JY p.it x l<0
noncomputable instance (p:Prb) (l:List Int):Decidable (LW p l):=Classical.propDecidable _
theorem ak (ros:List Roo) (its:List AK) (on:Nat ->Bool):Ap (netS ros its on)=netS ros its on:=by
 unfold Ap netS;dsimp only;rw [ωr,ωr];rfl
theorem next_at {ros:List Roo} {its:List AK} (hn:(its.map AK.id).Nodup) {on:Nat ->Bool} {e:JH} (h:DO (netS ros its on)=some e):∃i,i<its.length∧on i=true∧(its.getD i itm0).id=e.id∧(its.map AK.id).idxOf e.id=i:=by
 obtain ⟨i,x,hx,hon,hid⟩:=Pz h;obtain ⟨hi,ho,hit⟩:=MM (ak ros its on) hx;have hei:(its.getD i itm0).id=e.id:=by rw [hid,hit]
 refine ⟨i,hi,by rw [←ho];exact hon,hei,?_⟩;have h1:=IM hn (i:=i) (by simpa using hi);rw [ωb] at h1;rw [←hei,Bp itm0 hi];exact h1
theorem cX (n:Nat) (on:Nat ->Bool):EL n on≤n:=by
 unfold EL;exact ωf (ωj _ _) (by simp)
theorem Uu {p:Prb} {l t:List Int} {id:Int} (hs:∀x∈t,x∈l) (h:Ca p t id=none):Ca p l id=none:=by
 unfold Ca at h⊢
 cases h1:(rosS p).findSome? (blkR (sortO p.it) t id) with
 | some e=>rw [h1] at h;cases h
 | none=>
  rw [h1] at h
  have h2:(rosS p).findSome? (blkR (sortO p.it) l id)=none:=Hc fun x hx=>by
   have h3:=List.findSome?_eq_none_iff.1 h1 x hx;unfold blkR at h3⊢
   split
   ·rename_i hq
    rw [θ hq] at h3
    have h4:((qIds (sortO p.it) x.r).takeWhile fun a=>decide (a≠id)).find? (fun a=>decide (a∉t))=none:=by
     cases hf:((qIds (sortO p.it) x.r).takeWhile fun a=>decide (a≠id)).find? (fun a=>decide (a∉t)) with
     | none=>rfl
     | some a=>rw [hf] at h3;cases h3
    rw [IQ (fun a ha=>by
     have:=List.find?_eq_none.1 h4 a ha
     simp at this
     simpa using hs a this)];rfl
   ·rfl
  rw [h2];dsimp only at h⊢
  have h5:(BK p id).af.find? (fun a=>decide (a∉t))=none:=by
   cases hf:(BK p id).af.find? (fun a=>decide (a∉t)) with
   | none=>rfl
   | some a=>rw [hf] at h;cases h
  rw [IQ (fun a ha=>by
   have:=List.find?_eq_none.1 h5 a ha
   simp at this
   simpa using hs a this)];rfl
theorem Ro {x:Roo} {l t:List Int} (hs:∀y∈t,y∈l):∀{its:List AK},(∀i∈its,i.id∈l ->i.id∉t ->0≤Bg i x.r) ->JY its x t≤JY its x l
 | [],_=>Int.le_refl _
 | a::its,h=>by
  have ih:=Ro hs (its:=its) fun i hi=>h i (ωn _ hi);have ha:=h a (ωk ..);unfold JY at ih⊢;rw [ψv,ψv]
  by_cases h1:a.id∈t
  ·rw [θ (ωc h1),θ (ωc (hs _ h1))];simp only [ωm,χd];omega
  ·rw [ϑ (by simpa using h1)]
   by_cases h2:a.id∈l
   ·rw [θ (ωc h2)];have:=ha h2 h1;simp only [ωm,χd];omega
   ·rw [ϑ (by simpa using h2)];exact ih
theorem ac {p:Prb} (hE:Ad p=0) {l t:List Int} (ht:LW p t) (hs:∀y∈t,y∈l) {e:JH} (hn:WA p l=some e):e.id∉t:=fun het=>by
 unfold WA at hn
 split at hn
 ·rename_i e' h1
  injection hn with hn;subst hn
  obtain ⟨id,hid,h2⟩:=List.exists_of_findSome?_eq_some h1;have h3:=YV h2;rw [h3] at het;rw [Uu hs (ht.1 id het)] at h2;cases h2
 ·obtain ⟨x,hx,h2⟩:=List.exists_of_findSome?_eq_some hn;have hxp:=(Fv p).mem_iff.1 hx;unfold Rn at h2
  split at h2
  ·rename_i ho
   obtain ⟨a,ha,rfl⟩:=Option.map_eq_some_iff.1 h2;dsimp only at het;obtain ⟨hal,u,v,huv,hu⟩:=List.find?_eq_some_iff_append.1 ha
   have hQ:qIds (sortO p.it) x.r=v.reverse++a::u.reverse:=by
    have:=Γ List.reverse huv;rw [List.reverse_reverse,List.reverse_append,List.reverse_cons,ψk] at this;exact this
   have hQn:(qIds (sortO p.it) x.r).Nodup:=by
    have h1:((sortO p.it).map AK.id).Nodup:=((Qd p.it).map AK.id).nodup_iff.2 (dI (Nv hE).2.1);unfold qIds;exact h1.sublist ((ψq).map AK.id)
   have hav:a∉v.reverse:=fun hm=>by
    rw [hQ,χo] at hQn;exact hQn.2.2 _ hm _ (ωk ..) rfl
   have hblk:=ht.1 a het
   have hall:∀b∈v.reverse,b∈t:=fun b hb=>by
    unfold Ca at hblk
    cases h1:(rosS p).findSome? (blkR (sortO p.it) t a) with
    | some e=>rw [h1] at hblk;cases hblk
    | none=>
     have h3:=List.findSome?_eq_none_iff.1 h1 x hx;unfold blkR at h3;rw [θ (by rw [hQ];simp)] at h3;have hlt:v.reverse.length<(qIds (sortO p.it) x.r).length:=by rw [hQ,ς];simp
     have htk:(qIds (sortO p.it) x.r).take v.reverse.length=v.reverse:=by rw [hQ,List.take_left'];rfl
     have hat:(qIds (sortO p.it) x.r)[v.reverse.length]=a:=by
      have:(qIds (sortO p.it) x.r)[v.reverse.length]? =some a:=by
       rw [hQ,ωq (ϖ _),Nat.sub_self];rfl
      rw [ω hlt] at this;exact Option.some.inj this
     rw [Pf hlt (fun c hc=>by rw [htk] at hc;exact ωc fun e=>hav (e▸hc)) (by rw [hat];simp),htk] at h3
     have h4:v.reverse.find? (fun a=>decide (a∉t))=none:=by
      cases hf:v.reverse.find? (fun a=>decide (a∉t)) with
      | none=>rfl
      | some c=>rw [hf] at h3;cases h3
     have:=List.find?_eq_none.1 h4 b hb
     simpa using this
   have hle:=Ro (x:=x) hs (its:=p.it) fun i hi h1 h2=>Classical.byContradiction fun hneg=>by
    have hq:i.id∈qIds (sortO p.it) x.r:=ν.2 ⟨i,Ω.2 ⟨(Qd p.it).mem_iff.2 hi,by simpa using hneg⟩,Z⟩;rw [hQ] at hq;rcases υ.1 hq with hq | hq
    ·exact h2 (hall _ hq)
    ·rcases Φ.1 hq with hq | hq
     ·rw [hq] at h2;exact h2 het
     ·have:=hu _ (List.mem_reverse.1 hq)
      simp at this
      exact this h1
   exact ht.2 x hxp (by omega)
  ·cases h2
theorem Xn {p:Prb} (hE:Ad p=0) (hf:DW p) {t:List Int} (ht:LW p t) (hs:∀y∈t,y∈p.it.map AK.id):∀y∈t,y∈largeS p:=by
 have h:=pv_of hE hf;have h1:ordP p=sortO p.it:=θ hE
 have key:∀(f:Nat) (on:Nat ->Bool),(∀y∈t,y∈BX (sortO p.it) on (sortO p.it).length) ->∀y∈t,y∈BX (sortO p.it) (Ex (rosS p) (sortO p.it) f on).2 (sortO p.it).length:=by
  intro f
  induction f with
  | zero=>intro on ho;exact ho
  | succ f ih=>
   intro on ho
   cases hne:DO (netS (rosS p) (sortO p.it) on) with
   | none=>rw [M9 hne];exact ho
   | some e=>
    obtain ⟨i,hi,_,hei,hx⟩:=next_at h.s.i hne;rw [M8 hne,hx];refine ih (A7 on i) fun y hy=>?_;have hnt:=ac hE ht ho (by rw [next_eq h];exact hne);rw [←Qw h.s.i on hi,hei];exact Ω.2 ⟨ho y hy,ωc fun e2=>hnt (e2▸hy)⟩
 unfold largeS Js;rw [h1];refine key _ _ fun y hy=>?_
 have h2:BX (sortO p.it) (fun _=>true) (sortO p.it).length=(sortO p.it).map AK.id:=by
  conv=>rhs;rw [Kj (sortO p.it)]
  unfold BX;rw [ωr,List.filter_eq_self.2 (fun _ _=>rfl)];rfl
 rw [h2];exact ((Qd p.it).map AK.id).mem_iff.2 (hs y hy)
def rsP (p:Prb):List AP:=p.ro.map Roo.r
def dR (rs:List AP) (i:AK):List (AP×Int):=(dltS i).filter fun d=>decide (d.1∈rs)
theorem cT (rs:List AP) (i:AK):((dR rs i).map Prod.fst).Nodup:=List.Nodup.sublist (List.Sublist.map _ ψq) (Zcc i)
theorem Db {α β:Type} [DecidableEq α] {O:List (α×β)} {x:α} {v:β} (h:x∉O.map Prod.fst):Au O x v=O++ [(x,v)]:=by
 induction O with
 | nil=>rfl
 | cons a l ih=>
  obtain ⟨k,b⟩:=a;simp only [ωm,Φ,not_or] at h;simp only [Au,φc];rw [ϑ h.1,ih h.2]
theorem G2 {M:MF} {b:Nat} {x y:Ab}:BO (BO M b x) b y=BO M b y:=by
 funext i
 by_cases h:i=b
 ·rw [h,EX,EX]
 ·rw [FP h,FP h,FP h]
theorem PJ {M:MF} {b:Nat} {x:Ab} (h:M b=some x):BO M b x=M:=by
 funext i
 by_cases e:i=b
 ·rw [e,EX,h]
 ·rw [FP e]
theorem Lu {α:Type} {l:List α} (hn:l.Nodup) {j:Nat} (hj:j<l.length):l[j]∉l.take j:=fun h=>by
 rw [←φf j l,χo] at hn;exact hn.2.2 _ h _ (by rw [χg hj];exact ωk ..) rfl
abbrev WF:FuncId:=119
structure I6 (N:MF) (b:Nat) (l:List Int):Prop where
 ex:∃m,N b=some (.cells 137 [mD m])∧N m=some (.map none (BN AF Ag (As l)))
abbrev Wv (b:Nat):D:= .fn WF [] [pD b 0]
theorem Fo (l:List Int) (hn:l.Nodup) (hl:l.length≤1000000):AM Tryz.prog 66 [.d (.sl none (l.map AF))] [] fun r H'=>∃b N,r= .d (Wv b)∧H'=[(41,[.multi N])]∧I6 N b l:=by
 refine Az Tryz.func66 Z Z Tryz.ntmps66 Z Z Z fun F hF=>(AC (AE (AB Z Z (AD ?_))));refine AC (Gl 41 Z Z Z (AE (V (Pb 1 Z Z Z Z) (PE 6 1 41 hF Z Z Z Z Z Z Z Z Z Z (fun _=>rfl) fun m hm=>(Ls 41 m Z (EX _ _ _) Z (V (CD 2 zl137 Z Z Z Z) (V (Be Z Z Z Z Z Z Z sz137) (AD ?_))))))));refine AC (AC (AE (goMv Z Z (J (CM Z Tryz.underlying28 Z) (goMv Z Z (AD (A4 (B5 (α:=Nat×MF) (fun q=>⟨17,[(3,(.ptr 2 0 0)),(7,(.d (.sl none (l.map AF)))),(8,(.d (AF (l.length:Int)))),(9,(.d (AF (q.1:Int))))],[(2,[.blk 137 [.d (mD m)]]),(41,[.multi q.2])]⟩) (fun q=>q.1≤l.length∧q.2 m=some (.map none (BN AF Ag (As (l.take q.1))))) (fun q=>l.length - q.1) ((0,_)) (⟨Δ _,EX _ _ _⟩) (A0 hF [2,41] Z Z ⟨Z,Z,Z,Z,trivial⟩) ?_))))))));rintro ⟨k,N⟩ ⟨hk,hN⟩;dsimp only at hk hN⊢;refine AC (AE (J (BV Z Z Z) (AD (AC (Ae Z (fun h10=>?_) (fun h10=>?_))))))
 ·refine A1 (AC (A4 (AC ?_)));have hkl:k<l.length:=Bf h10;refine AE (J (Bk (k) Z Z (Z) (Ah hkl) Tryz.underlying28 Z BA Z) (J (D0 Z Z Aq Z) (AB Z Z (AD ?_))));refine AE (J (A6 Z Z Z Rt Z) (goMv Z Z (V (RN (f:=41) (As (l.take k)) l[k] true Z Z hN Z EU HE Z Z) (AD (AE (J (Ay Z Z (AT (k+1) (by omega)) Z) (goMv Z Z (AD ?_))))))));exact ⟨(k+1,_),⟨hkl,by show BO _ _ _ _=_;rw [EX,φ hkl,dH (Lu hn hkl)]⟩,by show l.length - (k+1)<l.length - k;omega,A0 hF [2,41] Z (Z) ⟨Z,Z,Z,Z,trivial⟩⟩
 ·refine BC (AC ?_);have hke:k=l.length:=by have:=h10;omega
  rw [hke,ωw] at hN;refine Y8 (ds:=[mD m]) 3 2 41 hF Z Z Z Z Z Z Z Z Z Z Z (fun _=>rfl) fun b hb=>(AE (J (T8 (ds:=[]) (es:=[pD b 0]) Z Z Z Z Z) (AB Z Z (AD (A5 ?_)))));exact ⟨_,[41],_,A3 Z,Z,Z,b,_,Z,Z,⟨m,EX _ _ _,by rw [FP (fun e=>by rw [e,hb] at hN;cases hN)];exact hN⟩⟩
theorem Hw {N:MF} {b:Nat} {l:List Int} (h:I6 N b l) (id:Int):AM Tryz.prog WF [.d (AF id),.d (pD b 0)] [(41,[.multi N])] fun r H'=>r= .d (Ag (decide (id∈l)))∧H'=[(41,[.multi N])]:=by
 obtain ⟨m,h1,h2⟩:=h;refine Az Tryz.func119 Z Z Tryz.ntmps119 Z Z Z fun F hF=>(AC (AE (AB Z Z ?_)));refine AD (AC (AE (J (Dn (f:=41) Z Z h1 Z Rt Z) (goMv Z Z (J (RP (f:=41) (As l) id false _ Z Z h2 Z EU HE Te (Wq l id) Z) (AB Z Z (AD (A5 ?_))))))));exact ⟨_,[41],_,A3 Z,Z,Z,Z,Z⟩
theorem YR (p:Prb) (l:List Int) (hb:Eb p) (hl:l.length≤100000) (h1000:p.it.length≤1000):AO Tryz.prog 64 [.d (Bq p),.d (.sl none (l.map AF))] (AF (DU p l)):=by
 refine Az Tryz.func64 Z Z Tryz.ntmps64 Z Z Z fun F hF=>(AC (AE (V (CC 1 Z Z Z Z Z Z Z) (AB Z Z ?_))));refine AD (AC (AE (J (BM Z Z B2 Z Z Z) (goMv Z Z (J (B4 (Yv p l hb hl h1000) Z Z) (goMv Z Z (J (DD Z Z Z) (J (DD Z Z Z) ?_))))))));refine AB Z Z (AB Z Z (AD (AC (AE (goMv Z Z (AB Z Z (AD (A5 ?_))))))));exact ⟨_,[],[],A3 Z,Z,Z,Z,Z⟩
abbrev Cg (e:AK×Nat):D:= .agg [AF e.1.id,AF e.1.pr,AF e.1.sq,.sl none (e.1.po.map CF),.sl none (e.1.pa.map Ff),.sl none (e.1.af.map AF),mD e.2]
abbrev Lb (m:List (AP×Int)):List (D×D):=BN CV AF m
def Y5 (rs:List AP) (M:MF) (E:List (AK×Nat)):Prop:=∀e∈E,M e.2=some (.map none (Lb (dR rs e.1)))
theorem Y5.add {rs:List AP} {M:MF} {E:List (AK×Nat)} (h:Y5 rs M E) {i:AK} {b:Nat} (hb:M b=none):Y5 rs (BO M b (.map none (Lb (dR rs i)))) (E++ [(i,b)]):=fun e he=>by
 rcases υ.1 he with he | he
 ·rw [FP (fun e2=>by have:=h e he;rw [e2,hb] at this;cases this)];exact h e he
 ·rw [ξ.1 he,EX]
def dK (rs:List AP) (i:AK) (j:Nat):List (AP×Int):=((dltS i).take j).filter fun d=>decide (d.1∈rs)
theorem dK_end (rs:List AP) (i:AK):dK rs i (dltS i).length=dR rs i:=by unfold dK dR;rw [ωw]
theorem dK_hit {rs:List AP} {i:AK} {j:Nat} (hj:j<(dltS i).length) (h:((dltS i)[j]).1∈rs):Au (dK rs i j) ((dltS i)[j]).1 ((dltS i)[j]).2=dK rs i (j+1):=by
 have hn:=Zcc i
 have hf:((dltS i)[j]).1∉(dK rs i j).map Prod.fst:=fun hm=>by
  obtain ⟨d,hd,e⟩:=ν.1 hm;have h1:d∈(dltS i).take j:=(Ω.1 hd).1;have h2:((dltS i)[j]).1∈((dltS i).map Prod.fst).take j:=by rw [←List.map_take,←e];exact χv h1
  have h3:=Lu hn (j:=j) (by rw [ψ];exact hj);rw [ωb] at h3;exact h3 h2
 rw [Db hf];unfold dK;rw [φ hj,ψc]
 simp [h]
theorem dK_miss {rs:List AP} {i:AK} {j:Nat} (hj:j<(dltS i).length) (h:((dltS i)[j]).1∉rs):dK rs i (j+1)=dK rs i j:=by
 unfold dK;rw [φ hj,ψc]
 simp [h]
def Sr (a b:AK):Int:=if Fy a b<0 then -1 else 1
theorem Sq {a b:AK}:Sr a b<0↔Fy a b<0:=by
 unfold Sr
 by_cases h:Fy a b<0
 ·rw [θ h];exact ⟨fun _=>h,fun _=>by decide⟩
 ·rw [ϑ h];exact ⟨fun h2=>absurd h2 (by decide),fun h2=>absurd h2 h⟩
theorem cE:Go.Sort.SWO (ltOf Sr):=by
 have e:ltOf Sr=ltOf Fy:=by
  funext a b
  exact decide_eq_decide.2 Sq
 rw [e];exact DL.swo
theorem Ui (a b:AK):AO Tryz.prog 116 [.d (Ao a),.d (Ao b)] (AF (Sr a b)):=by
 refine Az Tryz.func116 Z Z Tryz.ntmps116 Z Z Z fun F hF=>(AC (AE (V (CC 1 Z Z Z Z Z Z Z) (V (CC 2 Z Z Z Z Z Z Z) (AB Z Z ?_)))));refine AD (AC (AC (AE (J (BM Z Z By Z Z Z) (J (BM Z Z By Z Z Z) (J (B4 (cp a b) Z Z) (AD (Ae Z (fun h7=>?_) (fun h7=>?_)))))))))
 ·refine AC (AE (AB Z Z (AD (A5 ?_))));exact ⟨_,[],[],A3 Z,Z,Z,Ac (by unfold Sr;rw [θ h7]),Z⟩
 ·refine A1 (AC (AE (AB Z Z (AD (A5 ?_)))));exact ⟨_,[],[],A3 Z,Z,Z,Ac (by unfold Sr;rw [ϑ h7]),Z⟩
theorem YN (l:List AK) (hl:l.length≤1000000):AM Tryz.prog 114 [.d (.sl none (l.map Ao))] [] fun r H'=>r= .own 20 0 l.length∧H'=[(20,[.rowD 55 6 (l.map Ao)])]:=by
 refine Az Tryz.func114 Z Z Tryz.ntmps114 Z Z Z fun F hF=>(AC (AE (AB Z Z ?_)));skip;refine AD (AC (AC (AE (goMv Z Z (FE 3 Z (fun h0=>?_) ?_)))))
 ·refine J (Dr Tryz.underlying37 Z Z) (AD (DV Z (Z) (AC (AE (AB Z Z (Vw 2 20 OH Z Z Z Z (AD (A5 ?_))))))));exact ⟨_,[20],_,A3 Z,Z,Z,by rw [List.map_eq_nil_iff.1 h0];rfl,by rw [List.map_eq_nil_iff.1 h0];rfl⟩
 ·refine J (Dr Tryz.underlying37 Z Z) ?_;refine AD (EN Z (Z) (A1 (AC (AE (V (D1 20 OH Z Z Z Z Z Z Z Z) (goMv Z Z (V (Ew (([]:List AK)) (l) Z Z Z Z Z Z (fun _=>rfl) OH (by simp only [φp];omega) Z Z Z Z) (AB Z Z ?_))))))));skip;refine AD (A5 ?_);exact ⟨_,[20],_,A3 Z,Z,Z,by simp,Z⟩
theorem rs_put {p:Prb} (hn:(rsP p).Nodup) {k:Nat} (hk:k<p.ro.length):Au (As ((rsP p).take k)) p.ro[k].r true=As ((rsP p).take (k+1)):=by
 have hk':k<(rsP p).length:=by unfold rsP;rw [ψ];exact hk
 have e:(rsP p)[k]=p.ro[k].r:=ωb ..;rw [←e,dH (Lu hn hk'),φ hk']
set_option maxHeartbeats 4000000 in
theorem P3 (p:Prb) (hE:Ad p=0) (hf:DW p) (g:FuncId) (caps:List D) (N:MF) (qp:Int ->Bool) (hq:∀id,AM Tryz.prog g (.d (AF id)::dL caps) [(41,[.multi N])] fun r H'=>r= .d (Ag (qp id))∧H'=[(41,[.multi N])]):
  AM Tryz.prog 65 [.d (Bq p),.d (.fn g [] caps)] [(41,[.multi N])] fun r H'=>∃E M,r= .d (.sl none (E.map Cg))∧H'=[(41,[.multi N]),(40,[.multi M])]∧Y5 (rsP p) M E∧E.map Prod.fst=(ordP p).filter fun i=>qp i.id:=by
 have hO:ordP p=sortO p.it:=θ hE;rw [hO]
 obtain ⟨its,hits⟩:∃its,sortO p.it=its:=⟨_,Z⟩
 have hil:its.length=p.it.length:=by rw [←hits];exact Cw p.it
 have hmem:∀i∈its,i∈p.it:=fun i hi=>by rw [←hits] at hi;exact (Qd p.it).mem_iff.1 hi
 have hi30:=hf.i;have hr100:=hf.r;have hrn:(rsP p).Nodup:=GY hE;have hrl:(rsP p).length=p.ro.length:=ψ _;have hsq:=LR (Nv hE).2.1;rw [hits];refine Az Tryz.func65 Z Z Tryz.ntmps65 Z Z Z fun F hF=>(AC (AE ?_));refine V (CC 1 Z Z Z Z Z Z Z) (AB Z Z (AD (AC (AE (V (Pb 50 Z Z Z Z) (AB Z Z (AD (AC ?_))))))));refine AC (AE (J (AZ Z Fk Z Z Z) (J (A6 Z Z Z Rq Z) (J (CM Z Tryz.underlying36 Z) (goMv Z Z (AD (A4 (B5 (α:=Nat) (fun k=>⟨76,[(1,.d (.fn g [] caps)),(2,(.ptr 1 0 0)),(5,(.map 50 0)),(19,(.d (.sl none (p.ro.map CX)))),(20,(.d (AF (p.ro.length:Int)))),(21,(.d (AF (k:Int))))],[(1,[.blk 39 [.d (.sl none (p.ro.map CX)),.d (.sl none (p.it.map Ao))]]),(50,[BH CV Ag (As ((rsP p).take k))]),(41,[.multi N])]⟩) (fun k=>k≤p.ro.length) (fun k=>p.ro.length - k) (0) (Δ _) (A0 hF [1,50,41] Z Z ⟨Z,Z,Z,Z,Z,Z,trivial⟩) ?_))))))));rintro k hk;refine AC (AE (J (BV Z Z Z) (AD (AC (Ae Z (fun h22=>?_) (fun h22=>?_))))))
 ·refine A1 (AC (A4 (AC ?_)));have hkl:k<p.ro.length:=Bf h22;refine AE (J (Bk (k) Z Z (Z) (Ah hkl) Tryz.underlying36 Z OG Z) ?_);refine J (GN Z Z Zc Z) (V (CD 2 Qp Z Z Z Z) (V (Be Z Z Z Z Z Z Z OG) (AD (AE (goMv Z Z (J (AZ Z FG Z Z Z) (J (BM Z Z CU Z Z Z) (V (Tk (As ((rsP p).take k)) (p.ro[k].r) (true) Z Z Z WD CI Z Z) ?_))))))));rw [rs_put hrn hkl];refine AD (AE (J (Ay Z Z (AT (k+1) (by omega)) Z) (goMv Z Z (AD ?_))));exact ⟨k+1,hkl,by omega,A0 hF [1,50,41] Z (Z) ⟨Z,Z,Z,Z,Z,Z,trivial⟩⟩
 ·refine BC (AC ?_);have hke:k=p.ro.length:=by have:=h22;omega
  rw [hke,←hrl,ωw];refine AE (AB Z Z (AD (AC (AE (J (AZ Z ES Z Z Z) (J (A6 Z Z Z Kb Z) (V (EW (YN p.it (by omega)) Z [20] ⟨Z,trivial⟩ Z Z Z Z Z Z Z Z Z) (AB Z Z ?_))))))));refine AD (AC (AE (goMv Z Z (V (Lk laysI (k:=6) (by decide) Tryz.isAgg55 Tryz.sizeOf55 Tryz.func116 Z Z SZ Sr cE p.it its (by omega) (fun x _ y _=>Ui x y) (fun ys g1 g2=>by rw [←hits];exact Vi hsq g1 (g2.imp fun {a b} h h2=>h (Sq.2 h2))) Z Z Z Ku Z Z Z Z Z) (AD (AC (AC (L3 (emb:=Ao) 9 20 its Z Z Z hil.symm Z Z Z ?_))))))));refine Gl 40 Z Z Z (AE (goMv Z Z (J (CM Z Tryz.underlying37 Z) (goMv Z Z (AD (A4 (O4 8 30 Z8 Z Z Z Z (B5 (α:=Nat×List (AK×Nat)×MF) (fun q=>⟨76,[(1,.d (.fn g [] caps)),(2,(.ptr 1 0 0)),(5,(.map 50 0)),(8,(.own 30 0 q.2.1.length)),(34,(.d (.sl none (its.map Ao)))),(35,(.d (AF (its.length:Int)))),(36,(.d (AF (q.1:Int))))],[(50,[BH CV Ag (As (rsP p))]),(41,[.multi N]),(30,[.rowD 131 7 (q.2.1.map Cg)]),(40,[.multi q.2.2])]⟩) (fun q=>q.1≤its.length∧Y5 (rsP p) q.2.2 q.2.1∧q.2.1.map Prod.fst=(its.take q.1).filter fun i=>qp i.id) (fun q=>its.length - q.1) ((0,[],_)) (⟨Δ _,(fun e he=>by cases he),Z⟩) (A0 hF [50,41,30,40] Z Z ⟨Z,Z,Z,Z,Z,Z,Z,trivial⟩) ?_))))))));rintro ⟨k,E,M⟩ ⟨hk,hR,hEq⟩;dsimp only at hk hR hEq⊢;refine AC (AE (J (BV Z Z Z) (AD (AC (Ae Z (fun h37=>?_) (fun h37=>?_))))))
  ·refine A1 (AC (A4 (AC ?_)));have hkl:k<its.length:=Bf h37;have hki:=hmem _ (κ hkl);have hkx:=hf.x _ hki;have hEl:E.length≤30:=by have h1:(E.map Prod.fst).length≤its.length:=(by rw [hEq];exact ωf (ωj _ _) (by rw [Υ];omega));rw [ψ] at h1;omega
   refine AE (J (Bk (k) Z Z (Z) (Ah hkl) Tryz.underlying37 Z Cd Z) (J (GN Z Z By Z) (V (CD 2 El Z Z Z Z) (V (Be Z Z Z Z Z Z Z Cd) (AD (AC ?_))))));refine AC (AE (goMv Z Z (J (AZ Z OC Z Z Z) (J (A6 Z Z Z Aq Z) (V (Yc (hq its[k].id) Z [41] ⟨Z,trivial⟩ Z Z Z Z Z Z Z Z Z) (J (O3 Z Z) (AD (KK Z (fun h44=>?_) (fun h44=>?_)))))))))
   ·have hq44:¬qp its[k].id=true:=by simpa using h44
    refine BC (AE (J (Ay Z Z (AT (k+1) (by omega)) Z) (goMv Z Z (AD ?_))));exact ⟨(k+1,E,M),⟨hkl,hR,by show _=(its.take (k+1)).filter _;rw [φ hkl,ψc,hEq,ψv,ϑ hq44];simp⟩,by show its.length - (k+1)<its.length - k;omega,A0 hF [50,41,30,40] Z (Z) ⟨Z,Z,Z,Z,Z,Z,Z,trivial⟩⟩
   ·have hq44:qp its[k].id=true:=by simpa using h44
    refine A1 (AC (AE (J (BM Z Z By Z Z Z) (V (Pb 51 Z Z Z Z) (PE 46 51 40 hF Z Z Z Z Z Z Z Z Z Z (fun _=>rfl) fun hh hb=>(Ls 40 hh Z (EX _ _ _) Z ?_))))));rw [G2];refine J (FV MN pl131 Z Z Z) (V (CD 3 MN Z Z Z Z) (V (Be Z Z Z Z Z Z Z Gr) (AD (AC ?_))));refine AE (J (BM Z Z By Z Z Z) (J (B4 (Sw its[k] (by omega) (by omega) (by omega)) Z Z) (goMv Z Z (J (DD Z Z Z) (J (DD Z Z Z) (AB Z Z (AB Z Z (AD ?_))))))));refine AC (AC (AE (goMv Z Z (J (CM Z Tryz.underlying215 Z) (goMv Z Z (AD (A4 (B5 (α:=Nat) (fun j=>⟨76,[(1,.d (.fn g [] caps)),(2,(.ptr 1 0 0)),(5,(.map 50 0)),(8,(.own 30 0 E.length)),(12,(.ptr 3 0 0)),(34,(.d (.sl none (its.map Ao)))),(35,(.d (AF (its.length:Int)))),(36,(.d (AF (k:Int)))),(53,(.d (.sl none ((dltS its[k]).map OV)))),(54,(.d (AF ((dltS its[k]).length:Int)))),(55,(.d (AF (j:Int))))],[(3,[.blk 131 [.d (AF its[k].id),.d (AF its[k].pr),.d (AF its[k].sq),.d (.sl none (its[k].po.map CF)),.d (.sl none (its[k].pa.map Ff)),.d (.sl none (its[k].af.map AF)),.d (mD hh)]]),(50,[BH CV Ag (As (rsP p))]),(41,[.multi N]),(30,[.rowD 131 7 (E.map Cg)]),(40,[.multi (BO M hh (.map none (Lb (dK (rsP p) its[k] j))))])]⟩) (fun j=>j≤(dltS its[k]).length) (fun j=>(dltS its[k]).length - j) (0) (Δ _) (A0 hF [3,50,41,30,40] Z Z ⟨Z,Z,Z,Z,Z,Z,Z,Z,Z,Z,Z,trivial⟩) ?_))))))));rintro j hj;refine AC (AE (J (BV Z Z Z) (AD (AC (Ae Z (fun h56=>?_) (fun h56=>?_))))))
    ·refine A1 (AC (A4 (AC ?_)));have hdl:=MD (x:=its[k]) hkx;have hjl:j<(dltS its[k]).length:=Bf h56;refine AE (J (Bk (j) Z Z (Z) (Ah hjl) Tryz.underlying215 Z VW Z) (J (GN Z Z rw218 Z) (V (CD 4 Yh Z Z Z Z) (V (Be Z Z Z Z Z Z Z VW) ?_))));refine AD (AC (AE (goMv Z Z (J (AZ Z Ji Z Z Z) (J (BM Z Z CU Z Z Z) (J (HF (As (rsP p)) ((dltS its[k])[j]).1 false _ Z Z Z WD CI Te (Wq _ _) Z) (AD (Ae Z (fun h62=>?_) (fun h62=>?_)))))))))
     ·refine AE (J (AZ Z MB Z Z Z) (J (A6 Z Z Z Vr Z) (J (AZ Z Ji Z Z Z) (J (BM Z Z CU Z Z Z) (J (AZ Z WW Z Z Z) (J (A6 Z Z Z JG Z) (V (RN (f:=40) (dK (rsP p) its[k] j) ((dltS its[k])[j]).1 ((dltS its[k])[j]).2 Z Z (EX _ _ _) Z Bs CI Z Z) ?_)))))));rw [G2,dK_hit hjl h62];refine AD (AE (J (Ay Z Z (AT (j+1) (by omega)) Z) (goMv Z Z (AD ?_))));exact ⟨j+1,hjl,by omega,A0 hF [3,50,41,30,40] Z (Z) ⟨Z,Z,Z,Z,Z,Z,Z,Z,Z,Z,Z,trivial⟩⟩
     ·refine A1 (AE (J (Ay Z Z (AT (j+1) (by omega)) Z) (goMv Z Z (AD ?_))));exact ⟨j+1,hjl,by omega,A0 hF [3,50,41,30,40] Z (by simp only [dK_miss hjl h62];rfl) ⟨Z,Z,Z,Z,Z,Z,Z,Z,Z,Z,Z,trivial⟩⟩
    ·refine BC ?_;have hje:j=(dltS its[k]).length:=by have:=h56;omega
     rw [hje,dK_end];refine AE (goMv Z Z ?_);refine J (BM Z Z LK Z Z Z) (V (D1 31 Z8 Z Z Z Z Z Z Z Z) (V (I0 (E) ([(its[k],hh)]) Z Z Z Z Z Z Z Z Z8 (by simp only [Ψ];omega) Z Z Z Z) (AB Z Z (AD (AE (J (Ay Z Z (AT (k+1) (by omega)) Z) (goMv Z Z (AD ?_))))))));exact ⟨(k+1,E++ [(its[k],hh)],_),⟨hkl,hR.add hb,by show _=(its.take (k+1)).filter _;rw [φ hkl,ψc,ωe,hEq,ψv,θ hq44];rfl⟩,by show its.length - (k+1)<its.length - k;omega,A0 hF [50,41,30,40] Z (Z) ⟨Z,Z,Z,Z,Z,Z,Z,trivial⟩⟩
  ·refine BC (AC ?_);have hke:k=its.length:=by have:=h37;omega
   rw [hke,ωw] at hEq;refine L3 (emb:=Cg) 8 30 E Z Z Z Z Z Z Z (AE (goMv Z Z (AB Z Z (AD (A5 ?_)))));exact ⟨_,[41,40],_,A3 Z,Z,Z,E,M,Z,Z,hR,hEq⟩
abbrev AN (n:Nat):D:=AF (n:Int)
abbrev natsD (l:List Nat):D:= .sl none (l.map AN)
theorem Kn {l:List Nat} {k:Nat} (h:k<l.length):(l.map AN)[k]? =some (AN (nth l k)):=by rw [Ah h,Nw h]
theorem eqv {a b:D} (h:a=b):AV.d a=AV.d b:=by rw [h]
theorem swpJ {l j:List Nat} {a b:Nat} (ha:a<l.length) (hb:b<l.length):((l++j).set a (nth l b)).set b (nth l a)=Hx l a b++j:=by
 rw [List.set_append_left _ _ ha,List.set_append_left _ _ (by simpa using hb)];rfl
theorem takeJ (l j:List Nat) {x:Nat}:((l++j).map AN).take l.length++ [AN x].take 1=(l++ [x]).map AN:=by
 rw [←List.map_take,List.take_left];simp
theorem popJ {l j:List Nat} (h:0<l.length):l.take (l.length - 1)++([nth l (l.length - 1)]++j)=l++j:=by
 have e:=φf (l.length - 1) l;rw [χg (by omega),show l.length - 1+1=l.length by omega,List.drop_length,←Nw (by omega)] at e;rw [←ψk,e]
theorem quo2 (j:Nat):Int.tdiv ((j:Int) - 1) 2=(((j - 1) / 2:Nat):Int):=by
 cases j with
 | zero=>rfl
 | succ j=>rw [show ((j+1:Nat):Int) - 1=(j:Int) by omega,Nat.add_sub_cancel];rfl
theorem AM.top {P:Program} {f:FuncId} {args:List AV} {CH H0:Hp} (h:AM P f args CH fun r H'=>(∃b:Bool,r= .d (Ag b))∧H'=H0):AM P f args CH fun r H'=>r= .top∧H'=H0:=
 ⟨h.1,fun F ρ vs h1 h2 h2' h3 h4 h5=>(h.2 F ρ vs h1 h2 h2' h3 h4 h5).mono fun e w' ⟨v,r,H',ρ',e1,⟨_,e3⟩,_,hh⟩=>⟨v,.top,H',ρ',e1,⟨Z,e3⟩,.top,hh⟩⟩
theorem bdec {p q:Prop} [Decidable p] [Decidable q] (h:p↔q):AV.d (Ag (decide p))=AV.d (Ag (decide q)):=by rw [decide_eq_decide.2 h]
theorem pt3:E1 Tryz.prog 3=true:=by kernel_rfl
theorem Zu:E1 Tryz.prog 321=true:=by kernel_rfl
theorem mLen:JF Tryz.prog 321 "Len" 223:=fun b w=>by kernel_rfl
theorem SK:JF Tryz.prog 321 "Less" 296:=fun b w=>by kernel_rfl
theorem SJ:JF Tryz.prog 321 "Swap" 299:=fun b w=>by kernel_rfl
theorem mPush:JF Tryz.prog 321 "Push" 298:=fun b w=>by kernel_rfl
theorem mPop:JF Tryz.prog 321 "Pop" 297:=fun b w=>by kernel_rfl
abbrev Jb (g:List (List Nat)):D:= .sl none (g.map natsD)
structure GB (g:List (List Nat)):Prop where
 n:g.length≤65536
 e:∀l∈g,l.length≤1048576
 lt:∀l∈g,∀x∈l,x<g.length
theorem Dy {g:List (List Nat)} {i:Nat} (h:i<g.length):sucs g i=g[i]:=by simp [sucs,h]
theorem Sf {g:List (List Nat)} {i:Nat} (h:i<g.length):(g.map natsD)[i]? =some (natsD (sucs g i)):=by rw [Ah h,Dy h]
theorem GB.len {g:List (List Nat)} (h:GB g) {i:Nat} (hi:i<g.length):(sucs g i).length≤1048576:=by rw [Dy hi];exact h.e _ (κ hi)
theorem GB.suc {g:List (List Nat)} (h:GB g) {i x:Nat} (hi:i<g.length) (hx:x∈sucs g i):x<g.length:=by rw [Dy hi] at hx;exact h.lt _ (κ hi) x hx
def Q3 (g:List (List Nat)) (i j:Nat):Nat:=((List.range i).map fun a=>(sucs g a).count j).sum
theorem P6 (g:List (List Nat)) (i j:Nat):Q3 g (i+1) j=Q3 g i j+(sucs g i).count j:=by
 unfold Q3;rw [ψm,ωe,χc];simp
theorem W6 {g:List (List Nat)} (h:GB g) (j:Nat):∀i,i≤g.length ->Q3 g i j≤i*1048576
 | 0,_=>by simp [Q3]
 | i+1,hi=>by
  have:=W6 h j i (by omega);have:=List.count_le_length (a:=j) (l:=sucs g i);have:=h.len (i:=i) (by omega);rw [P6];omega
theorem cW (g:List (List Nat)) (j:Nat):Q3 g g.length j=Ky g [] j:=by
 unfold Q3 Ky
 congr 1
theorem Tt {l:List Nat} {k:Nat} (h:k<l.length) (j:Nat):(l.take (k+1)).count j=(l.take k).count j+if nth l k=j then 1 else 0:=by
 rw [φ h,List.count_append,Nw h]
 by_cases e:l[k]=j
 ·subst e;simp
 ·rw [ϑ e,List.count_cons_of_ne e];rfl
theorem cN {l:List Nat} {k:Nat} (h:k<l.length):l.drop k=nth l k::l.drop (k+1):=by rw [Nw h];exact χg h
theorem rep0S (n:Nat):List.replicate n (D.raw (.int .i64 0))=(List.replicate n 0).map AN:=by rw [List.map_replicate];rfl
theorem nth_rep (n k:Nat):nth (List.replicate n 0) k=0:=by
 unfold nth;rw [ϱ,List.getElem?_replicate];split<;>rfl
theorem getset {w:List Nat} {y v:Nat} (h:y<w.length):((w.set y v).map AN)[y]? =some (AN v):=by
 rw [Kn (by simpa using h),G1 h,θ rfl]
theorem degS_le {g:List (List Nat)} (h:GB g) (done:List Nat) (j:Nat):Ky g done j≤g.length*1048576:=by
 have key:∀n,n≤g.length ->((List.range n).map fun i=>if i∈done then 0 else (sucs g i).count j).sum≤n*1048576:=by
  intro n
  induction n with
  | zero=>intro _;exact Δ _
  | succ n ih=>
   intro hn;have h1:=ih (by omega);have h2:=List.count_le_length (a:=j) (l:=sucs g n);have h3:=h.len (i:=n) (by omega)
   have h4:(if n∈done then 0 else (sucs g n).count j)≤1048576:=by
    by_cases e:n∈done
    ·rw [θ e];exact Δ _
    ·rw [ϑ e];exact ωf h2 h3
   rw [ψm,ωe,χc,φi,List.sum_singleton,Nat.succ_mul];exact Nat.add_le_add h1 h4
 exact key _ (ϖ _)
theorem oi_wle {g:List (List Nat)} {K:Nat ->Nat} {w q out ls:List Nat} {y:Nat} (hg:GB g) (h:OI g K w q out (y::ls)) (hy:y<g.length) (hl:ls.length≤1048576):nth w y≤69000000000:=by
 have h1:=degS_le hg out y;have h2:=hg.n;have h3:=List.count_le_length (a:=y) (l:=y::ls);rw [h.deg y hy];rw [ψl] at h3;omega
theorem oi_row {g:List (List Nat)} {K:Nat ->Nat} {w q out:List Nat} {x k:Nat} (h:OI g K w q out ((sucs g x).drop k)) (e:k=(sucs g x).length):OI g K w q out []:=by
 rw [e,List.drop_length] at h;exact h
noncomputable def ordG (g:List (List Nat)) (K:Nat ->Nat):List Nat:=Classical.epsilon fun out=>Qn g K out∧∀y,¬C6 g out y
theorem ordG_eq {g:List (List Nat)} {K:Nat ->Nat} (hK:∀a b,a<g.length ->b<g.length ->K a=K b ->a=b) {out:List Nat} (h1:Qn g K out) (h2:∀y,¬C6 g out y):ordG g K=out:=by
 have h:Qn g K (ordG g K)∧∀y,¬C6 g (ordG g K) y:=Classical.epsilon_spec (p:=fun out=>Qn g K out∧∀y,¬C6 g out y) ⟨out,h1,h2⟩;exact bm hK h.1 h1 h.2 h2
structure FI (K:Nat ->Nat) (w:List Nat) (i:Nat) (l:List Nat):Prop where
 nd:l.Nodup
 mem:∀x,x∈l↔x<i∧nth w x=0
 hp:KJ K l
theorem FI.le {K:Nat ->Nat} {w:List Nat} {i:Nat} {l:List Nat} (h:FI K w i l):l.length≤i:=by
 have:=DN h.nd (m:=List.range i) fun x hx=>Θ.2 ((h.mem x).1 hx).1
 rwa [ωh] at this
theorem fi_zero (K:Nat ->Nat) (w:List Nat):FI K w 0 []:=⟨.nil,fun x=>by simp,fun i h0 hi=>by simp at hi⟩
theorem fi_push {K:Nat ->Nat} {w:List Nat} {i:Nat} {l:List Nat} (h:FI K w i l) (hz:nth w i=0):FI K w (i+1) (LS K l i):=by
 have hp:=NN K l i;refine ⟨hp.nodup_iff.2 (φb.2 ⟨fun hm=>φg _ ((h.mem i).1 hm).1,h.nd⟩),fun x=>?_,NO h.hp i⟩;rw [hp.mem_iff,Φ,h.mem]
 constructor
 ·rintro (rfl | ⟨h1,h2⟩)
  ·exact ⟨by omega,hz⟩
  ·exact ⟨by omega,h2⟩
 ·rintro ⟨h1,h2⟩
  by_cases e:x=i
  ·exact .inl e
  ·exact .inr ⟨by omega,h2⟩
theorem fi_skip {K:Nat ->Nat} {w:List Nat} {i:Nat} {l:List Nat} (h:FI K w i l) (hz:nth w i≠0):FI K w (i+1) l:=by
 refine ⟨h.nd,fun x=>?_,h.hp⟩;rw [h.mem]
 constructor
 ·rintro ⟨h1,h2⟩;exact ⟨by omega,h2⟩
 ·rintro ⟨h1,h2⟩
  by_cases e:x=i
  ·subst e;exact (hz h2).elim
  ·exact ⟨by omega,h2⟩
structure CW (g:List (List Nat)) (i k:Nat) (w:List Nat):Prop where
 len:w.length=g.length
 val:∀j,j<g.length ->nth w j=Q3 g i j+((sucs g i).take k).count j
theorem cw_zero (g:List (List Nat)):CW g 0 0 (List.replicate g.length 0):=⟨by simp,fun j _=>by rw [nth_rep];simp [Q3]⟩
theorem cw_step {g:List (List Nat)} {i k:Nat} {w:List Nat} (hg:GB g) (h:CW g i k w) (hi:i<g.length) (hk:k<(sucs g i).length):
  nth (sucs g i) k<w.length∧nth w (nth (sucs g i) k)≤100000000000∧CW g i (k+1) (w.set (nth (sucs g i) k) (nth w (nth (sucs g i) k)+1)):=by
 have hx:nth (sucs g i) k<g.length:=hg.suc hi (Ch hk);have hxw:nth (sucs g i) k<w.length:=by rw [h.len];exact hx
 refine ⟨hxw,?_,⟨by simpa using h.len,fun j hj=>?_⟩⟩
 ·rw [h.val _ hx];have:=W6 hg (nth (sucs g i) k) i (by omega);have:=List.count_le_length (a:=nth (sucs g i) k) (l:=(sucs g i).take k);rw [Υ] at this;have:=hg.len hi;have:=hg.n;omega
 ·rw [G1 hxw,Tt hk]
  by_cases e:nth (sucs g i) k=j
  ·rw [θ e.symm,θ e,e,h.val j hj];omega
  ·rw [ϑ fun e'=>e e'.symm,ϑ e,h.val j hj];omega
theorem cw_row {g:List (List Nat)} {i:Nat} {w:List Nat} (h:CW g i (sucs g i).length w):CW g (i+1) 0 w:=⟨h.len,fun j hj=>by rw [h.val j hj,ωw,P6];simp⟩
theorem cw_end {g:List (List Nat)} {w:List Nat} (h:CW g g.length 0 w):w.length=g.length∧∀j,j<g.length ->nth w j=Ky g [] j:=
 ⟨h.len,fun j hj=>by rw [h.val j hj,cW];simp⟩
def dN (rs:List AP) (a b:AK):Prop:=(∃d∈dR rs a,d.2<0∧0<A2 (dR rs b) d.1 0)∨b.id∈a.af
noncomputable instance (rs:List AP) (a b:AK):Decidable (dN rs a b):=Classical.propDecidable _
theorem IE {α:Type} {acc rest:List α} {x:List α} {y:α} {all:List α} (h:(acc++x).Perm all) (hx:x.Perm (y::rest)):((acc++ [y])++rest).Perm all:=by
 refine List.Perm.trans ?_ h;rw [ψk];exact (List.Perm.append_left acc hx).symm
theorem bJ {α β:Type} {m:List (α×β)} {j:Nat} {x:α×β} (h:m[j]? =some x):x∈m:=ζ h
set_option maxHeartbeats 1000000 in
theorem waits_c {rs:List AP} {M:MF} (a b:AK×Nat) (ha:M a.2=some (.map none (Lb (dR rs a.1)))) (hb:M b.2=some (.map none (Lb (dR rs b.1)))) (haf:a.1.af.length≤100000):
  AM Tryz.prog 132 [.d (Cg a),.d (Cg b)] [(40,[.multi M])] fun r H'=>r= .d (Ag (decide (dN rs a.1 b.1)))∧H'=[(40,[.multi M])]:=by
 obtain ⟨a,ma⟩:=a;obtain ⟨b,mb⟩:=b;dsimp only at ha hb haf⊢
 obtain ⟨L,hL⟩:∃L,dR rs a=L:=⟨_,Z⟩
 have hWt:dN rs a b↔((∃d∈L,d.2<0∧0<A2 (dR rs b) d.1 0)∨b.id∈a.af):=by rw [←hL];exact Iff.rfl
 rw [hL] at ha;refine Az Tryz.func132 Z Z Tryz.ntmps132 Z Z Z fun F hF=>(AC (Pa 40 ma Z ha (fun _ _=>rfl) fun B c hB hBn=>?_))
 obtain ⟨M1,hM1⟩:∃M1,BO M ma (.map (some (B,c)) (Lb L))=M1:=⟨_,Z⟩
 rw [hM1];have h1a:M1 ma=some (.map (some (B,c)) (Lb L)):=by rw [←hM1,EX]
 have h1b:∃bs,M1 mb=some (.map bs (Lb (dR rs b))):=by
  by_cases e:mb=ma
  ·subst e;rw [ha] at hb;injection hb with hb;injection hb with _ hb;exact ⟨_,by rw [h1a,hb]⟩
  ·exact ⟨none,by rw [←hM1,FP e];exact hb⟩
 obtain ⟨bsb,h1b⟩:=h1b;have hback:BO M1 ma (.map none (Lb L))=M:=by rw [←hM1,G2];exact PJ ha
 refine AE (V (CC 20 Z Z Z Z Z Z Z) (V (CC 21 Z Z Z Z Z Z Z) (AB Z Z (AD ?_))));refine AC (AC (AE (J (AZ Z MB Z Z Z) (J (A6 Z Z Z Vr Z) (V (Oe 22 (f:=40) Z Z (h1a) Z Bs Z Z Z Z) (AD (A4 (B5 (α:=List Nat×List (AP×Int)) (fun q=>⟨31,[(2,(.ptr 20 0 0)),(3,(.ptr 21 0 0)),(9,(.ptr 22 0 0))],[(20,[.blk 131 [.d (AF a.id),.d (AF a.pr),.d (AF a.sq),.d (.sl none (a.po.map CF)),.d (.sl none (a.pa.map Ff)),.d (.sl none (a.af.map AF)),.d (mD ma)]]),(21,[.blk 131 [.d (AF b.id),.d (AF b.pr),.d (AF b.sq),.d (.sl none (b.po.map CF)),.d (.sl none (b.pa.map Ff)),.d (.sl none (b.af.map AF)),.d (mD mb)]]),(22,[.iter 40 ma c q.1]),(40,[.multi M1])]⟩) (fun q=>(q.2++Bo L B q.1).Perm L∧∀d∈q.2,¬(d.2<0∧0<A2 (dR rs b) d.1 0)) (fun q=>(Bo L B q.1).length) (([],[])) (⟨by show ([]++Bo L B []).Perm L;rw [Cy (by simpa [BN] using hB)];exact List.Perm.refl _,(fun d hd=>by cases hd)⟩) (A0 hF [20,21,22,40] Z Z ⟨Z,Z,Z,trivial⟩) ?_))))))));rintro ⟨seen,acc⟩ ⟨hP,hA⟩;dsimp only at hP hA⊢;refine AC (AE (Vu (L) Z Z Z (h1a) Z (fun hl10=>?_) (fun j10 b10 k10 v10 hm10 hb10 hB10 hp10=>⟨_,Z,?_⟩)))
 ·rw [hl10] at hP;refine Ls 40 ma Z h1a Z ?_;rw [hback];refine J (Cc Z Z Z) (AD (AC (EN Z Z (BC (AC (AE (J (AZ Z IT Z Z Z) ?_)))))));refine J (AZ Z FH Z Z Z) (J (A6 Z Z Z BI Z) (J (AZ Z IT Z Z Z) (J (AZ Z OC Z Z Z) (J (A6 Z Z Z Aq Z) (J (B4 (Ng a.af b.id (by omega)) Z Z) (AB Z Z (AD (A5 ?_))))))));exact ⟨_,[40],_,A3 Z,Z,Z,by rw [decide_eq_decide.2 (hWt.trans ⟨fun h=>h.resolve_left fun ⟨d,hd,hx⟩=>hA d ((show acc.Perm L by simpa using hP).mem_iff.2 hd) hx,.inr⟩)],Z⟩
 ·refine J (Cc Z Z Z) (AD (AC ?_));refine DV Z Z (A1 (A4 (AC (AE (J (Oj (L) j10 b10 Z Z Z (h1a) hm10 hb10 Z) (J (Cc Z Z Z) (J (Cc Z Z Z) (V (CD 23 KN Z Z Z Z) ?_))))))));refine V (Be Z Z Z Z Z Z Z ZE) (AB Z Z (AD (AC (AE (goMv Z Z (J (BV Z Z Z) (goMv Z Z (Id 17 Z (fun h17=>?_) (fun h17=>?_)))))))))
  ·refine Af Z Z Z (J (AZ Z MB Z Z Z) (Af Z Z Z (J (A6 Z Z Z Vr Z) ?_)));refine Af Z Z Z (J (BM Z Z CU Z Z Z) (Af Z Z Z (J (RP (f:=40) (dR rs b) k10 0 _ Z Z h1b Z Bs CI Nz Z Z) (Af Z Z Z (J (ML Z Z Z) (J (Fb Z Z Z Z) (AD (Ae Z (fun h23=>?_) (fun h23=>?_)))))))))
   ·refine AC (a_hideN 40 ma Z h1a Z ?_);rw [hback];refine AE (AB Z Z (AD (A5 ?_)));exact ⟨_,[40],_,A3 Z,Z,Z,by rw [ωc (hWt.2 (.inl ⟨_,bJ hm10,h17,h23⟩))],Z⟩
   ·refine A1 ?_;exact ⟨(seen++ [b10],acc++ [(k10,v10)]),⟨IE hP hp10,fun d hd=>(υ.1 hd).elim (hA d) fun e=>by rw [ξ.1 e];first | exact fun h=>h17 h.1 | exact fun h=>h23 h.2⟩,by show (Bo L B (seen++ [b10])).length<(Bo L B seen).length;rw [hp10.length_eq];exact χl _,A0 hF [20,21,22,40] Z (Z) ⟨Z,Z,Z,trivial⟩⟩
  ·refine A9 Z Z Z Z (A9 Z Z Z Z (A9 Z Z Z Z (A9 Z Z Z Z (A9 Z Z Z Z (J (DZ Z Z Z Z) (AD (EN Z Z (A1 ?_))))))));exact ⟨(seen++ [b10],acc++ [(k10,v10)]),⟨IE hP hp10,fun d hd=>(υ.1 hd).elim (hA d) fun e=>by rw [ξ.1 e];first | exact fun h=>h17 h.1 | exact fun h=>h23 h.2⟩,by show (Bo L B (seen++ [b10])).length<(Bo L B seen).length;rw [hp10.length_eq];exact χl _,A0 hF [20,21,22,40] Z (Z) ⟨Z,Z,Z,trivial⟩⟩
def Dg (E:List (AK×Nat)) (k:Nat):AK:=(E.getD k (itm0,0)).1
noncomputable def toK (rs:List AP) (E:List (AK×Nat)) (a:AK) (k:Nat):List Nat:=(List.range k).filter fun j=>decide (dN rs a (Dg E j))
noncomputable def grW (rs:List AP) (E:List (AK×Nat)):List (List Nat):=E.map fun e=>toK rs E e.1 E.length
theorem toK_hit {rs:List AP} {E:List (AK×Nat)} {a:AK} {k:Nat} (h:dN rs a (Dg E k)):toK rs E a (k+1)=toK rs E a k++ [k]:=by
 unfold toK;rw [ψm,ψc];simp [h]
theorem Yw {rs:List AP} {E:List (AK×Nat)} {a:AK} {k:Nat} (h:¬dN rs a (Dg E k)):toK rs E a (k+1)=toK rs E a k:=by
 unfold toK;rw [ψm,ψc];simp [h]
theorem VN (rs:List AP) (E:List (AK×Nat)) (a:AK) (k:Nat):(toK rs E a k).length≤k:=by
 unfold toK;exact ωf (ωj _ _) (by rw [ωh];exact ϖ _)
theorem Df {E:List (AK×Nat)} {k:Nat} (hk:k<E.length):Dg E k=(E[k]).1:=by unfold Dg;rw [ϱ,ω hk];rfl
theorem Dt (rs:List AP) (E:List (AK×Nat)):(grW rs E).length=E.length:=ψ _
set_option maxHeartbeats 1000000 in
theorem graph_c {rs:List AP} {M:MF} (E:List (AK×Nat)) (hR:Y5 rs M E) (hEl:E.length≤1000) (haf:∀e∈E,e.1.af.length≤100000):
  AM Tryz.prog 77 [.d (.sl none (E.map Cg))] [(40,[.multi M])] fun r H'=>r= .d (Jb (grW rs E))∧H'=[(40,[.multi M])]:=by
 refine Az Tryz.func77 Z Z Tryz.ntmps77 Z Z Z fun F hF=>?_;refine AC (AE (AB Z Z (AD (AC (AE (AB Z Z (AD (AC ?_))))))));refine AC (AE (goMv Z Z (J (CM Z Tryz.underlying122 Z) (goMv Z Z (AD (A4 (O4 3 10 V8 Z Z Z Z (B5 (α:=Nat×List (List Nat)) (fun q=>⟨36,[(0,.d (.sl none (E.map Cg))),(3,(.own 10 0 q.2.length)),(9,(.d (.sl none (E.map Cg)))),(10,(.d (AF (E.length:Int)))),(11,(.d (AF (q.1:Int))))],[(10,[.rowD 28 1 (q.2.map natsD)]),(40,[.multi M])]⟩) (fun q=>q.1≤E.length∧q.2=(grW rs E).take q.1) (fun q=>E.length - q.1) ((0,[])) (⟨Δ _,Z⟩) (A0 hF [10,40] Z Z ⟨Z,Z,Z,Z,Z,trivial⟩) ?_))))))));rintro ⟨i,G⟩ ⟨hi,hG⟩;dsimp only at hi hG⊢;refine AC (AE (J (BV Z Z Z) (AD (AC (Ae Z (fun h12=>?_) (fun h12=>?_))))))
 ·refine A1 (AC (A4 (AC ?_)));have hil:i<E.length:=Bf h12;have hGl:G.length≤1000:=by rw [hG,Υ];omega
  have hei:=κ hil;refine AE (J (Bk (i) Z Z (Z) (Ah hil) Tryz.underlying122 Z Gr Z) ?_);refine J (GN Z Z LK Z) (V (CD 21 MN Z Z Z Z) (V (Be Z Z Z Z Z Z Z Gr) (AD (AC (AE (AB Z Z (AD (AC ?_))))))));refine AC (AE (goMv Z Z (J (CM Z Tryz.underlying122 Z) (goMv Z Z (AD (A4 (O4 6 11 BW Z Z Z Z (B5 (α:=Nat×List Nat) (fun q=>⟨36,[(0,.d (.sl none (E.map Cg))),(3,(.own 10 0 G.length)),(5,(.ptr 21 0 0)),(6,(.own 11 0 q.2.length)),(9,(.d (.sl none (E.map Cg)))),(10,(.d (AF (E.length:Int)))),(11,(.d (AF (i:Int)))),(15,(.d (.sl none (E.map Cg)))),(16,(.d (AF (E.length:Int)))),(17,(.d (AF (q.1:Int))))],[(21,[.blk 131 [.d (AF (E[i]).1.id),.d (AF (E[i]).1.pr),.d (AF (E[i]).1.sq),.d (.sl none ((E[i]).1.po.map CF)),.d (.sl none ((E[i]).1.pa.map Ff)),.d (.sl none ((E[i]).1.af.map AF)),.d (mD (E[i]).2)]]),(11,[.rowD 3 1 (q.2.map AN)]),(10,[.rowD 28 1 (G.map natsD)]),(40,[.multi M])]⟩) (fun q=>q.1≤E.length∧q.2=toK rs E (E[i]).1 q.1) (fun q=>E.length - q.1) ((0,[])) (⟨Δ _,Z⟩) (A0 hF [21,11,10,40] Z Z ⟨Z,Z,Z,Z,Z,Z,Z,Z,Z,Z,trivial⟩) ?_))))))));rintro ⟨k,T⟩ ⟨hk,hT⟩;dsimp only at hk hT⊢;refine AC (AE (J (BV Z Z Z) (AD (AC (Ae Z (fun h18=>?_) (fun h18=>?_))))))
  ·refine A1 (AC (A4 (AC ?_)));have hkl:k<E.length:=Bf h18;have hTl:T.length≤1000:=by have:=VN rs E (E[i]).1 k;rw [←hT] at this;omega
   have hek:=κ hkl;refine AE (goMv Z Z (J (Bk (k) Z Z (Z) (Ah hkl) Tryz.underlying122 Z Gr Z) (J (GN Z Z LK Z) (V (CD 22 MN Z Z Z Z) (AB Z Z ?_)))));refine V (Be Z Z Z Z Z Z Z Gr) (AD (AC (AE (J (BM Z Z LK Z Z Z) (J (BM Z Z LK Z Z Z) (V (EW (waits_c E[i] E[k] (hR _ hei) (hR _ hek) (haf _ hei)) Z [40] ⟨Z,trivial⟩ Z Z Z Z Z Z Z Z Z) (AD (Ae Z (fun h24=>?_) (fun h24=>?_)))))))))
   ·refine AE (goMv Z Z ?_);refine goMv Z Z (V (D1 30 BW Z Z Z Z Z Z Z Z) (V (I0 (T) ([k]) Z Z Z Z Z Z Z Z BW (by simp only [Ψ];omega) Z Z Z Z) (AB Z Z (AD (AE (J (Ay Z Z (AT (k+1) (by omega)) Z) (goMv Z Z (AD ?_))))))));exact ⟨(k+1,T++ [k]),⟨hkl,by show _=toK rs E _ (k+1);rw [toK_hit (by rw [Df hkl];exact h24),hT]⟩,by show E.length - (k+1)<E.length - k;omega,A0 hF [21,11,10,40] Z (Z) ⟨Z,Z,Z,Z,Z,Z,Z,Z,Z,Z,trivial⟩⟩
   ·refine A1 (AE (J (Ay Z Z (AT (k+1) (by omega)) Z) (goMv Z Z (AD ?_))));exact ⟨(k+1,T),⟨hkl,by show _=toK rs E _ (k+1);rw [Yw (by rw [Df hkl];exact h24),hT]⟩,by show E.length - (k+1)<E.length - k;omega,A0 hF [21,11,10,40] Z (Z) ⟨Z,Z,Z,Z,Z,Z,Z,Z,Z,Z,trivial⟩⟩
  ·refine BC ?_;have hke:k=E.length:=by have:=h18;omega
   rw [hke] at hT;refine L3 (emb:=AN) 6 11 T Z Z Z Z Z Z Z ?_;rw [hT];refine AE (goMv Z Z ?_);refine goMv Z Z (V (D1 31 V8 Z Z Z Z Z Z Z Z) (V (I0 (G) ([toK rs E (E[i]).1 E.length]) Z Z Z Z Z Z Z Z V8 (by simp only [Ψ];omega) Z Z Z Z) (AB Z Z (AD (AE (J (Ay Z Z (AT (i+1) (by omega)) Z) (goMv Z Z (AD ?_))))))));exact ⟨(i+1,G++ [toK rs E (E[i]).1 E.length]),⟨hil,by show _=(grW rs E).take (i+1);rw [hG,φ (by rw [Dt];exact hil)];congr 1;simp [grW]⟩,by show E.length - (i+1)<E.length - i;omega,A0 hF [10,40] Z (Z) ⟨Z,Z,Z,Z,Z,trivial⟩⟩
 ·refine BC (AC ?_);have hie:i=E.length:=by have:=h12;omega
  refine L3 (emb:=natsD) 3 10 G Z Z Z Z Z Z Z ?_;rw [hG,hie,Ξ (by rw [Dt];exact ϖ _)];refine AE (goMv Z Z (AB Z Z (AD (A5 ?_))));exact ⟨_,[40],_,A3 Z,Z,Z,Z,Z⟩
def E2 (E:List (AK×Nat)) (l:List Nat):List Int:=l.map fun k=>(Dg E k).id
theorem ids_p (E:List (AK×Nat)) (l:List Nat) (hl:∀k∈l,k<E.length) (hll:l.length≤1000000):AO Tryz.prog 78 [.d (.sl none (E.map Cg)),.d (natsD l)] (.sl none ((E2 E l).map AF)):=by
 refine Az Tryz.func78 Z Z Tryz.ntmps78 Z Z Z fun F hF=>?_;refine AC (AE (AB Z Z (AD (AC (AE (AB Z Z (AD (AC ?_))))))));refine AC (AE (goMv Z Z (J (JE Z (ψ ..) Tryz.underlying28 Z) (goMv Z Z (AD (A4 (O4 5 10 BW Z Z Z Z (B5 (α:=Nat×List Int) (fun q=>⟨25,[(0,.d (.sl none (E.map Cg))),(5,(.own 10 0 q.2.length)),(8,(.d (natsD l))),(9,(.d (AF (l.length:Int)))),(10,(.d (AF (q.1:Int))))],[(10,[.rowD 3 1 (q.2.map AF)])]⟩) (fun q=>q.1≤l.length∧q.2=E2 E (l.take q.1)) (fun q=>l.length - q.1) ((0,[])) (⟨Δ _,Z⟩) (A0 hF [10] Z Z ⟨Z,Z,Z,Z,Z,trivial⟩) ?_))))))));rintro ⟨k,T⟩ ⟨hk,hT⟩;dsimp only at hk hT⊢;refine AC (AE (J (BV Z Z Z) (AD (AC (Ae Z (fun h11=>?_) (fun h11=>?_))))))
 ·refine A1 (AC (A4 (AC ?_)));have hkl:k<l.length:=Bf h11;have hTl:T.length≤1000000:=by rw [hT];unfold E2;rw [ψ,Υ];omega
  have hlk:l[k]<E.length:=hl _ (κ hkl);have hgk:(l.map AN)[k]? =some (AN l[k]):=Ah hkl;have hgE:(E.map Cg)[l[k]]? =some (Cg E[l[k]]):=Ah hlk;refine AE (J (Bk (k) Z Z (Z) (hgk) Tryz.underlying28 Z BA Z) (J (D0 Z Z Aq Z) (AB Z Z ?_)));refine AD (AE (goMv Z Z (goMv Z Z (goMv Z Z (J (Bk (l[k]) Z Z (Z) (hgE) Tryz.underlying122 Z Gr Z) (J (Ck Z IT Z Z Z) (J (Zca Z OC Z Z Z) (J (D0 Z Z Aq Z) ?_))))))));rw [show ((E[l[k]]).1.id:Int)=(Dg E l[k]).id by rw [Df hlk]];refine V (D1 30 BW Z Z Z Z Z Z Z Z) (V (I0 (T) ([(Dg E l[k]).id]) Z Z Z Z Z Z Z Z BW (by simp only [Ψ];omega) Z Z Z Z) (AB Z Z (AD (AE (J (Ay Z Z (AT (k+1) (by omega)) Z) (goMv Z Z (AD ?_)))))));exact ⟨(k+1,T++ [(Dg E l[k]).id]),⟨hkl,by show _=E2 E (l.take (k+1));rw [hT];unfold E2;rw [φ hkl,ωe];rfl⟩,by show l.length - (k+1)<l.length - k;omega,A0 hF [10] Z (Z) ⟨Z,Z,Z,Z,Z,trivial⟩⟩
 ·refine BC (AC ?_);have hke:k=l.length:=by have:=h11;omega
  rw [hke,ωw] at hT;refine L3 (emb:=AF) 5 10 T Z Z Z Z Z Z Z ?_;rw [hT];refine AE (goMv Z Z (AB Z Z (AD (A5 ?_))));exact ⟨_,[],[],A3 Z,Z,Z,Z,Z⟩
end Go.Proofs.YteifpcnphnhaoaaGreat
namespace Go.Proofs.YteifpcnphnhaoaaGreat
noncomputable def dec (p:Prop):Bool:= @decide p (Classical.propDecidable p)
theorem E6 {p:Prop}:dec p=true↔p:= @decide_eq_true_iff p (Classical.propDecidable p)
theorem cR {p:Prop} (h:p):dec p=true:=E6.2 h
theorem dec_f {p:Prop} (h:¬p):dec p=false:=by
 cases e:dec p with
 | false=>rfl
 | true=>exact absurd (E6.1 e) h
theorem cS {p q:Prop} [Decidable p] (h:p↔q):decide p=dec q:=by
 by_cases e:p
 ·rw [ωc e,cR (h.1 e)]
 ·rw [ωp e,dec_f fun h2=>e (h.2 h2)]
def Qj (rs:List AP) (a b:AK):Prop:=b.id∈a.af∨a.id∈b.af∨∃r,r∈(dR rs a).map Prod.fst∧r∈(dR rs b).map Prod.fst
noncomputable instance (rs:List AP) (a b:AK):Decidable (Qj rs a b):=Classical.propDecidable _
theorem Qj.symm {rs:List AP} {a b:AK} (h:Qj rs a b):Qj rs b a:=by
 rcases h with h | h | ⟨r,h1,h2⟩
 ·exact .inr (.inl h)
 ·exact .inl h
 ·exact .inr (.inr ⟨r,h2,h1⟩)
noncomputable def nbI (rs:List AP) (E:List (AK×Nat)) (i:Nat):List Nat:=(List.range E.length).filter fun j=>decide (i<E.length∧Qj rs (Dg E i) (Dg E j))
theorem Ds {rs:List AP} {E:List (AK×Nat)} {i j:Nat}:j∈nbI rs E i↔i<E.length∧j<E.length∧Qj rs (Dg E i) (Dg E j):=by
 unfold nbI;rw [Ω,Θ,ωs];exact ⟨fun h=>⟨h.2.1,h.1,h.2.2⟩,fun h=>⟨h.2.1,h.1,h.2.2⟩⟩
def Cn (rs:List AP) (E:List (AK×Nat)):Nat ->Nat ->Prop:=Rh (nbI rs E)
theorem Rh.sym {suc:Nat ->List Nat} (hs:∀i j,j∈suc i ->i∈suc j) {a b:Nat} (h:Rh suc a b):Rh suc b a:=by
 induction h with
 | refl=>exact .refl _
 | step _ e ih=>exact (Rh.one (hs _ _ e)).trans ih
theorem Cn.symm {rs:List AP} {E:List (AK×Nat)} {i j:Nat} (h:Cn rs E i j):Cn rs E j i:=
 Rh.sym (fun i j h=>Ds.2 ⟨(Ds.1 h).2.1,(Ds.1 h).1,(Ds.1 h).2.2.symm⟩) h
def DR (f:Nat ->Nat) (a b:Nat):Nat ->Nat:=fun k=>if f k=max (f a) (f b) then min (f a) (f b) else f k
theorem G6 {f:Nat ->Nat} {a b i j:Nat} (h:f i=f j):DR f a b i=DR f a b j:=by unfold DR;rw [h]
theorem PS {f:Nat ->Nat} {a b:Nat}:DR f a b a=DR f a b b:=by
 unfold DR
 by_cases h:f a≤f b
 ·rw [Nat.max_eq_right h,Nat.min_eq_left h,θ rfl];split<;>rfl
 ·have h':f b≤f a:=by omega
  rw [Nat.max_eq_left h',Nat.min_eq_right h',θ rfl];split<;>rfl
structure UF (n:Nat) (C:Nat ->Nat ->Prop) (f:Nat ->Nat):Prop where
 le:∀k,k<n ->f k≤k
 ff:∀k,k<n ->f (f k)=f k
 snd:∀i j,i<n ->j<n ->f i=f j ->C i j
theorem UF.join {n:Nat} {C:Nat ->Nat ->Prop} {f:Nat ->Nat} (h:UF n C f) (ht:∀i j k,C i j ->C j k ->C i k) (hs:∀i j,C i j ->C j i) {a b:Nat} (ha:a<n) (hb:b<n) (hab:C a b):UF n C (DR f a b):=by
 have hm:min (f a) (f b)=f a∨min (f a) (f b)=f b:=by omega
 have hM:max (f a) (f b)=f a∨max (f a) (f b)=f b:=by omega
 have hfm:f (min (f a) (f b))=min (f a) (f b):=by
  rcases hm with e | e
  ·rw [e];exact h.ff a ha
  ·rw [e];exact h.ff b hb
 have hcl:∀i,i<n ->f i=max (f a) (f b) ->C i a:=fun i hi e=>by
  rcases hM with e2 | e2
  ·exact h.snd i a hi ha (e.trans e2)
  ·exact ht _ _ _ (h.snd i b hi hb (e.trans e2)) (hs _ _ hab)
 have hcm:∀i,i<n ->f i=min (f a) (f b) ->C i a:=fun i hi e=>by
  rcases hm with e2 | e2
  ·exact h.snd i a hi ha (e.trans e2)
  ·exact ht _ _ _ (h.snd i b hi hb (e.trans e2)) (hs _ _ hab)
 refine ⟨fun k hk=>?_,fun k hk=>?_,fun i j hi hj e=>?_⟩
 ·have:=h.le k hk;unfold DR;split<;>omega
 ·by_cases e:f k=max (f a) (f b)
  ·have e1:DR f a b k=min (f a) (f b):=θ e;rw [e1];unfold DR;rw [hfm]
   split<;>rfl
  ·have e1:DR f a b k=f k:=ϑ e;rw [e1];unfold DR;rw [h.ff k hk,ϑ e]
 ·unfold DR at e
  by_cases e1:f i=max (f a) (f b)<;>by_cases e2:f j=max (f a) (f b)
  ·exact h.snd i j hi hj (e1.trans e2.symm)
  ·rw [θ e1,ϑ e2] at e;exact ht _ _ _ (hcl i hi e1) (hs _ _ (hcm j hj e.symm))
  ·rw [ϑ e1,θ e2] at e;exact ht _ _ _ (hcm i hi e) (hs _ _ (hcl j hj e2))
  ·rw [ϑ e1,ϑ e2] at e;exact h.snd i j hi hj e
theorem UF.id (n:Nat) {C:Nat ->Nat ->Prop} (hr:∀i,C i i):UF n C (fun k=>k):=⟨fun _ _=>ϖ _,fun _ _=>rfl,fun i j _ _ (e:i=j)=>by subst e;exact hr i⟩
noncomputable def clsN (n:Nat) (C:Nat ->Nat ->Prop):List (List Nat):=((List.range n).filter fun k=>dec (∀j,j<k ->¬C k j)).map fun k=>(List.range n).filter fun j=>dec (C k j)
def Xr (n:Nat) (f:Nat ->Nat) (k:Nat):List Nat:=(List.range n).filter fun j=>decide (f j=k)
def J8 (n m:Nat) (f:Nat ->Nat):List (List Nat):=((List.range m).filter fun k=>decide (f k=k)).map (Xr n f)
theorem bN {n m:Nat} {f:Nat ->Nat} (h:f m=m):J8 n (m+1) f=J8 n m f++ [Xr n f m]:=by
 unfold J8;rw [ψm,ψc,ωe];simp [h]
theorem Xq {n m:Nat} {f:Nat ->Nat} (h:¬f m=m):J8 n (m+1) f=J8 n m f:=by
 unfold J8;rw [ψm,ψc,ωe];simp [h]
theorem bM (n m:Nat) (f:Nat ->Nat):(J8 n m f).length≤m:=by
 unfold J8;rw [ψ];exact ωf (ωj _ _) (by rw [ωh];exact ϖ _)
theorem lab_cls {n:Nat} {C:Nat ->Nat ->Prop} {f:Nat ->Nat} (h:UF n C f) (hc:∀i j,i<n ->j<n ->C i j ->f i=f j):J8 n n f=clsN n C:=by
 have hle:∀k,k<n ->(f k=k↔∀j,j<k ->¬C k j):=fun k hk=>by
  constructor
  ·intro e j hj hC;have h1:=hc k j hk (by omega) hC;have h2:=h.le j (by omega);omega
  ·intro hn;have h1:=h.le k hk;rcases χm (f k) k with h2 | h2
   ·exact absurd (h.snd k (f k) hk (by omega) (h.ff k hk).symm) (hn _ h2)
   ·omega
 unfold J8 clsN;rw [show ((List.range n).filter fun k=>decide (f k=k))=(List.range n).filter fun k=>dec (∀j,j<k ->¬C k j) from χq fun k hk=>cS (hle k (Θ.1 hk))];refine ωi fun k hk=>?_;obtain ⟨hk1,hk2⟩:=Ω.1 hk;have hkn:=Θ.1 hk1;have hfk:f k=k:=(hle k hkn).2 (E6.1 hk2);unfold Xr;refine χq fun j hj=>cS ?_;have hjn:=Θ.1 hj;exact ⟨fun e=>h.snd k j hkn hjn (by rw [hfk,e]),fun hC=>by rw [←hc k j hkn hjn hC,hfk]⟩
structure O5 (rs:List AP) (E:List (AK×Nat)) (P:Nat ->AP ->Prop) (U:List (AP×Nat)) (f:Nat ->Nat):Prop where
 ok:∀e∈U,e.2<E.length∧e.1∈(dR rs (Dg E e.2)).map Prod.fst
 has:∀k r,P k r ->r∈U.map Prod.fst∧f (A2 U r 0)=f k
theorem O5.keep {rs:List AP} {E:List (AK×Nat)} {P:Nat ->AP ->Prop} {U:List (AP×Nat)} {f f':Nat ->Nat} (h:O5 rs E P U f) (hf:∀i j,f i=f j ->f' i=f' j):O5 rs E P U f':=
 ⟨h.ok,fun k r hp=>⟨(h.has k r hp).1,hf _ _ (h.has k r hp).2⟩⟩
theorem O5.mono {rs:List AP} {E:List (AK×Nat)} {P P':Nat ->AP ->Prop} {U:List (AP×Nat)} {f:Nat ->Nat} (h:O5 rs E P U f) (hp:∀k r,P' k r ->P k r):O5 rs E P' U f:=⟨h.ok,fun k r h2=>h.has k r (hp k r h2)⟩
theorem mget_ok {U:List (AP×Nat)} {r:AP} (h:r∈U.map Prod.fst):(r,A2 U r 0)∈U:=H8 h
theorem O5.new {rs:List AP} {E:List (AK×Nat)} {P P':Nat ->AP ->Prop} {U:List (AP×Nat)} {f:Nat ->Nat} (h:O5 rs E P U f) {r:AP} {k:Nat} (hr:r∉U.map Prod.fst) (hk:k<E.length) (hu:r∈(dR rs (Dg E k)).map Prod.fst) (hp:∀i s,P' i s ->P i s∨(i=k∧s=r)):O5 rs E P' (Au U r k) f:=by
 rw [Db hr];refine ⟨fun e he=>?_,fun i s hi=>?_⟩
 ·rcases υ.1 he with he | he
  ·exact h.ok e he
  ·rw [ξ.1 he];exact ⟨hk,hu⟩
 ·rw [←Db hr,H7];rcases hp i s hi with h1 | ⟨rfl,rfl⟩
  ·obtain ⟨h2,h3⟩:=h.has i s h1;have hne:s≠r:=fun e=>hr (by rw [←e];exact h2);rw [ϑ hne];exact ⟨by rw [Db hr,ωe];exact ψr _ h2,h3⟩
  ·rw [θ rfl];exact ⟨by rw [Db hr,ωe];simp,Z⟩
theorem O5.join {rs:List AP} {E:List (AK×Nat)} {P P':Nat ->AP ->Prop} {U:List (AP×Nat)} {f:Nat ->Nat} (h:O5 rs E P U f) {r:AP} {k:Nat} (hr:r∈U.map Prod.fst) (hp:∀i s,P' i s ->P i s∨(i=k∧s=r)):O5 rs E P' U (DR f (A2 U r 0) k):=
 ⟨h.ok,fun i s hi=>(hp i s hi).elim (fun h1=>⟨(h.has i s h1).1,G6 (h.has i s h1).2⟩) fun ⟨e1,e2⟩=>by subst e1 e2;exact ⟨hr,PS⟩⟩
theorem O5.zero (rs:List AP) (E:List (AK×Nat)) (f:Nat ->Nat):O5 rs E (fun _ _=>False) [] f:=⟨fun e he=>(by cases he),fun k r h=>h.elim⟩
def La (E:List (AK×Nat)) (k:Nat):List (Int×Nat):=(List.range k).map fun j=>((Dg E j).id,j)
theorem aD (E:List (AK×Nat)) (k:Nat):La E (k+1)=La E k++ [((Dg E k).id,k)]:=by unfold La;rw [ψm,ωe];rfl
theorem Vf {E:List (AK×Nat)} {k:Nat} {x:Int}:x∈(La E k).map Prod.fst↔∃j,j<k∧(Dg E j).id=x:=by
 unfold La;rw [ωr,ν];exact ⟨fun ⟨j,hj,e⟩=>⟨j,Θ.1 hj,e⟩,fun ⟨j,hj,e⟩=>⟨j,Θ.2 hj,e⟩⟩
def IdI (E:List (AK×Nat)):Prop:=∀i j,i<E.length ->j<E.length ->(Dg E i).id=(Dg E j).id ->i=j
theorem plc_put {E:List (AK×Nat)} (hi:IdI E) {k:Nat} (hk:k<E.length):Au (La E k) (Dg E k).id k=La E (k+1):=by
 rw [Db fun hm=>by
  obtain ⟨j,hj,e⟩:=Vf.1 hm;have:=hi j k (by omega) hk e
  omega,aD]
theorem Ve {E:List (AK×Nat)} (hi:IdI E) {x:Int} (h:x∈(La E E.length).map Prod.fst):A2 (La E E.length) x 0<E.length∧(Dg E (A2 (La E E.length) x 0)).id=x:=by
 have h1:(x,A2 (La E E.length) x 0)∈La E E.length:=H8 h;obtain ⟨j,hj,e⟩:=ν.1 h1;injection e with e1 e2
 rw [←e2];exact ⟨Θ.1 hj,e1⟩
theorem aF {E:List (AK×Nat)} (hi:IdI E) {j:Nat} (hj:j<E.length):(Dg E j).id∈(La E E.length).map Prod.fst∧A2 (La E E.length) (Dg E j).id 0=j:=by
 have h1:(Dg E j).id∈(La E E.length).map Prod.fst:=Vf.2 ⟨j,hj,Z⟩;obtain ⟨h2,h3⟩:=Ve hi h1;exact ⟨h1,hi _ _ h2 hj h3⟩
end Go.Proofs.YteifpcnphnhaoaaGreat
namespace Go.Proofs.YteifpcnphnhaoaaGreat
open Go.RowKit
abbrev rowN (n:Nat) (f:Nat ->Nat):List D:=(List.range n).map fun v=>AN (f v)
abbrev D6 (n:Nat) (f:Nat ->Int):List D:=(List.range n).map fun v=>AF (f v)
theorem Ht {n i:Nat} {f:Nat ->Nat} (h:i<n):(rowN n f)[i]? =some (AN (f i)):=by simp [h]
theorem R1 {n i:Nat} {f:Nat ->Int} (h:i<n):(D6 n f)[i]? =some (AF (f i)):=by simp [h]
theorem Lm {n i:Nat} {f h:Nat ->D} (he:∀j,j<n ->j≠i ->f j=h j) {x:D} (hx:x=h i):((List.range n).map f).set i x=(List.range n).map h:=by
 refine χa (by simp) fun j h1 h2=>?_;rw [List.getElem_set];simp only [ψ,ωh] at h2;simp only [ωb,ψp]
 by_cases e:i=j
 ·subst e;rw [θ rfl];exact hx
 ·rw [ϑ e];exact he j h2 fun e'=>e e'.symm
theorem dF {n i x:Nat} {f:Nat ->Nat}:(rowN n f).set i (AN x)=rowN n (Ar f i x):=
 Lm (fun j _ hne=>by rw [GL hne]) (by rw [KH])
theorem Zj {n i:Nat} {x:Int} {f:Nat ->Int}:(D6 n f).set i (AF x)=D6 n (Ar f i x):=
 Lm (fun j _ hne=>by rw [GL hne]) (by rw [KH])
theorem dE (n:Nat) (f:Nat ->Nat):(rowN n f).length=n:=by simp
theorem HS (n:Nat) (f:Nat ->Int):(D6 n f).length=n:=by simp
theorem repN (n:Nat):List.replicate n (D.raw (.int .i64 0))=rowN n (fun _=>0):=by
 refine χa (by simp) fun j h1 h2=>?_
 simp
theorem repI (n:Nat):List.replicate n (D.raw (.int .i64 0))=D6 n (fun _=>0):=by
 refine χa (by simp) fun j h1 h2=>?_
 simp
abbrev Sh (f:Nat×Nat):D:= .agg [AN f.1,AN f.2]
def pend:Option Nat ->List (Nat×Nat)
 | none=> []
 | some v=> [(v,0)]
theorem FT {l j:List (Nat×Nat)} {x:Nat×Nat} {k:Nat} (h:k=l.length):((l++ [x]++j).map Sh)[k]? =some (Sh x):=by
 subst h;simp
theorem setF {l j:List (Nat×Nat)} {x y:Nat×Nat} {k:Nat} (h:k=l.length):((l++ [x]++j).map Sh).set k (Sh y)=(l++ [y]++j).map Sh:=by
 subst h;simp
theorem takeF (l j:List (Nat×Nat)) {x:Nat×Nat}:((l++j).map Sh).take l.length++ [Sh x].take 1=(l++ [x]).map Sh:=by
 rw [←List.map_take,List.take_left];simp
theorem bA (a b:Nat):(if (b:Int)<(a:Int) then (b:Int) else (a:Int))=((min a b:Nat):Int):=by
 split<;>omega
def mu (n:Nat) (suc:Nat ->List Nat) (S:TS):Nat:=((List.range n).map fun v=>if S.idx v=0 then (suc v).length+1 else 0).sum+(S.cs.map fun f=>(suc f.1).length - f.2+1).sum
theorem ar {n:Nat} {suc:Nat ->List Nat} {S:TS} {v:Nat} (hv:v<n) (h0:S.idx v=0) {l:Nat ->Nat} {st:List Nat} {c:Nat}:
  mu n suc ⟨Ar S.idx v (S.clk+1),l,S.of,st,S.cs++ [(v,0)],S.cnt,c⟩=mu n suc S:=by
 unfold mu;dsimp only
 have:=VY (n:=n) (i:=v) (f:=fun v=>if S.idx v=0 then (suc v).length+1 else 0) (h:=fun u=>if Ar S.idx v (S.clk+1) u=0 then (suc u).length+1 else 0) (c:=(suc v).length+1) hv
  (fun k _ hne=>by rw [GL hne]) (by rw [KH,θ h0,ϑ (by omega)];omega)
 rw [this,ωe,χc];simp only [ωm,List.map_nil,χd,List.sum_nil];omega
theorem Kf {n:Nat} {suc:Nat ->List Nat} {S:TS} {cs0:List (Nat×Nat)} {v k:Nat} (h:S.cs=cs0++ [(v,k)]) (hk:k<(suc v).length) {l:Nat ->Nat}:mu n suc {S with low:=l,cs:=cs0++ [(v,k+1)]}<mu n suc S:=by
 unfold mu;rw [h];dsimp only;rw [ωe,ωe,χc,χc];simp only [ωm,List.map_nil,χd,List.sum_nil];omega
theorem H6 {n:Nat} {suc:Nat ->List Nat} {S:TS} {cs0:List (Nat×Nat)} {v k:Nat} (h:S.cs=cs0++ [(v,k)]) {l:Nat ->Nat} {o:Nat ->Int} {st:List Nat} {c:Nat}:mu n suc ⟨S.idx,l,o,st,cs0,c,S.clk⟩<mu n suc S:=by
 unfold mu;rw [h];dsimp only;rw [ωe,χc];simp only [ωm,List.map_nil,χd,List.sum_nil];omega
structure TH (n:Nat) (suc:Nat ->List Nat) (r:Nat) (S:TS) (p:Option Nat):Prop where
 ti:TI n suc S p
 k1:∀f∈S.cs,1≤f.2
 old:∀v,v<r ->S.idx v≠0
 rt:S.idx r≠0∨p=some r
structure TB (n:Nat) (suc:Nat ->List Nat) (r:Nat) (S:TS) (cs0:List (Nat×Nat)) (v k:Nat):Prop where
 ti:TI n suc S none
 hcs:S.cs=cs0++ [(v,k)]
 k1:∀f∈cs0,1≤f.2
 old:∀v,v<r ->S.idx v≠0
 rt:S.idx r≠0
theorem th_last {n:Nat} {suc:Nat ->List Nat} {r:Nat} {S:TS} {p:Option Nat} (h:TH n suc r S p) (hne:S.cs++pend p≠ []):∃cs0 v k,S.cs++pend p=cs0++ [(v,k)]∧v<n∧(k=0 ->S.cs=cs0∧p=some v)∧(k≠0 ->S.cs=cs0++ [(v,k)]∧p=none):=by
 cases p with
 | some v=>exact ⟨S.cs,v,0,Z,(h.ti.pnd v Z).1,fun _=>⟨Z,Z⟩,fun h=>(h Z).elim⟩
 | none=>
  rw [pend,ωl] at hne⊢;rcases List.eq_nil_or_concat S.cs with e | ⟨l,⟨v,k⟩,e⟩
  ·exact (hne e).elim
  ·rw [List.concat_eq_append] at e;have hm:(v,k)∈S.cs:=by rw [e];exact ψi _ (ξ.2 Z)
   have:=h.k1 _ hm;have hv:=h.ti.lt v ((h.ti.st v).1 (h.ti.csm _ hm)).1;exact ⟨l,v,k,e,hv,fun hk=>by dsimp only at this;omega,fun _=>⟨e,Z⟩⟩
theorem ZA {n:Nat} {suc:Nat ->List Nat} {r:Nat} {S:TS} {v:Nat} (h:TH n suc r S (some v)):
  TB n suc r ⟨Ar S.idx v (S.clk+1),Ar S.low v (S.clk+1),S.of,S.st++ [v],S.cs++ [(v,0)],S.cnt,S.clk+1⟩ S.cs v 0:=by
 refine ⟨Yx h.ti,Z,h.k1,fun w hw=>?_,?_⟩
 ·show Ar S.idx v (S.clk+1) w≠0
  by_cases e:w=v
  ·subst e;rw [KH];omega
  ·rw [GL e];exact h.old w hw
 ·show Ar S.idx v (S.clk+1) r≠0
  by_cases e:r=v
  ·subst e;rw [KH];omega
  ·rw [GL e];exact h.rt.resolve_right fun e'=>e (Option.some.inj e').symm
theorem tb_old {n:Nat} {suc:Nat ->List Nat} {r:Nat} {S:TS} {cs0:List (Nat×Nat)} {v k:Nat} (h:TH n suc r S none) (hcs:S.cs=cs0++ [(v,k)]):TB n suc r S cs0 v k:=
 ⟨h.ti,hcs,fun f hf=>h.k1 f (by rw [hcs];exact ψr _ hf),h.old,h.rt.resolve_right fun e=>by cases e⟩
theorem Ih {n:Nat} {suc:Nat ->List Nat} {r:Nat} {S:TS} {cs0:List (Nat×Nat)} {v k:Nat} (h:TB n suc r S cs0 v k):v<n∧v∈S.st∧S.idx v≠0∧k≤(suc v).length:=by
 have hm:(v,k)∈S.cs:=by rw [h.hcs];exact ψi _ (ξ.2 Z)
 have h1:=h.ti.csm _ hm;have h2:=((h.ti.st v).1 h1).1;exact ⟨h.ti.lt v h2,h1,h2,(h.ti.gry _ hm).1⟩
theorem ZC {n:Nat} {suc:Nat ->List Nat} {r:Nat} {S:TS} {cs0:List (Nat×Nat)} {v k j:Nat} (h:TB n suc r S cs0 v k) (hj:(suc v)[k]? =some j) (hjn:j<n) (h0:S.idx j=0):
  TH n suc r {S with cs:=cs0++ [(v,k+1)]} (some j):=by
 refine ⟨Ts h.ti h.hcs hj hjn (low':=S.low) (fun w=>ϖ _) (fun w hw=>(h.ti.lw w hw).2) (.inr Z) (fun x e=>⟨(Option.some.inj e).symm,h0⟩) (fun hm=>absurd h0 ((h.ti.st j).1 hm).1),fun f hf=>?_,h.old,.inl h.rt⟩;rcases υ.1 hf with hf | hf
 ·exact h.k1 f hf
 ·rw [ξ.1 hf];show 1≤k+1;omega
theorem ZD {n:Nat} {suc:Nat ->List Nat} {r:Nat} {S:TS} {cs0:List (Nat×Nat)} {v k j:Nat} (h:TB n suc r S cs0 v k) (hj:(suc v)[k]? =some j) (hjn:j<n) (h0:S.idx j≠0) (ho:S.of j<0):
  TH n suc r {S with low:=Ar S.low v (min (S.low v) (S.idx j)),cs:=cs0++ [(v,k+1)]} none:=by
 have hjs:j∈S.st:=(h.ti.st j).2 ⟨h0,ho⟩;refine ⟨Ts h.ti h.hcs hj hjn (fun w=>?_) (fun w hw=>?_) (.inl h0) (fun x e=>by cases e) (fun _=>by rw [KH];omega),fun f hf=>?_,h.old,.inl h.rt⟩
 ·by_cases e:w=v
  ·subst e;rw [KH];omega
  ·rw [GL e];exact ϖ _
 ·by_cases e:w=v
  ·subst e;rw [KH];rcases χm (S.idx j) (S.low w) with hl | hl
   ·exact ⟨j,hjs,by omega,Rh.one (ζ hj)⟩
   ·obtain ⟨y,hy,e1,e2⟩:=(h.ti.lw w hw).2;exact ⟨y,hy,by omega,e2⟩
  ·rw [GL e];exact (h.ti.lw w hw).2
 ·rcases υ.1 hf with hf | hf
  ·exact h.k1 f hf
  ·rw [ξ.1 hf];show 1≤k+1;omega
theorem VR {n:Nat} {suc:Nat ->List Nat} {r:Nat} {S:TS} {cs0:List (Nat×Nat)} {v k j:Nat} (h:TB n suc r S cs0 v k) (hj:(suc v)[k]? =some j) (hjn:j<n) (h0:S.idx j≠0) (ho:¬S.of j<0):
  TH n suc r {S with cs:=cs0++ [(v,k+1)]} none:=by
 refine ⟨Ts h.ti h.hcs hj hjn (low':=S.low) (fun w=>ϖ _) (fun w hw=>(h.ti.lw w hw).2) (.inl h0) (fun x e=>by cases e) (fun hm=>absurd ((h.ti.st j).1 hm).2 ho),fun f hf=>?_,h.old,.inl h.rt⟩;rcases υ.1 hf with hf | hf
 ·exact h.k1 f hf
 ·rw [ξ.1 hf];show 1≤k+1;omega
theorem maxNN (a b:Nat):(if (b:Int)>(a:Int) then (b:Int) else (a:Int))=((max a b:Nat):Int):=by split<;>omega
def U3 (f:Nat ->Nat) (a b k:Nat):Nat ->Nat:=fun j=>if j<k then DR f a b j else f j
theorem bU (f:Nat ->Nat) (a b:Nat):U3 f a b 0=f:=by funext j;unfold U3;rw [ϑ (by omega)]
theorem joK_at (f:Nat ->Nat) (a b k:Nat):U3 f a b k k=f k:=ϑ (by omega)
theorem joK_hit {f:Nat ->Nat} {a b k:Nat} (h:f k=max (f a) (f b)):Ar (U3 f a b k) k (min (f a) (f b))=U3 f a b (k+1):=by
 funext j
 by_cases e:j=k
 ·subst e;rw [KH];unfold U3;rw [θ (by omega)];unfold DR;rw [θ h]
 ·rw [GL e];unfold U3
  by_cases hj:j<k
  ·rw [θ hj,θ (by omega)]
  ·rw [ϑ hj,ϑ (by omega)]
theorem bV {f:Nat ->Nat} {a b k:Nat} (h:¬f k=max (f a) (f b)):U3 f a b (k+1)=U3 f a b k:=by
 funext j
 by_cases e:j=k
 ·subst e;unfold U3;rw [θ (by omega),ϑ (by omega)];unfold DR;rw [ϑ h]
 ·unfold U3
  by_cases hj:j<k
  ·rw [θ hj,θ (by omega)]
  ·rw [ϑ hj,ϑ (by omega)]
theorem Oo {n:Nat} {f h:Nat ->Nat} (e:∀j,j<n ->f j=h j):rowN n f=rowN n h:=ωi fun j hj=>by rw [e j (Θ.1 hj)]
abbrev HJ (n:Nat) (f:Nat ->Nat):Hp:=[(930,[.blk 28 [.own 931 0 n]]),(931,[.rowD 3 1 (rowN n f)])]
set_option maxRecDepth 100000 in
theorem WO (n:Nat) (f:Nat ->Nat) (a b:Nat) (ha:a<n) (hb:b<n) (hn:n≤100000):AM Tryz.prog 67 [.d (AN a),.d (AN b),.ptr 930 0 0] (HJ n f) fun r H'=>r= .tup []∧H'=HJ n (DR f a b):=by
 refine Az Tryz.func67 Z Z Tryz.ntmps67 Z Z Z fun F hF=>(AC (Cb [[],[],[0,1],[0,1,2],[],[],[4,5],[4,5,6],[0,1,2,3,4,5,6,7],[],[],[9,10],[9,10,11],[],[],[13,14],[13,14,15],[9,10,11,12,13,14,15,16],[0,1,2,3,4,5,6,7,8],[0,1,2,3,4,5,6,7,8,9,10,11,12,13,14,15,16,17,18]] mixed Z (Cr (At [2] Z Z (fun _=>AG (A6 Z Z Z BI Z)) (AJ [0] [] Z Z (fun _=>AG (Aj Z Z)) (At [8,9] Z Z (fun _=>AG (Br (a) Z Z (Z) (ha) Z Tryz.underlying28 BA Z)) (At [10] Z Z (fun _=>AG (Bw Z Z (Ht ha) Z Aq Z)) (At [2] Z Z (fun _=>AG (A6 Z Z Z BI Z)) ?_))))))));refine AJ [1] [] Z Z (fun _=>AG (Aj Z Z)) (At [12,13] Z Z (fun _=>AG (Br (b) Z Z (Z) (hb) Z Tryz.underlying28 BA Z)) (At [14] Z Z (fun _=>AG (Bw Z Z (Ht hb) Z Aq Z)) (AJ [11,15] [] Z Z (fun _=>AG (Pi Z Z (maxNN _ _) Z)) (At [2] Z Z (fun _=>AG (A6 Z Z Z BI Z)) (AJ [0] [] Z Z (fun _=>AG (Aj Z Z)) (At [17,18] Z Z (fun _=>AG (Br (a) Z Z (Z) (ha) Z Tryz.underlying28 BA Z)) (At [19] Z Z (fun _=>AG (Bw Z Z (Ht ha) Z Aq Z)) (At [2] Z Z (fun _=>AG (A6 Z Z Z BI Z)) ?_))))))));refine AJ [1] [] Z Z (fun _=>AG (Aj Z Z)) (At [21,22] Z Z (fun _=>AG (Br (b) Z Z (Z) (hb) Z Tryz.underlying28 BA Z)) (At [23] Z Z (fun _=>AG (Bw Z Z (Ht hb) Z Aq Z)) (AJ [20,24] [] Z Z (fun _=>AG (KV Z Z (bA _ _) Z)) (AJ [16] [] Z Z (fun _=>AG (IA Z Z)) (C3 19 Z Z Z (Aa 20 Z Z (AB Z Z (AD ⟨Z,?_⟩))))))));refine C9 (AC (AE (J (A6 Z Z Z BI Z) (J (KM Z Tryz.underlying28 Z) (goMv Z Z (AD (A4 ?_)))))));have e0:rowN n f=rowN n (U3 f a b 0):=(by rw [bU]);unfold HJ;rw [e0];refine B5 (α:=Nat) (fun k=>⟨42,[(2,(.ptr 930 0 0)),(5,(.d (AN (max (f a) (f b))))),(6,(.d (AN (min (f a) (f b))))),(27,(.d (AN n))),(28,(.d (AN k)))],[(930,[.blk 28 [.own 931 0 n]]),(931,[.rowD 3 1 (rowN n (U3 f a b k))])]⟩) (fun k=>k≤n) (fun k=>n - k) (0) (Δ _) (A0 hF [930,931] Z Z ⟨Z,Z,Z,Z,Z,trivial⟩) ?_;rintro k hk;refine AC (AE (J (BV Z Z Z) (AD (AC (Ae Z (fun h29=>?_) (fun h29=>?_))))))
 ·refine A1 (AC (A4 (AC ?_)));have hkl:k<n:=Bf h29;refine AE ?_;refine goMv Z Z (AB Z Z (AD (AC (AE (J (A6 Z Z Z BI Z) (goMv Z Z (J (Br (k) Z Z (Z) (hkl) Z Tryz.underlying28 BA Z) (J (Bw Z Z (Ht hkl) Z Aq Z) ?_))))))));rw [joK_at];refine goMv Z Z (J (KL Z Z Z) (AD (Ae Z (fun h36=>?_) (fun h36=>?_))))
  ·have h36n:f k=max (f a) (f b):=Int.ofNat.inj h36;refine AE (J (A6 Z Z Z BI Z) (goMv Z Z (goMv Z Z (J (Br (k) Z Z (Z) (hkl) Z Tryz.underlying28 BA Z) (V (Qe Z Z Z Z Z (by rw [dE];exact hkl) dF Z BA) ?_)))));rw [joK_hit h36n];refine AD (AE (J (Ay Z Z (AT (k+1) (by omega)) Z) (goMv Z Z (AD ?_))));exact ⟨k+1,hkl,by omega,A0 hF [930,931] Z (Z) ⟨Z,Z,Z,Z,Z,trivial⟩⟩
  ·have h36n:¬f k=max (f a) (f b):=fun e=>h36 (by rw [e]);refine A1 (AE (J (Ay Z Z (AT (k+1) (by omega)) Z) (goMv Z Z (AD ?_))));exact ⟨k+1,hkl,by omega,A0 hF [930,931] Z (by simp only [bV h36n];rfl) ⟨Z,Z,Z,Z,Z,trivial⟩⟩
 ·refine BC ?_;exact ⟨_,[930,931],_,A3 Z,Z,Z,Z,by rw [Oo (f:=DR f a b) (h:=U3 f a b k) fun j hj=>by unfold U3;rw [θ (by have:=h29;omega)]]⟩
end Go.Proofs.YteifpcnphnhaoaaGreat
