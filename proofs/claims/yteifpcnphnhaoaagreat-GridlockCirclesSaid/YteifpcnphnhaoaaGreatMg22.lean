import Derived.Test.YteifpcnphnhaoaaGreatMg21
namespace Go.Proofs.YteifpcnphnhaoaaGreat
open Go.RowKit
set_option maxRecDepth 100000
def FU (ros:List A2) (its:List AK):Nat ->(Nat ->Bool) ->List Nw×(Nat ->Bool)
 | 0,on=>([],on)
 | f+1,on=>match FD (netS ros its on) with
  | none=>([],on)
  | some e=>(e::(FU ros its f (Ac on ((its.map AK.id).idxOf e.id))).1,(FU ros its f (Ac on ((its.map AK.id).idxOf e.id))).2)
def EQ (n:Nat) (on:Nat ->Bool):Nat:=((List.range n).filter on).length
def LX (p:Prb):List Nw×(Nat ->Bool):=FU (Co p) (ordP p) (ordP p).length fun _=>true
def EL (its:List AK) (on:Nat ->Bool) (k:Nat):List Int:=((List.range k).filter on).map fun i=>(its.getD i A0).id
theorem LD {n i:Nat} (hi:i<n) {on:Nat ->Bool} (ho:on i=true):EQ n (Ac on i)+1=EQ n on:=by
 obtain ⟨B,h1,h3⟩:=IM hi;unfold EQ;rw [h1,ψa,ψa,Δ,Δ,φh,φh,GC,ho];have e1:(List.range i).filter (Ac on i)=(List.range i).filter on:=χp fun j hj=>Zct (by have:=Ξ.1 hj;omega);have e2:B.filter (Ac on i)=B.filter on:=χp fun j hj=>Zct (by have:=h3 j hj;omega);rw [e1,e2]
 simp
 omega
theorem PQ {α:Type} [BEq α] [LawfulBEq α] {l:List α} (hn:l.Nodup) {i:Nat} (hi:i<l.length):l.idxOf l[i]=i:=by
 have h1:l.idxOf l[i]<l.length:=ψp (κ hi);have h2:=φe h1;exact (List.getElem_inj hn).1 h2
theorem RX {ros:List A2} {its:List AK} {f:Nat} {on:Nat ->Bool} (h:FD (netS ros its on)=none):FU ros its f on=([],on):=by
 cases f with
 | zero=>rfl
 | succ f=>unfold FU;rw [h]
theorem RW {ros:List A2} {its:List AK} {f:Nat} {on:Nat ->Bool} {e:Nw} (h:FD (netS ros its on)=some e):FU ros its (f+1) on=(e::(FU ros its f (Ac on ((its.map AK.id).idxOf e.id))).1,(FU ros its f (Ac on ((its.map AK.id).idxOf e.id))).2):=by
 show (match FD (netS ros its on) with | none=>_ | some e=>_)=_;rw [h]
theorem Qe {ros:List A2} {its:List AK} {on:Nat ->Bool} {N:Net} (h:Au N=netS ros its on) {i:Nat} {x:Nd} (hx:N.nd[i]? =some x):i<its.length∧x.on=on i∧x.it=its.getD i A0:=by
 have h1:(N.nd.map EC)[i]? =some (EC x):=by rw [η,hx];rfl
 rw [show N.nd.map EC=(List.range its.length).map (Qi (ros.map A2.r) its on) from Γ Net.nd h] at h1;have hi:i<its.length:=by have:=(χ.1 h1).1;simpa using this
 rw [η,ψt hi] at h1;have h2:EC x=Qi (ros.map A2.r) its on i:=(Option.some.inj h1).symm;exact ⟨hi,Γ Nd.on h2,Γ Nd.it h2⟩
theorem Mn (its:List AK) (on:Nat ->Bool) (k:Nat):EL its on (k+1)=EL its on k++if on k=true then [(its.getD k A0).id] else []:=by
 unfold EL;rw [ψj,ψa,ωc,P1]
 split<;>rfl
theorem XW (its:List AK) (on:Nat ->Bool) (k:Nat):(EL its on k).length≤k:=by
 unfold EL;rw [ψ];exact ωe (ωh _ _) (by simp)
theorem S_len {ros:List A2} {its:List AK} {on:Nat ->Bool} {N:Net} (h:Au N=netS ros its on):N.nd.length=its.length:=by
 have h1:=Γ (fun N=>N.nd.length) h;have h2:(N.nd.map EC).length=((List.range its.length).map _).length:=h1
 rwa [ψ,ψ,ωg] at h2
theorem sml_P {p:Prb} (hf:Ed p) (hE:Al p=0):SmO (Co p) (ordP p):=by
 refine ⟨ωe (DZ p) hf.i,fun x hx=>hf.x x (H6 hx),F6 hE,fun x hx id hid=>?_,Mc hE,fun x hx=>?_,?_⟩
 ·have h1:ordP p=Ay p.it:=θ hE;have h2:Ub (p.it.map AK.id) x=0:=Jj (C3 hE).2.2 _ (ϱ.2 ⟨x,H6 hx,Z⟩)
  have h3:id∈p.it.map AK.id:=by
   unfold Ub at h2
   split at h2
   ·cases h2
   ·rename_i h4
    by_cases h5:id∈p.it.map AK.id
    ·exact h5
    ·exact absurd (List.any_eq_true.2 ⟨id,hid,by unfold J6;simpa using h5⟩) h4
  rw [h1];exact ((YV p.it).map AK.id).mem_iff.2 h3
 ·have h1:x∈p.ro:=by
   obtain ⟨i,hi,rfl⟩:=ϱ.1 hx;have hi':=Ξ.1 ((YO (p.ro.map A2.r)).mem_iff.1 hi);rw [CY DX (by simpa using hi')];exact κ _
  exact K3 (C3 hE).1 x h1
 ·unfold Co;rw [ψ,(YO _).length_eq,ωg,ψ];exact hf.r
theorem Sh (p:Prb) (hf:Ed p) (hE:Al p≠0):AO Tryz.prog 95 [.d (Bs p)] (.tup [.sl (some true) [],.sl (some true) [],AF (Al p)]):=by
 have hbu:=YD p hf hE;refine BB Tryz.func95 Z Z Tryz.ntmps95 Z Z Z fun F hF=>(AC (AE (V (Bz 1 Z Z Z Z Z Z Z) (AB Z Z (AB Z Z (AB Z Z ?_))))));refine AD (W7 (AC (AE (J (BM Z Z BW Z Z Z) (V (E1 hbu Z [] trivial Z Z Z Z Z Z Z Z Z) (goMv Z Z (J (DD Z Z Z) (J (DD Z Z Z) ?_))))))));refine AB Z Z (AB Z Z (AD (AC (AC (AE (goMv Z Z (J (D6 Z Z Z) (AD ?_))))))));refine DP Z ((by simpa using hE)) (AC (AE (goMv Z Z (AB Z Z (AB Z Z (AB Z Z (AD (A8 ?_))))))));exact ⟨_,[],[],A6 Z,Z,Z,Z,Z⟩
set_option maxHeartbeats 1000000 in
theorem Uc (p:Prb) (hf:Ed p) (hE:Al p=0):AO Tryz.prog 95 [.d (Bs p)] (.tup [.sl none ((EL (ordP p) (LX p).2 (ordP p).length).map AF),.sl none ((LX p).1.map b9),AF 0]):=by
 have hbu:=TO p hf hE;have hsm:=sml_P hf hE;unfold LX;rw [aQ] at hbu
 obtain ⟨its,hits⟩:∃its,ordP p=its:=⟨_,Z⟩
 obtain ⟨ros,hros⟩:∃ros,Co p=ros:=⟨_,Z⟩
 rw [hits,hros] at hbu hsm⊢;have hl:=hsm.l;refine BB Tryz.func95 Z Z Tryz.ntmps95 Z Z Z fun F hF=>(AC (AE ?_));refine V (Bz 1 Z Z Z Z Z Z Z) (AB Z Z (AB Z Z (AB Z Z (AD (W7 (AC (AE (J (BM Z Z BW Z Z Z) ?_))))))));refine CP (Ux hbu Z [40,50,51] ⟨Z,Z,Z,trivial⟩ Z Z Z Z (fun r H' ⟨_,_,_,_,_,_,_,e1,e2,_⟩=>by subst e1 e2;exact ⟨Z,Z,Z⟩) Z) Z ?_;rintro _ ⟨r,H',⟨wb,mv,nb,pb,N,M,bs,rfl,rfl,hR,hN⟩,rfl⟩;refine goMv Z Z (J (DD Z Z Z) (J (DD Z Z Z) (AB Z Z (AB Z Z (AD ?_)))));refine AC (AC (AE (goMv Z Z (J (D6 Z Z Z) (AD (D9 Z (Z) (A3 (AC ?_))))))));have hids:BT N=its.map AK.id:=by rw [←Gq,hN,T9]
 rw [hids];refine AE (AB Z Z (AD (AC (a_label (AC (A5 (OD 7 900 ZR Z Z Z Z (B7 (α:=(Nat ->Bool)×Net×MF×List Nw×Nat) (fun q=>⟨64,[(5,(.d (pD wb 0))),(7,(.own 900 0 q.2.2.2.1.length))],(900,[.rowD 245 9 (q.2.2.2.1.map b9)])::HW mv bs (Fh nb (its.map AK.id)) q.2.2.1⟩) (fun q=>CB wb mv nb pb q.2.1 q.2.2.1∧Au q.2.1=netS ros its q.1∧EQ its.length q.1≤q.2.2.2.2∧q.2.2.2.1.length+q.2.2.2.2≤its.length∧q.2.2.2.1++(FU ros its q.2.2.2.2 q.1).1=(FU ros its its.length fun _=>true).1∧(FU ros its q.2.2.2.2 q.1).2=(FU ros its its.length fun _=>true).2) (fun q=>q.2.2.2.2) ((fun _=>true,N,M,[],its.length)) (⟨hR,hN,by show ((List.range its.length).filter _).length≤_;exact ωe (ωh _ _) (by simp),by simp,Z,Z⟩) (A1 hF [900,40,50,51] Z Z ⟨Z,Z,trivial⟩) ?_))))))));rintro ⟨on,N,M,acc,f⟩ ⟨hR,hN,hc,hal,hr1,hr2⟩;dsimp only at hR hN hc hal hr1 hr2⊢;refine A5 (AC ?_);have hw:=W_ers (N:=N) (by rw [hN];exact S_w hsm on);have hsb:=S_sumB hsm hN;have hids:BT N=its.map AK.id:=by rw [←Gq,hN,T9]
 have hnx:=next_c bs hR hw hsb;rw [hids] at hnx;refine AE (goMv Z Z (V (E1 hnx Z [40,50,51] ⟨Z,Z,Z,trivial⟩ Z Z Z Z Z Z Z Z Z) (goMv Z Z ?_)))
 cases hne:FD N
 ·refine J (DD Z Z Z) (J (DD Z Z Z) (V (CF 2 Ic Z Z Z Z) (V (Bi Z Z Z Z Z Z Z JO) (AB Z Z (AD ?_)))));refine AC (AC (AE (goMv Z Z (J (OC Z Z) (AD (DP Z (Z) (BF (AC ?_))))))));have hro:FU ros its f on=([],on):=RX (by rw [←hN,Rz,hne]);rw [hro] at hr1 hr2;rw [ωk] at hr1;dsimp only at hr2;have hwb:=hR.w;have hnr:BJ M N.nh Zk 1 ((List.range N.nd.length).map fun i=>BK (nb i)):=hR.rs.1 .n;have hnz:=T8 hnr;rw [ωg] at hnz;have hNl:=S_len hN;refine AE (AB Z Z (AD (AC (AC (AE (goMv Z Z ?_))))));refine J (DO Z Z) (J (CS Z IX Z Z Z) (J (Dv (f:=40) Z Z (hwb) Z GG Z) (J (VC hnz Z Tryz.underlying175 Z) (goMv Z Z (AD (A5 (OD 10 901 B5 Z Z Z Z (B7 (α:=Nat×List Int) (fun q=>⟨64,[(7,(.own 900 0 acc.length)),(10,(.own 901 0 q.2.length)),(43,(.d (hdr N.nh N.nd.length))),(44,(.d (AF (N.nd.length:Int)))),(45,(.d (AF (q.1:Int))))],(901,[.rowD 3 1 (q.2.map AF)])::(900,[.rowD 245 9 (acc.map b9)])::HW mv bs (Fh nb (its.map AK.id)) M⟩) (fun q=>q.1≤N.nd.length∧q.2=EL its on q.1) (fun q=>N.nd.length - q.1) ((0,[])) (⟨ς _,Z⟩) (A1 hF [901,900,40,50,51] Z Z ⟨Z,Z,Z,Z,Z,trivial⟩) ?_))))))));rintro ⟨k,ids⟩ ⟨hk0,hI⟩;dsimp only at hk0 hI⊢;refine AC (AE (J (BR Z Z Z) (AD (AC (Ae Z (fun h46=>?_) (fun h46=>?_))))))
  ·have hk1:k<N.nd.length:=Bf h46;refine A3 (AC (A5 (AC ?_)))
   obtain ⟨x,hx⟩:∃x,N.nd[k]? =some x:=⟨_,ω hk1⟩
   obtain ⟨hiN,hoi,hit⟩:=Qe hN hx;have hxb:=hR.n k x hx;obtain ⟨rb,rc,hre⟩:=Ti hnr (j:=k) (by rw [ωg];exact hk1);have hrow:=Qk hnr hre;have hidl:ids.length≤k:=by rw [hI];exact XW its on k
   refine AE (J (Uy hre (k) Z Z Z hk1 Tryz.underlying175 LK Z) (J (Zcs (f:=40) (e:=k) (off:=0) Z (by omega) Z (hrow) ((by rw [η,ψt hk1];rfl)) Z Mo Z) ?_));refine AB Z Z ?_;refine AD (AC (AE (goMv Z Z (J (DO Z Z) (J (CS Z E7 Z Z Z) (J (Dv (f:=40) Z Z (hxb) Z on4 Z) (AD (KN Z (fun h52=>?_) (fun h52=>?_)))))))))
   ·refine AE (goMv Z Z (goMv Z Z (J (DO Z Z) (J (CS Z Fe Z Z Z) (J (CS Z OB Z Z Z) ?_)))));refine J (Dv (f:=40) Z Z (hxb) Z Aq Z) (V (D7 3 B5 Z Z Z Z Z Z Z Z) (V (Hz (ids) ([x.it.id]) Z Z Z Z Z Z Z Z B5 (by simp only [Φ];omega) Z Z Z Z) (AB Z Z (AD (AE (J (BA Z Z (AT (k+1) (by omega)) Z) (goMv Z Z (AD ?_))))))));exact ⟨(k+1,_),⟨by show k+1≤_;omega,by show _=EL its on (k+1);rw [Mn,θ (by rw [←hoi];simpa using h52),←hI,←hit]⟩,by show N.nd.length - (k+1)<N.nd.length - k;omega,A1 hF [901,900,40,50,51] Z (Z) ⟨Z,Z,Z,Z,Z,trivial⟩⟩
   ·refine A3 (AE (J (BA Z Z (AT (k+1) (by omega)) Z) (goMv Z Z (AD ?_))));exact ⟨(k+1,_),⟨by show k+1≤_;omega,by show _=EL its on (k+1);rw [Mn,ϑ (by rw [←hoi];simpa using h52),ωk,←hI]⟩,by show N.nd.length - (k+1)<N.nd.length - k;omega,A1 hF [901,900,40,50,51] Z (Z) ⟨Z,Z,Z,Z,Z,trivial⟩⟩
  ·refine BF (AC ?_);have hke:k=its.length:=by have h:=h46;omega
   refine L4 (emb:=b9) 7 900 acc Z Z Z Z Z Z Z ?_;refine L4 (emb:=AF) 10 901 ids Z Z Z Z Z Z Z (AE (goMv Z Z (goMv Z Z (AB Z Z (AB Z Z (AB Z Z (AD (A8 ?_))))))));exact ⟨_,[],[],A6 Z,Z,Z,by rw [←hr2,←hr1,hI,hke],Z⟩
 ·refine J (DD Z Z Z) (J (DD Z Z Z) (V (CF 4 Ic Z Z Z Z) (V (Bi Z Z Z Z Z Z Z JO) (AB Z Z (AD ?_)))));refine AC (AC (AE (goMv Z Z (J (OC Z Z) (AD (D9 Z (Z) (A3 (AC ?_))))))))
  rename_i e
  obtain ⟨i,x,hx,hon,hid⟩:=Vu hne;obtain ⟨hiN,hoi,hit⟩:=Qe hN hx;rw [hon] at hoi;have hoi:=hoi.symm;have hil:i<(its.map AK.id).length:=by rw [ψ];exact hiN
  have hei:(its.map AK.id)[i]=e.id:=by rw [hid,hit,ωd,CY A0 hiN]
  have hby:=Q8 (nb:=nb) hsm.i hil;rw [hei] at hby;have hcn:=LD hiN hoi
  obtain ⟨f2,rfl⟩:∃f2,f=f2+1:=⟨f - 1,by omega⟩
  have hrs:FU ros its (f2+1) on=(e::(FU ros its f2 (Ac on i)).1,(FU ros its f2 (Ac on i)).2):=by rw [RW (by rw [←hN,Rz,hne]),←hei,PQ hsm.i hil]
  have hxm:=ζ hx;have hrm:=Ze hR hx hsb (hw.e x hxm) (hw.l x hxm).1 (hw.l x hxm).2.1 (fun e he=>(hw.p x hxm e he).2) hw.m;refine Ch [[],[0],[0,1],[0,1,2],[],[4],[0,1,2,3,4,5],[0,1,2,3,4,5,6]] mixed Z (Cq (AJ [5] [] Z Z (fun _=>AG (Ak Z Z)) (AJ [28] [] Z Z (fun _=>AG (DO Z Z)) ?_)));refine AJ [29] [] Z Z (fun _=>AG (CS Z ME Z Z Z)) (AJ [30] [40] Z Z (fun _=>AG (Dv (f:=40) Z Z (hR.w) Z Vi Z)) (AJ [8] [] Z Z (fun _=>AG (A4 Z fi245_0 Z Z Z)) (AJ [32] [4] Z Z (fun _=>AG (A9 Z Z Z Aq Z)) (C5 6 Z Z Z (Af 7 Z Z (D1 31 51 0 Z Z (J (HQ (Fh nb (its.map AK.id)) e.id (.pointer none) (pV (nb i) 0) Z Z Z Vw HP VG hby Z) (AD ⟨Z,?_⟩))))))));refine Af 8 Z Z ?_;refine CP (Ux hrm Z [40] ⟨Z,trivial⟩ Z Z Z Z (fun r H' ⟨e1,M',e2,_⟩=>by subst e1 e2;exact ⟨Z,Z,Z⟩) Z) Z ?_;rintro _ ⟨r,H',⟨rfl,M2,rfl,hR2⟩,rfl⟩;refine AD ⟨Z,?_⟩;refine C9 (AE (goMv Z Z (J (BM Z Z rw245 Z Z Z) (V (D7 5 ZR Z Z Z Z Z Z Z Z) (V (Hz (acc) ([e]) Z Z Z Z Z Z Z Z ZR (by simp only [Φ];omega) Z Z Z Z) (AB Z Z (AD ?_)))))));exact ⟨(Ac on i,rmN N i x,M2,acc++ [e],f2),⟨hR2,rm_S hsm.r hN hiN hoi hx,by show EQ its.length (Ac on i)≤f2;omega,by show (acc++ [e]).length+f2≤_;rw [Δ];simp;omega,by show (acc++ [e])++(FU ros its f2 (Ac on i)).1=_;rw [ψl,←hr1,hrs];rfl,by show (FU ros its f2 (Ac on i)).2=_;rw [←hr2,hrs]⟩,by show f2<f2+1;omega,A1 hF [900,40,50,51] Z (Z) ⟨Z,Z,trivial⟩⟩
theorem Z1 {γ:Type} (f:γ ->AP) {l m ys:List γ} (hn:(l.map f).Nodup) (hm:m.Perm l) (hms:m.Pairwise fun a b=>¬Bh (f b) (f a)<0) (h1:ys.Perm l) (h2:ys.Pairwise fun a b=>¬Bh (f b) (f a)<0):ys=m:=by
 have st:∀{k:List γ},(k.map f).Nodup ->(k.Pairwise fun a b=>¬Bh (f b) (f a)<0) ->k.Pairwise fun a b=>Bh (f a) (f b)<0:=fun {k} hn h=>by
  rw [List.Nodup,ψe] at hn;refine (h.and hn).imp fun {a b} ⟨g1,g2⟩=>?_;have h1:=OY.anti (f a) (f b);have h2:Bh (f a) (f b)≠0:=fun e=>g2 (Dr.1 e);omega
 exact Cv (R:=fun a b=>Bh (f a) (f b)<0) (fun x=>by rw [OY.refl];omega) (fun x y z=>OY.trans _ _ _) (st ((h1.map f).nodup_iff.2 hn) h2) (st ((hm.map f).nodup_iff.2 hn) hms) fun x=>by rw [h1.mem_iff,hm.mem_iff]
theorem Pj (rs:List AP):(GA rs).Pairwise fun a b=>¬JG rs b a<0:=by
 have:=List.pairwise_mergeSort (le:=fun i j=>decide (JG rs i j≤0)) (fun a b c h1 h2=>?_) (fun a b=>?_) (List.range rs.length)
 ·refine List.Pairwise.imp (fun {a b} h=>?_) this;have h1:=(Pc rs).anti a b;have h2:JG rs a b≤0:=by simpa using h
  omega
 ·have h1':JG rs a b≤0:=by simpa using h1
  have h2':JG rs b c≤0:=by simpa using h2
  have:JG rs a c≤0:=by
   by_cases e1:JG rs a b=0
   ·rw [(Pc rs).eqv a b c e1];exact h2'
   ·by_cases e2:JG rs b c=0
    ·have a1:=(Pc rs).anti b c;have e3:=(Pc rs).eqv c b a (by omega);have a2:=(Pc rs).anti a c;have a3:=(Pc rs).anti a b;omega
    ·have:=(Pc rs).trans a b c (by omega) (by omega);omega
  simpa using this
 ·have h1:=(Pc rs).anti a b
  by_cases h:JG rs a b≤0
  ·simp [h]
  ·have:JG rs b a≤0:=by omega
   simp [this]
theorem XI (p:Prb):(Co p).Perm p.ro:=by
 unfold Co;refine ((YO (p.ro.map A2.r)).map _).trans (List.Perm.of_eq ?_);rw [ψ]
 apply χc (by simp)
 intro i h1 h2;simp only [ωd,ψs];exact CY DX (by simpa using h2)
theorem R6 (p:Prb):(Co p).Pairwise fun a b=>¬Bh b.r a.r<0:=by
 unfold Co;rw [ψe];refine χt (fun {a b} ha hb h=>?_) (Pj (p.ro.map A2.r));have ha':=Ξ.1 ((YO (p.ro.map A2.r)).mem_iff.1 ha);have hb':=Ξ.1 ((YO (p.ro.map A2.r)).mem_iff.1 hb);unfold JG at h;rw [Lo (by simpa using hb'),Lo (by simpa using ha')] at h;exact h
theorem XJ {p:Prb} (hp:(p.ro.map A2.r).Nodup) {ys:List A2} (h1:ys.Perm p.ro) (h2:ys.Pairwise fun a b=>¬Bh b.r a.r<0):ys=Co p:=
 Z1 A2.r (l:=p.ro) hp (XI p) (R6 p) h1 h2
theorem Z4 {p:Prb} (hp:Al p=0) {ys:List A2} (h1:ys.Perm p.ro) (h2:ys.Pairwise fun a b=>¬Bh b.r a.r<0):ys=Co p:=XJ (G4 hp) h1 h2
theorem SN (p:Prb) (hf:Ed p) (hE:Al p≠0):AO Tryz.prog 39 [.d (Bs p)] (.tup [.sl (some true) [],AF (Al p)]):=by
 have hx:=Sh p hf hE;refine BB Tryz.func39 Z Z Tryz.ntmps39 Z Z Z fun F hF=>(AC (AE (V (Bz 1 Z Z Z Z Z Z Z) (AB Z Z (AB Z Z (AD (AC (AE ?_))))))));refine J (BM Z Z BW Z Z Z) (J (B2 (hx) Z Z) (goMv Z Z (J (DD Z Z Z) (J (DD Z Z Z) (J (DD Z Z Z) (AB Z Z (AB Z Z (AB Z Z ?_))))))));refine AD (AC (AE (goMv Z Z (goMv Z Z (AB Z Z (AB Z Z (AD (A8 ?_))))))));exact ⟨_,[],[],A6 Z,Z,Z,Z,Z⟩
def largeS (p:Prb):List Int:=EL (ordP p) (LX p).2 (ordP p).length
theorem Iw (p:Prb) (hf:Ed p) (hE:Al p=0):AO Tryz.prog 39 [.d (Bs p)] (.tup [.sl none ((largeS p).map AF),AF 0]):=by
 have hx:=Uc p hf hE;refine BB Tryz.func39 Z Z Tryz.ntmps39 Z Z Z fun F hF=>(AC (AE (V (Bz 1 Z Z Z Z Z Z Z) (AB Z Z (AB Z Z (AD (AC (AE ?_))))))));refine J (BM Z Z BW Z Z Z) (J (B2 (hx) Z Z) (goMv Z Z (J (DD Z Z Z) (J (DD Z Z Z) (J (DD Z Z Z) (AB Z Z (AB Z Z (AB Z Z ?_))))))));refine AD (AC (AE (goMv Z Z (goMv Z Z (AB Z Z (AB Z Z (AD (A8 ?_))))))));exact ⟨_,[],[],A6 Z,Z,Z,Z,Z⟩
def VH (l:List Int) (x:Int):List Int:=l.filter fun y=>decide (y≠x)
def overL (its:List AK) (x:A2) (l:List Int):Int:=max x.n 0+((its.filter fun i=>decide (i.id∈l)).map fun i=>Cg i x.r).sum
theorem br (i:AK) (r:AP): -1000000000000000≤Cg i r∧Cg i r≤1000000000000000:=by
 unfold Cg
 split
 ·rename_i h
  have:=ML h.1 r
  simpa [Mx] using this
 ·omega
def blkR (its:List AK) (l:List Int) (id:Int) (x:A2):Option Nw:=if id∈JX its x.r then (((JX its x.r).takeWhile fun a=>decide (a≠id)).find? fun a=>decide (a∉l)).map fun a=>⟨id,1,x.r,a⟩ else none
def blockR (p:Prb) (l:List Int) (id:Int):Option Nw:=match (Co p).findSome? (blkR (Ay p.it) l id) with
 | some e=>some e
 | none=>((Bm p id).af.find? fun a=>decide (a∉l)).map fun a=>⟨id,2,EH,a⟩
theorem on_mem {its:List AK} (hn:(its.map AK.id).Nodup) (on:Nat ->Bool) {i:Nat} (hi:i<its.length):(its.getD i A0).id∈EL its on its.length↔on i=true:=by
 unfold EL;rw [ϱ]
 constructor
 ·rintro ⟨j,hj,e⟩;obtain ⟨h1,h2⟩:=ωb.1 hj;have hj':=Ξ.1 h1;rw [CY A0 hi,CY A0 hj'] at e
  have:j=i:=by
   have h3:(its.map AK.id)[j]'(by simpa using hj')=(its.map AK.id)[i]'(by simpa using hi):=by
    rw [ωd,ωd];exact e
   exact (List.getElem_inj hn).1 h3
  rw [←this];exact h2
 ·intro h;exact ⟨i,ωb.2 ⟨Ξ.2 hi,h⟩,Z⟩
theorem Xi (its:List AK):its=(List.range its.length).map fun i=>its.getD i A0:=by
 apply χc (by simp)
 intro i h1 h2;simp only [ωd,ψs];rw [CY A0 h1]
structure PVO (p:Prb) (ros:List A2) (its:List AK):Prop where
 e:Al p=0
 f:Ed p
 s:SmO ros its
 hr:Co p=ros
 hi:Ay p.it=its
 v:∀x∈its,BP x=0
 w:∀x∈ros,B4 x.r=0
 up:ros.Pairwise fun a b=>Bh a.r b.r<0
theorem id_inj {its:List AK} (hn:(its.map AK.id).Nodup) {i j:Nat} (hi:i<its.length) (hj:j<its.length) (h:(its.getD i A0).id=(its.getD j A0).id):i=j:=by
 rw [CY A0 hi,CY A0 hj] at h
 have h3:(its.map AK.id)[i]'(by simpa using hi)=(its.map AK.id)[j]'(by simpa using hj):=by
  rw [ωd,ωd];exact h
 exact (List.getElem_inj hn).1 h3
def FewQ (p:Prb) (n:Nat):Prop:=p.it.length≤n∧p.ro.length≤30∧∀i∈p.it,i.po.length≤8∧i.pa.length≤8∧i.af.length≤8
instance (p:Prb) (n:Nat):Decidable (FewQ p n):=inferInstanceAs (Decidable (_∧_∧∀i∈p.it,_))
def bY (p:Prb) (l:List Int):Prop:=(∀id∈l,blockR p l id=none)∧∀x∈p.ro,¬overL p.it x l<0
noncomputable instance (p:Prb) (l:List Int):Decidable (bY p l):=Classical.propDecidable _
theorem cC (n:Nat) (on:Nat ->Bool):EQ n on≤n:=by
 unfold EQ;exact ωe (ωh _ _) (by simp)
def rsP (p:Prb):List AP:=p.ro.map A2.r
def dR (rs:List AP) (i:AK):List (AP×Int):=(AR i).filter fun d=>decide (d.1∈rs)
theorem bx (rs:List AP) (i:AK):((dR rs i).map Prod.fst).Nodup:=List.Nodup.sublist (List.Sublist.map _ ψu) (DC i)
theorem Dk {α β:Type} [DecidableEq α] {O:List (α×β)} {x:α} {v:β} (h:x∉O.map Prod.fst):Aw O x v=O++ [(x,v)]:=by
 induction O with
 | nil=>rfl
 | cons a l ih=>
  obtain ⟨k,b⟩:=a;simp only [ωm,Ψ,not_or] at h;simp only [Aw,φi];rw [ϑ h.1,ih h.2]
theorem G9 {M:MF} {b:Nat} {x y:Ad}:BQ (BQ M b x) b y=BQ M b y:=by
 funext i
 by_cases h:i=b
 ·rw [h,E2,E2]
 ·rw [FR h,FR h,FR h]
theorem PD {M:MF} {b:Nat} {x:Ad} (h:M b=some x):BQ M b x=M:=by
 funext i
 by_cases e:i=b
 ·rw [e,E2,h]
 ·rw [FR e]
theorem Lx {α:Type} {l:List α} (hn:l.Nodup) {j:Nat} (hj:j<l.length):l[j]∉l.take j:=fun h=>by
 rw [←φa j l,χn] at hn;exact hn.2.2 _ h _ (by rw [χf hj];exact ωo ..) rfl
abbrev WF:FuncId:=119
structure Ib (N:MF) (b:Nat) (l:List Int):Prop where
 ex:∃m,N b=some (.cells 137 [mD m])∧N m=some (.map none (BO AF Ai (BC l)))
abbrev Wj (b:Nat):D:= .fn WF [] [pD b 0]
theorem Fv (l:List Int) (hn:l.Nodup) (hl:l.length≤1000000):AM Tryz.prog 66 [.d (.sl none (l.map AF))] [] fun r H'=>∃b N,r= .d (Wj b)∧H'=[(41,[.multi N])]∧Ib N b l:=by
 refine BB Tryz.func66 Z Z Tryz.ntmps66 Z Z Z fun F hF=>(AC (AE (AB Z Z (AD ?_))));refine AC (Fi 41 Z Z Z (AE (V (Pb 1 Z Z Z Z) (Oy 6 1 41 hF Z Z Z Z Z Z Z Z Z Z (fun _=>rfl) fun m hm=>(Lv 41 m Z (E2 _ _ _) Z (V (CF 2 zl137 Z Z Z Z) (V (Bi Z Z Z Z Z Z Z sz137) (AD ?_))))))));refine AC (AC (AE (goMv Z Z (J (CO Z Tryz.underlying28 Z) (goMv Z Z (AD (A5 (B7 (α:=Nat×MF) (fun q=>⟨17,[(3,(.ptr 2 0 0)),(7,(.d (.sl none (l.map AF)))),(8,(.d (AF (l.length:Int)))),(9,(.d (AF (q.1:Int))))],[(2,[.blk 137 [.d (mD m)]]),(41,[.multi q.2])]⟩) (fun q=>q.1≤l.length∧q.2 m=some (.map none (BO AF Ai (BC (l.take q.1))))) (fun q=>l.length - q.1) ((0,_)) (⟨ς _,E2 _ _ _⟩) (A1 hF [2,41] Z Z ⟨Z,Z,Z,Z,trivial⟩) ?_))))))));rintro ⟨k,N⟩ ⟨hk,hN⟩;dsimp only at hk hN⊢;refine AC (AE (J (BR Z Z Z) (AD (AC (Ae Z (fun h10=>?_) (fun h10=>?_))))))
 ·refine A3 (AC (A5 (AC ?_)));have hkl:k<l.length:=Bf h10;refine AE (J (Be (k) Z Z (Z) (Ah hkl) Tryz.underlying28 Z BE Z) (J (Cr Z Z Aq Z) (AB Z Z (AD ?_))));refine AE (J (A9 Z Z Z Ro Z) (goMv Z Z (V (RL (f:=41) (BC (l.take k)) l[k] true Z Z hN Z EY HP Z Z) (AD (AE (J (BA Z Z (AT (k+1) (by omega)) Z) (goMv Z Z (AD ?_))))))));exact ⟨(k+1,_),⟨hkl,by show BQ _ _ _ _=_;rw [E2,φ hkl,cg (Lx hn hkl)]⟩,by show l.length - (k+1)<l.length - k;omega,A1 hF [2,41] Z (Z) ⟨Z,Z,Z,Z,trivial⟩⟩
 ·refine BF (AC ?_);have hke:k=l.length:=by have:=h10;omega
  rw [hke,ωs] at hN;refine YT (ds:=[mD m]) 3 2 41 hF Z Z Z Z Z Z Z Z Z Z Z (fun _=>rfl) fun b hb=>(AE (J (T6 (ds:=[]) (es:=[pD b 0]) Z Z Z Z Z) (AB Z Z (AD (A8 ?_)))));exact ⟨_,[41],_,A6 Z,Z,Z,b,_,Z,Z,⟨m,E2 _ _ _,by rw [FR (fun e=>by rw [e,hb] at hN;cases hN)];exact hN⟩⟩
theorem IF {N:MF} {b:Nat} {l:List Int} (h:Ib N b l) (id:Int):AM Tryz.prog WF [.d (AF id),.d (pD b 0)] [(41,[.multi N])] fun r H'=>r= .d (Ai (decide (id∈l)))∧H'=[(41,[.multi N])]:=by
 obtain ⟨m,h1,h2⟩:=h;refine BB Tryz.func119 Z Z Tryz.ntmps119 Z Z Z fun F hF=>(AC (AE (AB Z Z ?_)));refine AD (AC (AE (J (Dv (f:=41) Z Z h1 Z Ro Z) (goMv Z Z (J (RN (f:=41) (BC l) id false _ Z Z h2 Z EY HP Td (Wd l id) Z) (AB Z Z (AD (A8 ?_))))))));exact ⟨_,[41],_,A6 Z,Z,Z,Z,Z⟩
theorem YC (p:Prb) (l:List Int) (hb:EW p) (hl:l.length≤100000) (h1000:p.it.length≤1000):AO Tryz.prog 64 [.d (Bs p),.d (.sl none (l.map AF))] (AF (D5 p l)):=by
 refine BB Tryz.func64 Z Z Tryz.ntmps64 Z Z Z fun F hF=>(AC (AE (V (Bz 1 Z Z Z Z Z Z Z) (AB Z Z ?_))));refine AD (AC (AE (J (BM Z Z BW Z Z Z) (goMv Z Z (J (B2 (Yh p l hb hl h1000) Z Z) (goMv Z Z (J (DD Z Z Z) (J (DD Z Z Z) ?_))))))));refine AB Z Z (AB Z Z (AD (AC (AE (goMv Z Z (AB Z Z (AD (A8 ?_))))))));exact ⟨_,[],[],A6 Z,Z,Z,Z,Z⟩
abbrev Cf (e:AK×Nat):D:= .agg [AF e.1.id,AF e.1.pr,AF e.1.sq,.sl none (e.1.po.map CG),.sl none (e.1.pa.map Fm),.sl none (e.1.af.map AF),mD e.2]
abbrev Ld (m:List (AP×Int)):List (D×D):=BO C1 AF m
def YQ (rs:List AP) (M:MF) (E:List (AK×Nat)):Prop:=∀e∈E,M e.2=some (.map none (Ld (dR rs e.1)))
theorem YQ.add {rs:List AP} {M:MF} {E:List (AK×Nat)} (h:YQ rs M E) {i:AK} {b:Nat} (hb:M b=none):YQ rs (BQ M b (.map none (Ld (dR rs i)))) (E++ [(i,b)]):=fun e he=>by
 rcases υ.1 he with he | he
 ·rw [FR (fun e2=>by have:=h e he;rw [e2,hb] at this;cases this)];exact h e he
 ·rw [ξ.1 he,E2]
def dK (rs:List AP) (i:AK) (j:Nat):List (AP×Int):=((AR i).take j).filter fun d=>decide (d.1∈rs)
theorem dK_end (rs:List AP) (i:AK):dK rs i (AR i).length=dR rs i:=by unfold dK dR;rw [ωs]
theorem dK_hit {rs:List AP} {i:AK} {j:Nat} (hj:j<(AR i).length) (h:((AR i)[j]).1∈rs):Aw (dK rs i j) ((AR i)[j]).1 ((AR i)[j]).2=dK rs i (j+1):=by
 have hn:=DC i
 have hf:((AR i)[j]).1∉(dK rs i j).map Prod.fst:=fun hm=>by
  obtain ⟨d,hd,e⟩:=ϱ.1 hm;have h1:d∈(AR i).take j:=(ωb.1 hd).1;have h2:((AR i)[j]).1∈((AR i).map Prod.fst).take j:=by rw [←List.map_take,←e];exact χj h1
  have h3:=Lx hn (j:=j) (by rw [ψ];exact hj);rw [ωd] at h3;exact h3 h2
 rw [Dk hf];unfold dK;rw [φ hj,ψa]
 simp [h]
theorem dK_miss {rs:List AP} {i:AK} {j:Nat} (hj:j<(AR i).length) (h:((AR i)[j]).1∉rs):dK rs i (j+1)=dK rs i j:=by
 unfold dK;rw [φ hj,ψa]
 simp [h]
def So (a b:AK):Int:=if GF a b<0 then -1 else 1
theorem Sn {a b:AK}:So a b<0↔GF a b<0:=by
 unfold So
 by_cases h:GF a b<0
 ·rw [θ h];exact ⟨fun _=>h,fun _=>by decide⟩
 ·rw [ϑ h];exact ⟨fun h2=>absurd h2 (by decide),fun h2=>absurd h2 h⟩
theorem be:Go.Sort.SWO (ltOf So):=by
 have e:ltOf So=ltOf GF:=by
  funext a b
  exact decide_eq_decide.2 Sn
 rw [e];exact D0.swo
theorem Ue (a b:AK):AO Tryz.prog 116 [.d (As a),.d (As b)] (AF (So a b)):=by
 refine BB Tryz.func116 Z Z Tryz.ntmps116 Z Z Z fun F hF=>(AC (AE (V (Bz 1 Z Z Z Z Z Z Z) (V (Bz 2 Z Z Z Z Z Z Z) (AB Z Z ?_)))));refine AD (AC (AC (AE (J (BM Z Z CC Z Z Z) (J (BM Z Z CC Z Z Z) (J (B2 (cR a b) Z Z) (AD (Ae Z (fun h7=>?_) (fun h7=>?_)))))))))
 ·refine AC (AE (AB Z Z (AD (A8 ?_))));exact ⟨_,[],[],A6 Z,Z,Z,Ag (by unfold So;rw [θ h7]),Z⟩
 ·refine A3 (AC (AE (AB Z Z (AD (A8 ?_)))));exact ⟨_,[],[],A6 Z,Z,Z,Ag (by unfold So;rw [ϑ h7]),Z⟩
theorem Xy (l:List AK) (hl:l.length≤1000000):AM Tryz.prog 114 [.d (.sl none (l.map As))] [] fun r H'=>r= .own 20 0 l.length∧H'=[(20,[.rowD 55 6 (l.map As)])]:=by
 refine BB Tryz.func114 Z Z Tryz.ntmps114 Z Z Z fun F hF=>(AC (AE (AB Z Z ?_)));skip;refine AD (AC (AC (AE (goMv Z Z (FC 3 Z (fun h0=>?_) ?_)))))
 ·refine J (EA Tryz.underlying37 Z Z) (AD (DP Z (Z) (AC (AE (AB Z Z (Vq 2 20 OH Z Z Z Z (AD (A8 ?_))))))));exact ⟨_,[20],_,A6 Z,Z,Z,by rw [List.map_eq_nil_iff.1 h0];rfl,by rw [List.map_eq_nil_iff.1 h0];rfl⟩
 ·refine J (EA Tryz.underlying37 Z Z) ?_;refine AD (D9 Z (Z) (A3 (AC (AE (V (D7 20 OH Z Z Z Z Z Z Z Z) (goMv Z Z (V (Ev (([]:List AK)) (l) Z Z Z Z Z Z (fun _=>rfl) OH (by simp only [φo];omega) Z Z Z Z) (AB Z Z ?_))))))));skip;refine AD (A8 ?_);exact ⟨_,[20],_,A6 Z,Z,Z,by simp,Z⟩
theorem rs_put {p:Prb} (hn:(rsP p).Nodup) {k:Nat} (hk:k<p.ro.length):Aw (BC ((rsP p).take k)) p.ro[k].r true=BC ((rsP p).take (k+1)):=by
 have hk':k<(rsP p).length:=by unfold rsP;rw [ψ];exact hk
 have e:(rsP p)[k]=p.ro[k].r:=ωd ..;rw [←e,cg (Lx hn hk'),φ hk']
set_option maxHeartbeats 4000000 in
theorem Kx (p:Prb) (hE:Al p=0) (hf:Ed p) (g:FuncId) (caps:List D) (N:MF) (qp:Int ->Bool) (hq:∀id,AM Tryz.prog g (.d (AF id)::dL caps) [(41,[.multi N])] fun r H'=>r= .d (Ai (qp id))∧H'=[(41,[.multi N])]):
  AM Tryz.prog 65 [.d (Bs p),.d (.fn g [] caps)] [(41,[.multi N])] fun r H'=>∃E M,r= .d (.sl none (E.map Cf))∧H'=[(41,[.multi N]),(40,[.multi M])]∧YQ (rsP p) M E∧E.map Prod.fst=(ordP p).filter fun i=>qp i.id:=by
 have hO:ordP p=Ay p.it:=θ hE;rw [hO]
 obtain ⟨its,hits⟩:∃its,Ay p.it=its:=⟨_,Z⟩
 have hil:its.length=p.it.length:=by rw [←hits];exact YN p.it
 have hmem:∀i∈its,i∈p.it:=fun i hi=>by rw [←hits] at hi;exact (YV p.it).mem_iff.1 hi
 have hi30:=hf.i;have hr100:=hf.r;have hrn:(rsP p).Nodup:=G4 hE;have hrl:(rsP p).length=p.ro.length:=ψ _;have hsq:=LS (C3 hE).2.1;rw [hits];refine BB Tryz.func65 Z Z Tryz.ntmps65 Z Z Z fun F hF=>(AC (AE ?_));refine V (Bz 1 Z Z Z Z Z Z Z) (AB Z Z (AD (AC (AE (V (Pb 50 Z Z Z Z) (AB Z Z (AD (AC ?_))))))));refine AC (AE (J (A4 Z Fp Z Z Z) (J (A9 Z Z Z Rm Z) (J (CO Z Tryz.underlying36 Z) (goMv Z Z (AD (A5 (B7 (α:=Nat) (fun k=>⟨76,[(1,.d (.fn g [] caps)),(2,(.ptr 1 0 0)),(5,(.map 50 0)),(19,(.d (.sl none (p.ro.map Cy)))),(20,(.d (AF (p.ro.length:Int)))),(21,(.d (AF (k:Int))))],[(1,[.blk 39 [.d (.sl none (p.ro.map Cy)),.d (.sl none (p.it.map As))]]),(50,[BL C1 Ai (BC ((rsP p).take k))]),(41,[.multi N])]⟩) (fun k=>k≤p.ro.length) (fun k=>p.ro.length - k) (0) (ς _) (A1 hF [1,50,41] Z Z ⟨Z,Z,Z,Z,Z,Z,trivial⟩) ?_))))))));rintro k hk;refine AC (AE (J (BR Z Z Z) (AD (AC (Ae Z (fun h22=>?_) (fun h22=>?_))))))
 ·refine A3 (AC (A5 (AC ?_)));have hkl:k<p.ro.length:=Bf h22;refine AE (J (Be (k) Z Z (Z) (Ah hkl) Tryz.underlying36 Z OG Z) ?_);refine J (HE Z Z ZW Z) (V (CF 2 Qn Z Z Z Z) (V (Bi Z Z Z Z Z Z Z OG) (AD (AE (goMv Z Z (J (A4 Z FG Z Z Z) (J (BM Z Z C7 Z Z Z) (V (Tj (BC ((rsP p).take k)) (p.ro[k].r) (true) Z Z Z Vx CJ Z Z) ?_))))))));rw [rs_put hrn hkl];refine AD (AE (J (BA Z Z (AT (k+1) (by omega)) Z) (goMv Z Z (AD ?_))));exact ⟨k+1,hkl,by omega,A1 hF [1,50,41] Z (Z) ⟨Z,Z,Z,Z,Z,Z,trivial⟩⟩
 ·refine BF (AC ?_);have hke:k=p.ro.length:=by have:=h22;omega
  rw [hke,←hrl,ωs];refine AE (AB Z Z (AD (AC (AE (J (A4 Z EV Z Z Z) (J (A9 Z Z Z Kd Z) (V (E1 (Xy p.it (by omega)) Z [20] ⟨Z,trivial⟩ Z Z Z Z Z Z Z Z Z) (AB Z Z ?_))))))));refine AD (AC (AE (goMv Z Z (V (Ln laysI (k:=6) (by decide) Tryz.isAgg55 Tryz.sizeOf55 Tryz.func116 Z Z SU So be p.it its (by omega) (fun x _ y _=>Ue x y) (fun ys g1 g2=>by rw [←hits];exact Vc hsq g1 (g2.imp fun {a b} h h2=>h (Sn.2 h2))) Z Z Z Kv Z Z Z Z Z) (AD (AC (AC (L4 (emb:=As) 9 20 its Z Z Z hil.symm Z Z Z ?_))))))));refine Fi 40 Z Z Z (AE (goMv Z Z (J (CO Z Tryz.underlying37 Z) (goMv Z Z (AD (A5 (OD 8 30 ZS Z Z Z Z (B7 (α:=Nat×List (AK×Nat)×MF) (fun q=>⟨76,[(1,.d (.fn g [] caps)),(2,(.ptr 1 0 0)),(5,(.map 50 0)),(8,(.own 30 0 q.2.1.length)),(34,(.d (.sl none (its.map As)))),(35,(.d (AF (its.length:Int)))),(36,(.d (AF (q.1:Int))))],[(50,[BL C1 Ai (BC (rsP p))]),(41,[.multi N]),(30,[.rowD 131 7 (q.2.1.map Cf)]),(40,[.multi q.2.2])]⟩) (fun q=>q.1≤its.length∧YQ (rsP p) q.2.2 q.2.1∧q.2.1.map Prod.fst=(its.take q.1).filter fun i=>qp i.id) (fun q=>its.length - q.1) ((0,[],_)) (⟨ς _,(fun e he=>by cases he),Z⟩) (A1 hF [50,41,30,40] Z Z ⟨Z,Z,Z,Z,Z,Z,Z,trivial⟩) ?_))))))));rintro ⟨k,E,M⟩ ⟨hk,hR,hEq⟩;dsimp only at hk hR hEq⊢;refine AC (AE (J (BR Z Z Z) (AD (AC (Ae Z (fun h37=>?_) (fun h37=>?_))))))
  ·refine A3 (AC (A5 (AC ?_)));have hkl:k<its.length:=Bf h37;have hki:=hmem _ (κ hkl);have hkx:=hf.x _ hki;have hEl:E.length≤30:=by have h1:(E.map Prod.fst).length≤its.length:=(by rw [hEq];exact ωe (ωh _ _) (by rw [Υ];omega));rw [ψ] at h1;omega
   refine AE (J (Be (k) Z Z (Z) (Ah hkl) Tryz.underlying37 Z Ck Z) (J (HE Z Z CC Z) (V (CF 2 Em Z Z Z Z) (V (Bi Z Z Z Z Z Z Z Ck) (AD (AC ?_))))));refine AC (AE (goMv Z Z (J (A4 Z OB Z Z Z) (J (A9 Z Z Z Aq Z) (V (YZ (hq its[k].id) Z [41] ⟨Z,trivial⟩ Z Z Z Z Z Z Z Z Z) (J (OC Z Z) (AD (KN Z (fun h44=>?_) (fun h44=>?_)))))))))
   ·have hq44:¬qp its[k].id=true:=by simpa using h44
    refine BF (AE (J (BA Z Z (AT (k+1) (by omega)) Z) (goMv Z Z (AD ?_))));exact ⟨(k+1,E,M),⟨hkl,hR,by show _=(its.take (k+1)).filter _;rw [φ hkl,ψa,hEq,φh,ϑ hq44];simp⟩,by show its.length - (k+1)<its.length - k;omega,A1 hF [50,41,30,40] Z (Z) ⟨Z,Z,Z,Z,Z,Z,Z,trivial⟩⟩
   ·have hq44:qp its[k].id=true:=by simpa using h44
    refine A3 (AC (AE (J (BM Z Z CC Z Z Z) (V (Pb 51 Z Z Z Z) (Oy 46 51 40 hF Z Z Z Z Z Z Z Z Z Z (fun _=>rfl) fun hh hb=>(Lv 40 hh Z (E2 _ _ _) Z ?_))))));rw [G9];refine J (FZ MP pl131 Z Z Z) (V (CF 3 MP Z Z Z Z) (V (Bi Z Z Z Z Z Z Z Gx) (AD (AC ?_))));refine AE (J (BM Z Z CC Z Z Z) (J (B2 (St its[k] (by omega) (by omega) (by omega)) Z Z) (goMv Z Z (J (DD Z Z Z) (J (DD Z Z Z) (AB Z Z (AB Z Z (AD ?_))))))));refine AC (AC (AE (goMv Z Z (J (CO Z Tryz.underlying215 Z) (goMv Z Z (AD (A5 (B7 (α:=Nat) (fun j=>⟨76,[(1,.d (.fn g [] caps)),(2,(.ptr 1 0 0)),(5,(.map 50 0)),(8,(.own 30 0 E.length)),(12,(.ptr 3 0 0)),(34,(.d (.sl none (its.map As)))),(35,(.d (AF (its.length:Int)))),(36,(.d (AF (k:Int)))),(53,(.d (.sl none ((AR its[k]).map OQ)))),(54,(.d (AF ((AR its[k]).length:Int)))),(55,(.d (AF (j:Int))))],[(3,[.blk 131 [.d (AF its[k].id),.d (AF its[k].pr),.d (AF its[k].sq),.d (.sl none (its[k].po.map CG)),.d (.sl none (its[k].pa.map Fm)),.d (.sl none (its[k].af.map AF)),.d (mD hh)]]),(50,[BL C1 Ai (BC (rsP p))]),(41,[.multi N]),(30,[.rowD 131 7 (E.map Cf)]),(40,[.multi (BQ M hh (.map none (Ld (dK (rsP p) its[k] j))))])]⟩) (fun j=>j≤(AR its[k]).length) (fun j=>(AR its[k]).length - j) (0) (ς _) (A1 hF [3,50,41,30,40] Z Z ⟨Z,Z,Z,Z,Z,Z,Z,Z,Z,Z,Z,trivial⟩) ?_))))))));rintro j hj;refine AC (AE (J (BR Z Z Z) (AD (AC (Ae Z (fun h56=>?_) (fun h56=>?_))))))
    ·refine A3 (AC (A5 (AC ?_)));have hdl:=MI (x:=its[k]) hkx;have hjl:j<(AR its[k]).length:=Bf h56;refine AE (J (Be (j) Z Z (Z) (Ah hjl) Tryz.underlying215 Z VS Z) (J (HE Z Z rw218 Z) (V (CF 4 Y4 Z Z Z Z) (V (Bi Z Z Z Z Z Z Z VS) ?_))));refine AD (AC (AE (goMv Z Z (J (A4 Z Jp Z Z Z) (J (BM Z Z C7 Z Z Z) (J (HQ (BC (rsP p)) ((AR its[k])[j]).1 false _ Z Z Z Vx CJ Td (Wd _ _) Z) (AD (Ae Z (fun h62=>?_) (fun h62=>?_)))))))))
     ·refine AE (J (A4 Z MG Z Z Z) (J (A9 Z Z Z Vl Z) (J (A4 Z Jp Z Z Z) (J (BM Z Z C7 Z Z Z) (J (A4 Z WP Z Z Z) (J (A9 Z Z Z Ke Z) (V (RL (f:=40) (dK (rsP p) its[k] j) ((AR its[k])[j]).1 ((AR its[k])[j]).2 Z Z (E2 _ _ _) Z Bv CJ Z Z) ?_)))))));rw [G9,dK_hit hjl h62];refine AD (AE (J (BA Z Z (AT (j+1) (by omega)) Z) (goMv Z Z (AD ?_))));exact ⟨j+1,hjl,by omega,A1 hF [3,50,41,30,40] Z (Z) ⟨Z,Z,Z,Z,Z,Z,Z,Z,Z,Z,Z,trivial⟩⟩
     ·refine A3 (AE (J (BA Z Z (AT (j+1) (by omega)) Z) (goMv Z Z (AD ?_))));exact ⟨j+1,hjl,by omega,A1 hF [3,50,41,30,40] Z (by simp only [dK_miss hjl h62];rfl) ⟨Z,Z,Z,Z,Z,Z,Z,Z,Z,Z,Z,trivial⟩⟩
    ·refine BF ?_;have hje:j=(AR its[k]).length:=by have:=h56;omega
     rw [hje,dK_end];refine AE (goMv Z Z ?_);refine J (BM Z Z LM Z Z Z) (V (D7 31 ZS Z Z Z Z Z Z Z Z) (V (Hz (E) ([(its[k],hh)]) Z Z Z Z Z Z Z Z ZS (by simp only [Φ];omega) Z Z Z Z) (AB Z Z (AD (AE (J (BA Z Z (AT (k+1) (by omega)) Z) (goMv Z Z (AD ?_))))))));exact ⟨(k+1,E++ [(its[k],hh)],_),⟨hkl,hR.add hb,by show _=(its.take (k+1)).filter _;rw [φ hkl,ψa,ωc,hEq,φh,θ hq44];rfl⟩,by show its.length - (k+1)<its.length - k;omega,A1 hF [50,41,30,40] Z (Z) ⟨Z,Z,Z,Z,Z,Z,Z,trivial⟩⟩
  ·refine BF (AC ?_);have hke:k=its.length:=by have:=h37;omega
   rw [hke,ωs] at hEq;refine L4 (emb:=Cf) 8 30 E Z Z Z Z Z Z Z (AE (goMv Z Z (AB Z Z (AD (A8 ?_)))));exact ⟨_,[41,40],_,A6 Z,Z,Z,E,M,Z,Z,hR,hEq⟩
abbrev AN (n:Nat):D:=AF (n:Int)
abbrev natsD (l:List Nat):D:= .sl none (l.map AN)
theorem Kp {l:List Nat} {k:Nat} (h:k<l.length):(l.map AN)[k]? =some (AN (nth l k)):=by rw [Ah h,Nt h]
theorem eqv {a b:D} (h:a=b):AV.d a=AV.d b:=by rw [h]
theorem swpJ {l j:List Nat} {a b:Nat} (ha:a<l.length) (hb:b<l.length):((l++j).set a (nth l b)).set b (nth l a)=IG l a b++j:=by
 rw [List.set_append_left _ _ ha,List.set_append_left _ _ (by simpa using hb)];rfl
theorem takeJ (l j:List Nat) {x:Nat}:((l++j).map AN).take l.length++ [AN x].take 1=(l++ [x]).map AN:=by
 rw [←List.map_take,List.take_left];simp
theorem popJ {l j:List Nat} (h:0<l.length):l.take (l.length - 1)++([nth l (l.length - 1)]++j)=l++j:=by
 have e:=φa (l.length - 1) l;rw [χf (by omega),show l.length - 1+1=l.length by omega,List.drop_length,←Nt (by omega)] at e;rw [←ψl,e]
theorem quo2 (j:Nat):Int.tdiv ((j:Int) - 1) 2=(((j - 1) / 2:Nat):Int):=by
 cases j with
 | zero=>rfl
 | succ j=>rw [show ((j+1:Nat):Int) - 1=(j:Int) by omega,Nat.add_sub_cancel];rfl
theorem AM.top {P:Program} {f:FuncId} {args:List AV} {CH H0:Hp} (h:AM P f args CH fun r H'=>(∃b:Bool,r= .d (Ai b))∧H'=H0):AM P f args CH fun r H'=>r= .top∧H'=H0:=
 ⟨h.1,fun F ρ vs h1 h2 h2' h3 h4 h5=>(h.2 F ρ vs h1 h2 h2' h3 h4 h5).mono fun e w' ⟨v,r,H',ρ',e1,⟨_,e3⟩,_,hh⟩=>⟨v,.top,H',ρ',e1,⟨Z,e3⟩,.top,hh⟩⟩
theorem bdec {p q:Prop} [Decidable p] [Decidable q] (h:p↔q):AV.d (Ai (decide p))=AV.d (Ai (decide q)):=by rw [decide_eq_decide.2 h]
theorem pt3:E5 Tryz.prog 3=true:=by kernel_rfl
theorem Zf:E5 Tryz.prog 321=true:=by kernel_rfl
theorem mLen:JJ Tryz.prog 321 "Len" 223:=fun b w=>by kernel_rfl
theorem SF:JJ Tryz.prog 321 "Less" 296:=fun b w=>by kernel_rfl
theorem SE:JJ Tryz.prog 321 "Swap" 299:=fun b w=>by kernel_rfl
theorem mPush:JJ Tryz.prog 321 "Push" 298:=fun b w=>by kernel_rfl
theorem mPop:JJ Tryz.prog 321 "Pop" 297:=fun b w=>by kernel_rfl
abbrev JK (g:List (List Nat)):D:= .sl none (g.map natsD)
structure GB (g:List (List Nat)):Prop where
 n:g.length≤65536
 e:∀l∈g,l.length≤1048576
 lt:∀l∈g,∀x∈l,x<g.length
theorem DT {g:List (List Nat)} {i:Nat} (h:i<g.length):sucs g i=g[i]:=by simp [sucs,h]
theorem Sb {g:List (List Nat)} {i:Nat} (h:i<g.length):(g.map natsD)[i]? =some (natsD (sucs g i)):=by rw [Ah h,DT h]
theorem GB.len {g:List (List Nat)} (h:GB g) {i:Nat} (hi:i<g.length):(sucs g i).length≤1048576:=by rw [DT hi];exact h.e _ (κ hi)
theorem GB.suc {g:List (List Nat)} (h:GB g) {i x:Nat} (hi:i<g.length) (hx:x∈sucs g i):x<g.length:=by rw [DT hi] at hx;exact h.lt _ (κ hi) x hx
def Q2 (g:List (List Nat)) (i j:Nat):Nat:=((List.range i).map fun a=>(sucs g a).count j).sum
theorem P6 (g:List (List Nat)) (i j:Nat):Q2 g (i+1) j=Q2 g i j+(sucs g i).count j:=by
 unfold Q2;rw [ψj,ωc,χa];simp
theorem WZ {g:List (List Nat)} (h:GB g) (j:Nat):∀i,i≤g.length ->Q2 g i j≤i*1048576
 | 0,_=>by simp [Q2]
 | i+1,hi=>by
  have:=WZ h j i (by omega);have:=List.count_le_length (a:=j) (l:=sucs g i);have:=h.len (i:=i) (by omega);rw [P6];omega
theorem cB (g:List (List Nat)) (j:Nat):Q2 g g.length j=Kz g [] j:=by
 unfold Q2 Kz
 congr 1
theorem Ts {l:List Nat} {k:Nat} (h:k<l.length) (j:Nat):(l.take (k+1)).count j=(l.take k).count j+if nth l k=j then 1 else 0:=by
 rw [φ h,List.count_append,Nt h]
 by_cases e:l[k]=j
 ·subst e;simp
 ·rw [ϑ e,List.count_cons_of_ne e];rfl
theorem bq {l:List Nat} {k:Nat} (h:k<l.length):l.drop k=nth l k::l.drop (k+1):=by rw [Nt h];exact χf h
theorem rep0S (n:Nat):List.replicate n (D.raw (.int .i64 0))=(List.replicate n 0).map AN:=by rw [List.map_replicate];rfl
theorem nth_rep (n k:Nat):nth (List.replicate n 0) k=0:=by
 unfold nth;rw [ϖ,List.getElem?_replicate];split<;>rfl
theorem getset {w:List Nat} {y v:Nat} (h:y<w.length):((w.set y v).map AN)[y]? =some (AN v):=by
 rw [Kp (by simpa using h),G8 h,θ rfl]
theorem degS_le {g:List (List Nat)} (h:GB g) (done:List Nat) (j:Nat):Kz g done j≤g.length*1048576:=by
 have key:∀n,n≤g.length ->((List.range n).map fun i=>if i∈done then 0 else (sucs g i).count j).sum≤n*1048576:=by
  intro n
  induction n with
  | zero=>intro _;exact ς _
  | succ n ih=>
   intro hn;have h1:=ih (by omega);have h2:=List.count_le_length (a:=j) (l:=sucs g n);have h3:=h.len (i:=n) (by omega)
   have h4:(if n∈done then 0 else (sucs g n).count j)≤1048576:=by
    by_cases e:n∈done
    ·rw [θ e];exact ς _
    ·rw [ϑ e];exact ωe h2 h3
   rw [ψj,ωc,χa,φd,List.sum_singleton,Nat.succ_mul];exact Nat.add_le_add h1 h4
 exact key _ (ν _)
theorem oi_wle {g:List (List Nat)} {K:Nat ->Nat} {w q out ls:List Nat} {y:Nat} (hg:GB g) (h:OI g K w q out (y::ls)) (hy:y<g.length) (hl:ls.length≤1048576):nth w y≤69000000000:=by
 have h1:=degS_le hg out y;have h2:=hg.n;have h3:=List.count_le_length (a:=y) (l:=y::ls);rw [h.deg y hy];rw [ψo] at h3;omega
theorem oi_row {g:List (List Nat)} {K:Nat ->Nat} {w q out:List Nat} {x k:Nat} (h:OI g K w q out ((sucs g x).drop k)) (e:k=(sucs g x).length):OI g K w q out []:=by
 rw [e,List.drop_length] at h;exact h
noncomputable def ordG (g:List (List Nat)) (K:Nat ->Nat):List Nat:=Classical.epsilon fun out=>Ql g K out∧∀y,¬Cd g out y
theorem ordG_eq {g:List (List Nat)} {K:Nat ->Nat} (hK:∀a b,a<g.length ->b<g.length ->K a=K b ->a=b) {out:List Nat} (h1:Ql g K out) (h2:∀y,¬Cd g out y):ordG g K=out:=by
 have h:Ql g K (ordG g K)∧∀y,¬Cd g (ordG g K) y:=Classical.epsilon_spec (p:=fun out=>Ql g K out∧∀y,¬Cd g out y) ⟨out,h1,h2⟩;exact bR hK h.1 h1 h.2 h2
structure FI (K:Nat ->Nat) (w:List Nat) (i:Nat) (l:List Nat):Prop where
 nd:l.Nodup
 mem:∀x,x∈l↔x<i∧nth w x=0
 hp:KM K l
theorem FI.le {K:Nat ->Nat} {w:List Nat} {i:Nat} {l:List Nat} (h:FI K w i l):l.length≤i:=by
 have:=cb h.nd (m:=List.range i) fun x hx=>Ξ.2 ((h.mem x).1 hx).1
 rwa [ωg] at this
theorem fi_zero (K:Nat ->Nat) (w:List Nat):FI K w 0 []:=⟨.nil,fun x=>by simp,fun i h0 hi=>by simp at hi⟩
theorem fi_push {K:Nat ->Nat} {w:List Nat} {i:Nat} {l:List Nat} (h:FI K w i l) (hz:nth w i=0):FI K w (i+1) (LT K l i):=by
 have hp:=NI K l i;refine ⟨hp.nodup_iff.2 (φc.2 ⟨fun hm=>χx _ ((h.mem i).1 hm).1,h.nd⟩),fun x=>?_,NJ h.hp i⟩;rw [hp.mem_iff,Ψ,h.mem]
 constructor
 ·rintro (rfl | ⟨h1,h2⟩)
  ·exact ⟨by omega,hz⟩
  ·exact ⟨by omega,h2⟩
 ·rintro ⟨h1,h2⟩
  by_cases e:x=i
  ·exact .inl e
  ·exact .inr ⟨by omega,h2⟩
theorem fi_skip {K:Nat ->Nat} {w:List Nat} {i:Nat} {l:List Nat} (h:FI K w i l) (hz:nth w i≠0):FI K w (i+1) l:=by
 refine ⟨h.nd,fun x=>?_,h.hp⟩;rw [h.mem]
 constructor
 ·rintro ⟨h1,h2⟩;exact ⟨by omega,h2⟩
 ·rintro ⟨h1,h2⟩
  by_cases e:x=i
  ·subst e;exact (hz h2).elim
  ·exact ⟨by omega,h2⟩
structure CW (g:List (List Nat)) (i k:Nat) (w:List Nat):Prop where
 len:w.length=g.length
 val:∀j,j<g.length ->nth w j=Q2 g i j+((sucs g i).take k).count j
theorem cw_zero (g:List (List Nat)):CW g 0 0 (List.replicate g.length 0):=⟨by simp,fun j _=>by rw [nth_rep];simp [Q2]⟩
theorem cw_step {g:List (List Nat)} {i k:Nat} {w:List Nat} (hg:GB g) (h:CW g i k w) (hi:i<g.length) (hk:k<(sucs g i).length):
  nth (sucs g i) k<w.length∧nth w (nth (sucs g i) k)≤100000000000∧CW g i (k+1) (w.set (nth (sucs g i) k) (nth w (nth (sucs g i) k)+1)):=by
 have hx:nth (sucs g i) k<g.length:=hg.suc hi (Cs hk);have hxw:nth (sucs g i) k<w.length:=by rw [h.len];exact hx
 refine ⟨hxw,?_,⟨by simpa using h.len,fun j hj=>?_⟩⟩
 ·rw [h.val _ hx];have:=WZ hg (nth (sucs g i) k) i (by omega);have:=List.count_le_length (a:=nth (sucs g i) k) (l:=(sucs g i).take k);rw [Υ] at this;have:=hg.len hi;have:=hg.n;omega
 ·rw [G8 hxw,Ts hk]
  by_cases e:nth (sucs g i) k=j
  ·rw [θ e.symm,θ e,e,h.val j hj];omega
  ·rw [ϑ fun e'=>e e'.symm,ϑ e,h.val j hj];omega
theorem cw_row {g:List (List Nat)} {i:Nat} {w:List Nat} (h:CW g i (sucs g i).length w):CW g (i+1) 0 w:=⟨h.len,fun j hj=>by rw [h.val j hj,ωs,P6];simp⟩
theorem cw_end {g:List (List Nat)} {w:List Nat} (h:CW g g.length 0 w):w.length=g.length∧∀j,j<g.length ->nth w j=Kz g [] j:=
 ⟨h.len,fun j hj=>by rw [h.val j hj,cB];simp⟩
def cm (rs:List AP) (a b:AK):Prop:=(∃d∈dR rs a,d.2<0∧0<A7 (dR rs b) d.1 0)∨b.id∈a.af
noncomputable instance (rs:List AP) (a b:AK):Decidable (cm rs a b):=Classical.propDecidable _
theorem IN {α:Type} {acc rest:List α} {x:List α} {y:α} {all:List α} (h:(acc++x).Perm all) (hx:x.Perm (y::rest)):((acc++ [y])++rest).Perm all:=by
 refine List.Perm.trans ?_ h;rw [ψl];exact (List.Perm.append_left acc hx).symm
theorem al {α β:Type} {m:List (α×β)} {j:Nat} {x:α×β} (h:m[j]? =some x):x∈m:=ζ h
set_option maxHeartbeats 1000000 in
theorem waits_c {rs:List AP} {M:MF} (a b:AK×Nat) (ha:M a.2=some (.map none (Ld (dR rs a.1)))) (hb:M b.2=some (.map none (Ld (dR rs b.1)))) (haf:a.1.af.length≤100000):
  AM Tryz.prog 132 [.d (Cf a),.d (Cf b)] [(40,[.multi M])] fun r H'=>r= .d (Ai (decide (cm rs a.1 b.1)))∧H'=[(40,[.multi M])]:=by
 obtain ⟨a,ma⟩:=a;obtain ⟨b,mb⟩:=b;dsimp only at ha hb haf⊢
 obtain ⟨L,hL⟩:∃L,dR rs a=L:=⟨_,Z⟩
 have hWt:cm rs a b↔((∃d∈L,d.2<0∧0<A7 (dR rs b) d.1 0)∨b.id∈a.af):=by rw [←hL];exact Iff.rfl
 rw [hL] at ha;refine BB Tryz.func132 Z Z Tryz.ntmps132 Z Z Z fun F hF=>(AC (Pa 40 ma Z ha (fun _ _=>rfl) fun B c hB hBn=>?_))
 obtain ⟨M1,hM1⟩:∃M1,BQ M ma (.map (some (B,c)) (Ld L))=M1:=⟨_,Z⟩
 rw [hM1];have h1a:M1 ma=some (.map (some (B,c)) (Ld L)):=by rw [←hM1,E2]
 have h1b:∃bs,M1 mb=some (.map bs (Ld (dR rs b))):=by
  by_cases e:mb=ma
  ·subst e;rw [ha] at hb;injection hb with hb;injection hb with _ hb;exact ⟨_,by rw [h1a,hb]⟩
  ·exact ⟨none,by rw [←hM1,FR e];exact hb⟩
 obtain ⟨bsb,h1b⟩:=h1b;have hback:BQ M1 ma (.map none (Ld L))=M:=by rw [←hM1,G9];exact PD ha
 refine AE (V (Bz 20 Z Z Z Z Z Z Z) (V (Bz 21 Z Z Z Z Z Z Z) (AB Z Z (AD ?_))));refine AC (AC (AE (J (A4 Z MG Z Z Z) (J (A9 Z Z Z Vl Z) (V (O8 22 (f:=40) Z Z (h1a) Z Bv Z Z Z Z) (AD (A5 (B7 (α:=List Nat×List (AP×Int)) (fun q=>⟨31,[(2,(.ptr 20 0 0)),(3,(.ptr 21 0 0)),(9,(.ptr 22 0 0))],[(20,[.blk 131 [.d (AF a.id),.d (AF a.pr),.d (AF a.sq),.d (.sl none (a.po.map CG)),.d (.sl none (a.pa.map Fm)),.d (.sl none (a.af.map AF)),.d (mD ma)]]),(21,[.blk 131 [.d (AF b.id),.d (AF b.pr),.d (AF b.sq),.d (.sl none (b.po.map CG)),.d (.sl none (b.pa.map Fm)),.d (.sl none (b.af.map AF)),.d (mD mb)]]),(22,[.iter 40 ma c q.1]),(40,[.multi M1])]⟩) (fun q=>(q.2++Bt L B q.1).Perm L∧∀d∈q.2,¬(d.2<0∧0<A7 (dR rs b) d.1 0)) (fun q=>(Bt L B q.1).length) (([],[])) (⟨by show ([]++Bt L B []).Perm L;rw [DK (by simpa [BO] using hB)];exact List.Perm.refl _,(fun d hd=>by cases hd)⟩) (A1 hF [20,21,22,40] Z Z ⟨Z,Z,Z,trivial⟩) ?_))))))));rintro ⟨seen,acc⟩ ⟨hP,hA⟩;dsimp only at hP hA⊢;refine AC (AE (Vo (L) Z Z Z (h1a) Z (fun hl10=>?_) (fun j10 b10 k10 v10 hm10 hb10 hB10 hp10=>⟨_,Z,?_⟩)))
 ·rw [hl10] at hP;refine Lv 40 ma Z h1a Z ?_;rw [hback];refine J (Ct Z Z Z) (AD (AC (D9 Z Z (BF (AC (AE (J (A4 Z IY Z Z Z) ?_)))))));refine J (A4 Z FH Z Z Z) (J (A9 Z Z Z BH Z) (J (A4 Z IY Z Z Z) (J (A4 Z OB Z Z Z) (J (A9 Z Z Z Aq Z) (J (B2 (Nb a.af b.id (by omega)) Z Z) (AB Z Z (AD (A8 ?_))))))));exact ⟨_,[40],_,A6 Z,Z,Z,by rw [decide_eq_decide.2 (hWt.trans ⟨fun h=>h.resolve_left fun ⟨d,hd,hx⟩=>hA d ((show acc.Perm L by simpa using hP).mem_iff.2 hd) hx,.inr⟩)],Z⟩
 ·refine J (Ct Z Z Z) (AD (AC ?_));refine DP Z Z (A3 (A5 (AC (AE (J (Oc (L) j10 b10 Z Z Z (h1a) hm10 hb10 Z) (J (Ct Z Z Z) (J (Ct Z Z Z) (V (CF 23 KP Z Z Z Z) ?_))))))));refine V (Bi Z Z Z Z Z Z Z Yr) (AB Z Z (AD (AC (AE (goMv Z Z (J (BR Z Z Z) (goMv Z Z (Ia 17 Z (fun h17=>?_) (fun h17=>?_)))))))))
  ·refine Aj Z Z Z (J (A4 Z MG Z Z Z) (Aj Z Z Z (J (A9 Z Z Z Vl Z) ?_)));refine Aj Z Z Z (J (BM Z Z C7 Z Z Z) (Aj Z Z Z (J (RN (f:=40) (dR rs b) k10 0 _ Z Z h1b Z Bv CJ Nx Z Z) (Aj Z Z Z (J (MO Z Z Z) (J (FO Z Z Z Z) (AD (Ae Z (fun h23=>?_) (fun h23=>?_)))))))))
   ·refine AC (a_hideN 40 ma Z h1a Z ?_);rw [hback];refine AE (AB Z Z (AD (A8 ?_)));exact ⟨_,[40],_,A6 Z,Z,Z,by rw [ωi (hWt.2 (.inl ⟨_,al hm10,h17,h23⟩))],Z⟩
   ·refine A3 ?_;exact ⟨(seen++ [b10],acc++ [(k10,v10)]),⟨IN hP hp10,fun d hd=>(υ.1 hd).elim (hA d) fun e=>by rw [ξ.1 e];first | exact fun h=>h17 h.1 | exact fun h=>h23 h.2⟩,by show (Bt L B (seen++ [b10])).length<(Bt L B seen).length;rw [hp10.length_eq];exact χk _,A1 hF [20,21,22,40] Z (Z) ⟨Z,Z,Z,trivial⟩⟩
  ·refine Aa Z Z Z Z (Aa Z Z Z Z (Aa Z Z Z Z (Aa Z Z Z Z (Aa Z Z Z Z (J (Da Z Z Z Z) (AD (D9 Z Z (A3 ?_))))))));exact ⟨(seen++ [b10],acc++ [(k10,v10)]),⟨IN hP hp10,fun d hd=>(υ.1 hd).elim (hA d) fun e=>by rw [ξ.1 e];first | exact fun h=>h17 h.1 | exact fun h=>h23 h.2⟩,by show (Bt L B (seen++ [b10])).length<(Bt L B seen).length;rw [hp10.length_eq];exact χk _,A1 hF [20,21,22,40] Z (Z) ⟨Z,Z,Z,trivial⟩⟩
def DN (E:List (AK×Nat)) (k:Nat):AK:=(E.getD k (A0,0)).1
noncomputable def toK (rs:List AP) (E:List (AK×Nat)) (a:AK) (k:Nat):List Nat:=(List.range k).filter fun j=>decide (cm rs a (DN E j))
noncomputable def grW (rs:List AP) (E:List (AK×Nat)):List (List Nat):=E.map fun e=>toK rs E e.1 E.length
theorem toK_hit {rs:List AP} {E:List (AK×Nat)} {a:AK} {k:Nat} (h:cm rs a (DN E k)):toK rs E a (k+1)=toK rs E a k++ [k]:=by
 unfold toK;rw [ψj,ψa];simp [h]
theorem Yi {rs:List AP} {E:List (AK×Nat)} {a:AK} {k:Nat} (h:¬cm rs a (DN E k)):toK rs E a (k+1)=toK rs E a k:=by
 unfold toK;rw [ψj,ψa];simp [h]
theorem Pf (rs:List AP) (E:List (AK×Nat)) (a:AK) (k:Nat):(toK rs E a k).length≤k:=by
 unfold toK;exact ωe (ωh _ _) (by rw [ωg];exact ν _)
theorem Cz {E:List (AK×Nat)} {k:Nat} (hk:k<E.length):DN E k=(E[k]).1:=by unfold DN;rw [ϖ,ω hk];rfl
theorem Ns (rs:List AP) (E:List (AK×Nat)):(grW rs E).length=E.length:=ψ _
set_option maxHeartbeats 1000000 in
theorem WM {rs:List AP} {M:MF} (E:List (AK×Nat)) (hR:YQ rs M E) (hEl:E.length≤1000) (haf:∀e∈E,e.1.af.length≤100000):
  AM Tryz.prog 77 [.d (.sl none (E.map Cf))] [(40,[.multi M])] fun r H'=>r= .d (JK (grW rs E))∧H'=[(40,[.multi M])]:=by
 refine BB Tryz.func77 Z Z Tryz.ntmps77 Z Z Z fun F hF=>?_;refine AC (AE (AB Z Z (AD (AC (AE (AB Z Z (AD (AC ?_))))))));refine AC (AE (goMv Z Z (J (CO Z Tryz.underlying122 Z) (goMv Z Z (AD (A5 (OD 3 10 V3 Z Z Z Z (B7 (α:=Nat×List (List Nat)) (fun q=>⟨36,[(0,.d (.sl none (E.map Cf))),(3,(.own 10 0 q.2.length)),(9,(.d (.sl none (E.map Cf)))),(10,(.d (AF (E.length:Int)))),(11,(.d (AF (q.1:Int))))],[(10,[.rowD 28 1 (q.2.map natsD)]),(40,[.multi M])]⟩) (fun q=>q.1≤E.length∧q.2=(grW rs E).take q.1) (fun q=>E.length - q.1) ((0,[])) (⟨ς _,Z⟩) (A1 hF [10,40] Z Z ⟨Z,Z,Z,Z,Z,trivial⟩) ?_))))))));rintro ⟨i,G⟩ ⟨hi,hG⟩;dsimp only at hi hG⊢;refine AC (AE (J (BR Z Z Z) (AD (AC (Ae Z (fun h12=>?_) (fun h12=>?_))))))
 ·refine A3 (AC (A5 (AC ?_)));have hil:i<E.length:=Bf h12;have hGl:G.length≤1000:=by rw [hG,Υ];omega
  have hei:=κ hil;refine AE (J (Be (i) Z Z (Z) (Ah hil) Tryz.underlying122 Z Gx Z) ?_);refine J (HE Z Z LM Z) (V (CF 21 MP Z Z Z Z) (V (Bi Z Z Z Z Z Z Z Gx) (AD (AC (AE (AB Z Z (AD (AC ?_))))))));refine AC (AE (goMv Z Z (J (CO Z Tryz.underlying122 Z) (goMv Z Z (AD (A5 (OD 6 11 B5 Z Z Z Z (B7 (α:=Nat×List Nat) (fun q=>⟨36,[(0,.d (.sl none (E.map Cf))),(3,(.own 10 0 G.length)),(5,(.ptr 21 0 0)),(6,(.own 11 0 q.2.length)),(9,(.d (.sl none (E.map Cf)))),(10,(.d (AF (E.length:Int)))),(11,(.d (AF (i:Int)))),(15,(.d (.sl none (E.map Cf)))),(16,(.d (AF (E.length:Int)))),(17,(.d (AF (q.1:Int))))],[(21,[.blk 131 [.d (AF (E[i]).1.id),.d (AF (E[i]).1.pr),.d (AF (E[i]).1.sq),.d (.sl none ((E[i]).1.po.map CG)),.d (.sl none ((E[i]).1.pa.map Fm)),.d (.sl none ((E[i]).1.af.map AF)),.d (mD (E[i]).2)]]),(11,[.rowD 3 1 (q.2.map AN)]),(10,[.rowD 28 1 (G.map natsD)]),(40,[.multi M])]⟩) (fun q=>q.1≤E.length∧q.2=toK rs E (E[i]).1 q.1) (fun q=>E.length - q.1) ((0,[])) (⟨ς _,Z⟩) (A1 hF [21,11,10,40] Z Z ⟨Z,Z,Z,Z,Z,Z,Z,Z,Z,Z,trivial⟩) ?_))))))));rintro ⟨k,T⟩ ⟨hk,hT⟩;dsimp only at hk hT⊢;refine AC (AE (J (BR Z Z Z) (AD (AC (Ae Z (fun h18=>?_) (fun h18=>?_))))))
  ·refine A3 (AC (A5 (AC ?_)));have hkl:k<E.length:=Bf h18;have hTl:T.length≤1000:=by have:=Pf rs E (E[i]).1 k;rw [←hT] at this;omega
   have hek:=κ hkl;refine AE (goMv Z Z (J (Be (k) Z Z (Z) (Ah hkl) Tryz.underlying122 Z Gx Z) (J (HE Z Z LM Z) (V (CF 22 MP Z Z Z Z) (AB Z Z ?_)))));refine V (Bi Z Z Z Z Z Z Z Gx) (AD (AC (AE (J (BM Z Z LM Z Z Z) (J (BM Z Z LM Z Z Z) (V (E1 (waits_c E[i] E[k] (hR _ hei) (hR _ hek) (haf _ hei)) Z [40] ⟨Z,trivial⟩ Z Z Z Z Z Z Z Z Z) (AD (Ae Z (fun h24=>?_) (fun h24=>?_)))))))))
   ·refine AE (goMv Z Z ?_);refine goMv Z Z (V (D7 30 B5 Z Z Z Z Z Z Z Z) (V (Hz (T) ([k]) Z Z Z Z Z Z Z Z B5 (by simp only [Φ];omega) Z Z Z Z) (AB Z Z (AD (AE (J (BA Z Z (AT (k+1) (by omega)) Z) (goMv Z Z (AD ?_))))))));exact ⟨(k+1,T++ [k]),⟨hkl,by show _=toK rs E _ (k+1);rw [toK_hit (by rw [Cz hkl];exact h24),hT]⟩,by show E.length - (k+1)<E.length - k;omega,A1 hF [21,11,10,40] Z (Z) ⟨Z,Z,Z,Z,Z,Z,Z,Z,Z,Z,trivial⟩⟩
   ·refine A3 (AE (J (BA Z Z (AT (k+1) (by omega)) Z) (goMv Z Z (AD ?_))));exact ⟨(k+1,T),⟨hkl,by show _=toK rs E _ (k+1);rw [Yi (by rw [Cz hkl];exact h24),hT]⟩,by show E.length - (k+1)<E.length - k;omega,A1 hF [21,11,10,40] Z (Z) ⟨Z,Z,Z,Z,Z,Z,Z,Z,Z,Z,trivial⟩⟩
  ·refine BF ?_;have hke:k=E.length:=by have:=h18;omega
   rw [hke] at hT;refine L4 (emb:=AN) 6 11 T Z Z Z Z Z Z Z ?_;rw [hT];refine AE (goMv Z Z ?_);refine goMv Z Z (V (D7 31 V3 Z Z Z Z Z Z Z Z) (V (Hz (G) ([toK rs E (E[i]).1 E.length]) Z Z Z Z Z Z Z Z V3 (by simp only [Φ];omega) Z Z Z Z) (AB Z Z (AD (AE (J (BA Z Z (AT (i+1) (by omega)) Z) (goMv Z Z (AD ?_))))))));exact ⟨(i+1,G++ [toK rs E (E[i]).1 E.length]),⟨hil,by show _=(grW rs E).take (i+1);rw [hG,φ (by rw [Ns];exact hil)];congr 1;simp [grW]⟩,by show E.length - (i+1)<E.length - i;omega,A1 hF [10,40] Z (Z) ⟨Z,Z,Z,Z,Z,trivial⟩⟩
 ·refine BF (AC ?_);have hie:i=E.length:=by have:=h12;omega
  refine L4 (emb:=natsD) 3 10 G Z Z Z Z Z Z Z ?_;rw [hG,hie,Θ (by rw [Ns];exact ν _)];refine AE (goMv Z Z (AB Z Z (AD (A8 ?_))));exact ⟨_,[40],_,A6 Z,Z,Z,Z,Z⟩
def idK2 (E:List (AK×Nat)) (l:List Nat):List Int:=l.map fun k=>(DN E k).id
theorem ids_p (E:List (AK×Nat)) (l:List Nat) (hl:∀k∈l,k<E.length) (hll:l.length≤1000000):AO Tryz.prog 78 [.d (.sl none (E.map Cf)),.d (natsD l)] (.sl none ((idK2 E l).map AF)):=by
 refine BB Tryz.func78 Z Z Tryz.ntmps78 Z Z Z fun F hF=>?_;refine AC (AE (AB Z Z (AD (AC (AE (AB Z Z (AD (AC ?_))))))));refine AC (AE (goMv Z Z (J (I5 Z (ψ ..) Tryz.underlying28 Z) (goMv Z Z (AD (A5 (OD 5 10 B5 Z Z Z Z (B7 (α:=Nat×List Int) (fun q=>⟨25,[(0,.d (.sl none (E.map Cf))),(5,(.own 10 0 q.2.length)),(8,(.d (natsD l))),(9,(.d (AF (l.length:Int)))),(10,(.d (AF (q.1:Int))))],[(10,[.rowD 3 1 (q.2.map AF)])]⟩) (fun q=>q.1≤l.length∧q.2=idK2 E (l.take q.1)) (fun q=>l.length - q.1) ((0,[])) (⟨ς _,Z⟩) (A1 hF [10] Z Z ⟨Z,Z,Z,Z,Z,trivial⟩) ?_))))))));rintro ⟨k,T⟩ ⟨hk,hT⟩;dsimp only at hk hT⊢;refine AC (AE (J (BR Z Z Z) (AD (AC (Ae Z (fun h11=>?_) (fun h11=>?_))))))
 ·refine A3 (AC (A5 (AC ?_)));have hkl:k<l.length:=Bf h11;have hTl:T.length≤1000000:=by rw [hT];unfold idK2;rw [ψ,Υ];omega
  have hlk:l[k]<E.length:=hl _ (κ hkl);have hgk:(l.map AN)[k]? =some (AN l[k]):=Ah hkl;have hgE:(E.map Cf)[l[k]]? =some (Cf E[l[k]]):=Ah hlk;refine AE (J (Be (k) Z Z (Z) (hgk) Tryz.underlying28 Z BE Z) (J (Cr Z Z Aq Z) (AB Z Z ?_)));refine AD (AE (goMv Z Z (goMv Z Z (goMv Z Z (J (Be (l[k]) Z Z (Z) (hgE) Tryz.underlying122 Z Gx Z) (J (Dc Z IY Z Z Z) (J (Zcf Z OB Z Z Z) (J (Cr Z Z Aq Z) ?_))))))));rw [show ((E[l[k]]).1.id:Int)=(DN E l[k]).id by rw [Cz hlk]];refine V (D7 30 B5 Z Z Z Z Z Z Z Z) (V (Hz (T) ([(DN E l[k]).id]) Z Z Z Z Z Z Z Z B5 (by simp only [Φ];omega) Z Z Z Z) (AB Z Z (AD (AE (J (BA Z Z (AT (k+1) (by omega)) Z) (goMv Z Z (AD ?_)))))));exact ⟨(k+1,T++ [(DN E l[k]).id]),⟨hkl,by show _=idK2 E (l.take (k+1));rw [hT];unfold idK2;rw [φ hkl,ωc];rfl⟩,by show l.length - (k+1)<l.length - k;omega,A1 hF [10] Z (Z) ⟨Z,Z,Z,Z,Z,trivial⟩⟩
 ·refine BF (AC ?_);have hke:k=l.length:=by have:=h11;omega
  rw [hke,ωs] at hT;refine L4 (emb:=AF) 5 10 T Z Z Z Z Z Z Z ?_;rw [hT];refine AE (goMv Z Z (AB Z Z (AD (A8 ?_))));exact ⟨_,[],[],A6 Z,Z,Z,Z,Z⟩
end Go.Proofs.YteifpcnphnhaoaaGreat
namespace Go.Proofs.YteifpcnphnhaoaaGreat
noncomputable def dec (p:Prop):Bool:= @decide p (Classical.propDecidable p)
theorem E8 {p:Prop}:dec p=true↔p:= @decide_eq_true_iff p (Classical.propDecidable p)
theorem bv {p:Prop} (h:p):dec p=true:=E8.2 h
theorem dec_f {p:Prop} (h:¬p):dec p=false:=by
 cases e:dec p with
 | false=>rfl
 | true=>exact absurd (E8.1 e) h
theorem bw {p q:Prop} [Decidable p] (h:p↔q):decide p=dec q:=by
 by_cases e:p
 ·rw [ωi e,bv (h.1 e)]
 ·rw [ωp e,dec_f fun h2=>e (h.2 h2)]
def Qg (rs:List AP) (a b:AK):Prop:=b.id∈a.af∨a.id∈b.af∨∃r,r∈(dR rs a).map Prod.fst∧r∈(dR rs b).map Prod.fst
noncomputable instance (rs:List AP) (a b:AK):Decidable (Qg rs a b):=Classical.propDecidable _
theorem Qg.symm {rs:List AP} {a b:AK} (h:Qg rs a b):Qg rs b a:=by
 rcases h with h | h | ⟨r,h1,h2⟩
 ·exact .inr (.inl h)
 ·exact .inl h
 ·exact .inr (.inr ⟨r,h2,h1⟩)
noncomputable def nbI (rs:List AP) (E:List (AK×Nat)) (i:Nat):List Nat:=(List.range E.length).filter fun j=>decide (i<E.length∧Qg rs (DN E i) (DN E j))
theorem EB {rs:List AP} {E:List (AK×Nat)} {i j:Nat}:j∈nbI rs E i↔i<E.length∧j<E.length∧Qg rs (DN E i) (DN E j):=by
 unfold nbI;rw [ωb,Ξ,ωx];exact ⟨fun h=>⟨h.2.1,h.1,h.2.2⟩,fun h=>⟨h.2.1,h.1,h.2.2⟩⟩
def Cn (rs:List AP) (E:List (AK×Nat)):Nat ->Nat ->Prop:=Rh (nbI rs E)
theorem Rh.sym {suc:Nat ->List Nat} (hs:∀i j,j∈suc i ->i∈suc j) {a b:Nat} (h:Rh suc a b):Rh suc b a:=by
 induction h with
 | refl=>exact .refl _
 | step _ e ih=>exact (Rh.one (hs _ _ e)).trans ih
theorem Cn.symm {rs:List AP} {E:List (AK×Nat)} {i j:Nat} (h:Cn rs E i j):Cn rs E j i:=
 Rh.sym (fun i j h=>EB.2 ⟨(EB.1 h).2.1,(EB.1 h).1,(EB.1 h).2.2.symm⟩) h
def D4 (f:Nat ->Nat) (a b:Nat):Nat ->Nat:=fun k=>if f k=max (f a) (f b) then min (f a) (f b) else f k
theorem Gd {f:Nat ->Nat} {a b i j:Nat} (h:f i=f j):D4 f a b i=D4 f a b j:=by unfold D4;rw [h]
theorem PO {f:Nat ->Nat} {a b:Nat}:D4 f a b a=D4 f a b b:=by
 unfold D4
 by_cases h:f a≤f b
 ·rw [Nat.max_eq_right h,Nat.min_eq_left h,θ rfl];split<;>rfl
 ·have h':f b≤f a:=by omega
  rw [Nat.max_eq_left h',Nat.min_eq_right h',θ rfl];split<;>rfl
structure UF (n:Nat) (C:Nat ->Nat ->Prop) (f:Nat ->Nat):Prop where
 le:∀k,k<n ->f k≤k
 ff:∀k,k<n ->f (f k)=f k
 snd:∀i j,i<n ->j<n ->f i=f j ->C i j
theorem UF.join {n:Nat} {C:Nat ->Nat ->Prop} {f:Nat ->Nat} (h:UF n C f) (ht:∀i j k,C i j ->C j k ->C i k) (hs:∀i j,C i j ->C j i) {a b:Nat} (ha:a<n) (hb:b<n) (hab:C a b):UF n C (D4 f a b):=by
 have hm:min (f a) (f b)=f a∨min (f a) (f b)=f b:=by omega
 have hM:max (f a) (f b)=f a∨max (f a) (f b)=f b:=by omega
 have hfm:f (min (f a) (f b))=min (f a) (f b):=by
  rcases hm with e | e
  ·rw [e];exact h.ff a ha
  ·rw [e];exact h.ff b hb
 have hcl:∀i,i<n ->f i=max (f a) (f b) ->C i a:=fun i hi e=>by
  rcases hM with e2 | e2
  ·exact h.snd i a hi ha (e.trans e2)
  ·exact ht _ _ _ (h.snd i b hi hb (e.trans e2)) (hs _ _ hab)
 have hcm:∀i,i<n ->f i=min (f a) (f b) ->C i a:=fun i hi e=>by
  rcases hm with e2 | e2
  ·exact h.snd i a hi ha (e.trans e2)
  ·exact ht _ _ _ (h.snd i b hi hb (e.trans e2)) (hs _ _ hab)
 refine ⟨fun k hk=>?_,fun k hk=>?_,fun i j hi hj e=>?_⟩
 ·have:=h.le k hk;unfold D4;split<;>omega
 ·by_cases e:f k=max (f a) (f b)
  ·have e1:D4 f a b k=min (f a) (f b):=θ e;rw [e1];unfold D4;rw [hfm]
   split<;>rfl
  ·have e1:D4 f a b k=f k:=ϑ e;rw [e1];unfold D4;rw [h.ff k hk,ϑ e]
 ·unfold D4 at e
  by_cases e1:f i=max (f a) (f b)<;>by_cases e2:f j=max (f a) (f b)
  ·exact h.snd i j hi hj (e1.trans e2.symm)
  ·rw [θ e1,ϑ e2] at e;exact ht _ _ _ (hcl i hi e1) (hs _ _ (hcm j hj e.symm))
  ·rw [ϑ e1,θ e2] at e;exact ht _ _ _ (hcm i hi e) (hs _ _ (hcl j hj e2))
  ·rw [ϑ e1,ϑ e2] at e;exact h.snd i j hi hj e
theorem UF.id (n:Nat) {C:Nat ->Nat ->Prop} (hr:∀i,C i i):UF n C (fun k=>k):=⟨fun _ _=>ν _,fun _ _=>rfl,fun i j _ _ (e:i=j)=>by subst e;exact hr i⟩
noncomputable def clsN (n:Nat) (C:Nat ->Nat ->Prop):List (List Nat):=((List.range n).filter fun k=>dec (∀j,j<k ->¬C k j)).map fun k=>(List.range n).filter fun j=>dec (C k j)
def Xf (n:Nat) (f:Nat ->Nat) (k:Nat):List Nat:=(List.range n).filter fun j=>decide (f j=k)
def Jd (n m:Nat) (f:Nat ->Nat):List (List Nat):=((List.range m).filter fun k=>decide (f k=k)).map (Xf n f)
theorem aq {n m:Nat} {f:Nat ->Nat} (h:f m=m):Jd n (m+1) f=Jd n m f++ [Xf n f m]:=by
 unfold Jd;rw [ψj,ψa,ωc];simp [h]
theorem Xe {n m:Nat} {f:Nat ->Nat} (h:¬f m=m):Jd n (m+1) f=Jd n m f:=by
 unfold Jd;rw [ψj,ψa,ωc];simp [h]
theorem ap (n m:Nat) (f:Nat ->Nat):(Jd n m f).length≤m:=by
 unfold Jd;rw [ψ];exact ωe (ωh _ _) (by rw [ωg];exact ν _)
theorem lab_cls {n:Nat} {C:Nat ->Nat ->Prop} {f:Nat ->Nat} (h:UF n C f) (hc:∀i j,i<n ->j<n ->C i j ->f i=f j):Jd n n f=clsN n C:=by
 have hle:∀k,k<n ->(f k=k↔∀j,j<k ->¬C k j):=fun k hk=>by
  constructor
  ·intro e j hj hC;have h1:=hc k j hk (by omega) hC;have h2:=h.le j (by omega);omega
  ·intro hn;have h1:=h.le k hk;rcases χl (f k) k with h2 | h2
   ·exact absurd (h.snd k (f k) hk (by omega) (h.ff k hk).symm) (hn _ h2)
   ·omega
 unfold Jd clsN;rw [show ((List.range n).filter fun k=>decide (f k=k))=(List.range n).filter fun k=>dec (∀j,j<k ->¬C k j) from χp fun k hk=>bw (hle k (Ξ.1 hk))];refine ωj fun k hk=>?_;obtain ⟨hk1,hk2⟩:=ωb.1 hk;have hkn:=Ξ.1 hk1;have hfk:f k=k:=(hle k hkn).2 (E8.1 hk2);unfold Xf;refine χp fun j hj=>bw ?_;have hjn:=Ξ.1 hj;exact ⟨fun e=>h.snd k j hkn hjn (by rw [hfk,e]),fun hC=>by rw [←hc k j hkn hjn hC,hfk]⟩
structure OZ (rs:List AP) (E:List (AK×Nat)) (P:Nat ->AP ->Prop) (U:List (AP×Nat)) (f:Nat ->Nat):Prop where
 ok:∀e∈U,e.2<E.length∧e.1∈(dR rs (DN E e.2)).map Prod.fst
 has:∀k r,P k r ->r∈U.map Prod.fst∧f (A7 U r 0)=f k
theorem OZ.keep {rs:List AP} {E:List (AK×Nat)} {P:Nat ->AP ->Prop} {U:List (AP×Nat)} {f f':Nat ->Nat} (h:OZ rs E P U f) (hf:∀i j,f i=f j ->f' i=f' j):OZ rs E P U f':=
 ⟨h.ok,fun k r hp=>⟨(h.has k r hp).1,hf _ _ (h.has k r hp).2⟩⟩
theorem OZ.mono {rs:List AP} {E:List (AK×Nat)} {P P':Nat ->AP ->Prop} {U:List (AP×Nat)} {f:Nat ->Nat} (h:OZ rs E P U f) (hp:∀k r,P' k r ->P k r):OZ rs E P' U f:=⟨h.ok,fun k r h2=>h.has k r (hp k r h2)⟩
theorem mget_ok {U:List (AP×Nat)} {r:AP} (h:r∈U.map Prod.fst):(r,A7 U r 0)∈U:=Hf h
theorem OZ.new {rs:List AP} {E:List (AK×Nat)} {P P':Nat ->AP ->Prop} {U:List (AP×Nat)} {f:Nat ->Nat} (h:OZ rs E P U f) {r:AP} {k:Nat} (hr:r∉U.map Prod.fst) (hk:k<E.length) (hu:r∈(dR rs (DN E k)).map Prod.fst) (hp:∀i s,P' i s ->P i s∨(i=k∧s=r)):OZ rs E P' (Aw U r k) f:=by
 rw [Dk hr];refine ⟨fun e he=>?_,fun i s hi=>?_⟩
 ·rcases υ.1 he with he | he
  ·exact h.ok e he
  ·rw [ξ.1 he];exact ⟨hk,hu⟩
 ·rw [←Dk hr,He];rcases hp i s hi with h1 | ⟨rfl,rfl⟩
  ·obtain ⟨h2,h3⟩:=h.has i s h1;have hne:s≠r:=fun e=>hr (by rw [←e];exact h2);rw [ϑ hne];exact ⟨by rw [Dk hr,ωc];exact ψn _ h2,h3⟩
  ·rw [θ rfl];exact ⟨by rw [Dk hr,ωc];simp,Z⟩
theorem OZ.join {rs:List AP} {E:List (AK×Nat)} {P P':Nat ->AP ->Prop} {U:List (AP×Nat)} {f:Nat ->Nat} (h:OZ rs E P U f) {r:AP} {k:Nat} (hr:r∈U.map Prod.fst) (hp:∀i s,P' i s ->P i s∨(i=k∧s=r)):OZ rs E P' U (D4 f (A7 U r 0) k):=
 ⟨h.ok,fun i s hi=>(hp i s hi).elim (fun h1=>⟨(h.has i s h1).1,Gd (h.has i s h1).2⟩) fun ⟨e1,e2⟩=>by subst e1 e2;exact ⟨hr,PO⟩⟩
theorem OZ.zero (rs:List AP) (E:List (AK×Nat)) (f:Nat ->Nat):OZ rs E (fun _ _=>False) [] f:=⟨fun e he=>(by cases he),fun k r h=>h.elim⟩
def Lc (E:List (AK×Nat)) (k:Nat):List (Int×Nat):=(List.range k).map fun j=>((DN E j).id,j)
theorem Zl (E:List (AK×Nat)) (k:Nat):Lc E (k+1)=Lc E k++ [((DN E k).id,k)]:=by unfold Lc;rw [ψj,ωc];rfl
theorem V9 {E:List (AK×Nat)} {k:Nat} {x:Int}:x∈(Lc E k).map Prod.fst↔∃j,j<k∧(DN E j).id=x:=by
 unfold Lc;rw [ωu,ϱ];exact ⟨fun ⟨j,hj,e⟩=>⟨j,Ξ.1 hj,e⟩,fun ⟨j,hj,e⟩=>⟨j,Ξ.2 hj,e⟩⟩
def IdI (E:List (AK×Nat)):Prop:=∀i j,i<E.length ->j<E.length ->(DN E i).id=(DN E j).id ->i=j
theorem plc_put {E:List (AK×Nat)} (hi:IdI E) {k:Nat} (hk:k<E.length):Aw (Lc E k) (DN E k).id k=Lc E (k+1):=by
 rw [Dk fun hm=>by
  obtain ⟨j,hj,e⟩:=V9.1 hm;have:=hi j k (by omega) hk e
  omega,Zl]
theorem V8 {E:List (AK×Nat)} (hi:IdI E) {x:Int} (h:x∈(Lc E E.length).map Prod.fst):A7 (Lc E E.length) x 0<E.length∧(DN E (A7 (Lc E E.length) x 0)).id=x:=by
 have h1:(x,A7 (Lc E E.length) x 0)∈Lc E E.length:=Hf h;obtain ⟨j,hj,e⟩:=ϱ.1 h1;injection e with e1 e2
 rw [←e2];exact ⟨Ξ.1 hj,e1⟩
theorem Zm {E:List (AK×Nat)} (hi:IdI E) {j:Nat} (hj:j<E.length):(DN E j).id∈(Lc E E.length).map Prod.fst∧A7 (Lc E E.length) (DN E j).id 0=j:=by
 have h1:(DN E j).id∈(Lc E E.length).map Prod.fst:=V9.2 ⟨j,hj,Z⟩;obtain ⟨h2,h3⟩:=V8 hi h1;exact ⟨h1,hi _ _ h2 hj h3⟩
end Go.Proofs.YteifpcnphnhaoaaGreat
namespace Go.Proofs.YteifpcnphnhaoaaGreat
open Go.RowKit
abbrev rowN (n:Nat) (f:Nat ->Nat):List D:=(List.range n).map fun v=>AN (f v)
abbrev Df (n:Nat) (f:Nat ->Int):List D:=(List.range n).map fun v=>AF (f v)
theorem IA {n i:Nat} {f:Nat ->Nat} (h:i<n):(rowN n f)[i]? =some (AN (f i)):=by simp [h]
theorem RZ {n i:Nat} {f:Nat ->Int} (h:i<n):(Df n f)[i]? =some (AF (f i)):=by simp [h]
theorem Lp {n i:Nat} {f h:Nat ->D} (he:∀j,j<n ->j≠i ->f j=h j) {x:D} (hx:x=h i):((List.range n).map f).set i x=(List.range n).map h:=by
 refine χc (by simp) fun j h1 h2=>?_;rw [List.getElem_set];simp only [ψ,ωg] at h2;simp only [ωd,ψs]
 by_cases e:i=j
 ·subst e;rw [θ rfl];exact hx
 ·rw [ϑ e];exact he j h2 fun e'=>e e'.symm
theorem cd {n i x:Nat} {f:Nat ->Nat}:(rowN n f).set i (AN x)=rowN n (At f i x):=
 Lp (fun j _ hne=>by rw [GS hne]) (by rw [KK])
theorem Z3 {n i:Nat} {x:Int} {f:Nat ->Int}:(Df n f).set i (AF x)=Df n (At f i x):=
 Lp (fun j _ hne=>by rw [GS hne]) (by rw [KK])
theorem cc (n:Nat) (f:Nat ->Nat):(rowN n f).length=n:=by simp
theorem H3 (n:Nat) (f:Nat ->Int):(Df n f).length=n:=by simp
theorem repN (n:Nat):List.replicate n (D.raw (.int .i64 0))=rowN n (fun _=>0):=by
 refine χc (by simp) fun j h1 h2=>?_
 simp
theorem repI (n:Nat):List.replicate n (D.raw (.int .i64 0))=Df n (fun _=>0):=by
 refine χc (by simp) fun j h1 h2=>?_
 simp
abbrev Sd (f:Nat×Nat):D:= .agg [AN f.1,AN f.2]
def pend:Option Nat ->List (Nat×Nat)
 | none=> []
 | some v=> [(v,0)]
theorem FX {l j:List (Nat×Nat)} {x:Nat×Nat} {k:Nat} (h:k=l.length):((l++ [x]++j).map Sd)[k]? =some (Sd x):=by
 subst h;simp
theorem setF {l j:List (Nat×Nat)} {x y:Nat×Nat} {k:Nat} (h:k=l.length):((l++ [x]++j).map Sd).set k (Sd y)=(l++ [y]++j).map Sd:=by
 subst h;simp
theorem takeF (l j:List (Nat×Nat)) {x:Nat×Nat}:((l++j).map Sd).take l.length++ [Sd x].take 1=(l++ [x]).map Sd:=by
 rw [←List.map_take,List.take_left];simp
theorem aa (a b:Nat):(if (b:Int)<(a:Int) then (b:Int) else (a:Int))=((min a b:Nat):Int):=by
 split<;>omega
def mu (n:Nat) (suc:Nat ->List Nat) (S:TS):Nat:=((List.range n).map fun v=>if S.idx v=0 then (suc v).length+1 else 0).sum+(S.cs.map fun f=>(suc f.1).length - f.2+1).sum
theorem aV {n:Nat} {suc:Nat ->List Nat} {S:TS} {v:Nat} (hv:v<n) (h0:S.idx v=0) {l:Nat ->Nat} {st:List Nat} {c:Nat}:
  mu n suc ⟨At S.idx v (S.clk+1),l,S.of,st,S.cs++ [(v,0)],S.cnt,c⟩=mu n suc S:=by
 unfold mu;dsimp only
 have:=VU (n:=n) (i:=v) (f:=fun v=>if S.idx v=0 then (suc v).length+1 else 0) (h:=fun u=>if At S.idx v (S.clk+1) u=0 then (suc u).length+1 else 0) (c:=(suc v).length+1) hv
  (fun k _ hne=>by rw [GS hne]) (by rw [KK,θ h0,ϑ (by omega)];omega)
 rw [this,ωc,χa];simp only [ωm,List.map_nil,φb,List.sum_nil];omega
theorem Kh {n:Nat} {suc:Nat ->List Nat} {S:TS} {cs0:List (Nat×Nat)} {v k:Nat} (h:S.cs=cs0++ [(v,k)]) (hk:k<(suc v).length) {l:Nat ->Nat}:mu n suc {S with low:=l,cs:=cs0++ [(v,k+1)]}<mu n suc S:=by
 unfold mu;rw [h];dsimp only;rw [ωc,ωc,χa,χa];simp only [ωm,List.map_nil,φb,List.sum_nil];omega
theorem Hc {n:Nat} {suc:Nat ->List Nat} {S:TS} {cs0:List (Nat×Nat)} {v k:Nat} (h:S.cs=cs0++ [(v,k)]) {l:Nat ->Nat} {o:Nat ->Int} {st:List Nat} {c:Nat}:mu n suc ⟨S.idx,l,o,st,cs0,c,S.clk⟩<mu n suc S:=by
 unfold mu;rw [h];dsimp only;rw [ωc,χa];simp only [ωm,List.map_nil,φb,List.sum_nil];omega
structure TH (n:Nat) (suc:Nat ->List Nat) (r:Nat) (S:TS) (p:Option Nat):Prop where
 ti:TI n suc S p
 k1:∀f∈S.cs,1≤f.2
 old:∀v,v<r ->S.idx v≠0
 rt:S.idx r≠0∨p=some r
structure TB (n:Nat) (suc:Nat ->List Nat) (r:Nat) (S:TS) (cs0:List (Nat×Nat)) (v k:Nat):Prop where
 ti:TI n suc S none
 hcs:S.cs=cs0++ [(v,k)]
 k1:∀f∈cs0,1≤f.2
 old:∀v,v<r ->S.idx v≠0
 rt:S.idx r≠0
theorem th_last {n:Nat} {suc:Nat ->List Nat} {r:Nat} {S:TS} {p:Option Nat} (h:TH n suc r S p) (hne:S.cs++pend p≠ []):∃cs0 v k,S.cs++pend p=cs0++ [(v,k)]∧v<n∧(k=0 ->S.cs=cs0∧p=some v)∧(k≠0 ->S.cs=cs0++ [(v,k)]∧p=none):=by
 cases p with
 | some v=>exact ⟨S.cs,v,0,Z,(h.ti.pnd v Z).1,fun _=>⟨Z,Z⟩,fun h=>(h Z).elim⟩
 | none=>
  rw [pend,ωk] at hne⊢;rcases List.eq_nil_or_concat S.cs with e | ⟨l,⟨v,k⟩,e⟩
  ·exact (hne e).elim
  ·rw [List.concat_eq_append] at e;have hm:(v,k)∈S.cs:=by rw [e];exact ψh _ (ξ.2 Z)
   have:=h.k1 _ hm;have hv:=h.ti.lt v ((h.ti.st v).1 (h.ti.csm _ hm)).1;exact ⟨l,v,k,e,hv,fun hk=>by dsimp only at this;omega,fun _=>⟨e,Z⟩⟩
theorem Yn {n:Nat} {suc:Nat ->List Nat} {r:Nat} {S:TS} {v:Nat} (h:TH n suc r S (some v)):
  TB n suc r ⟨At S.idx v (S.clk+1),At S.low v (S.clk+1),S.of,S.st++ [v],S.cs++ [(v,0)],S.cnt,S.clk+1⟩ S.cs v 0:=by
 refine ⟨Yk h.ti,Z,h.k1,fun w hw=>?_,?_⟩
 ·show At S.idx v (S.clk+1) w≠0
  by_cases e:w=v
  ·subst e;rw [KK];omega
  ·rw [GS e];exact h.old w hw
 ·show At S.idx v (S.clk+1) r≠0
  by_cases e:r=v
  ·subst e;rw [KK];omega
  ·rw [GS e];exact h.rt.resolve_right fun e'=>e (Option.some.inj e').symm
theorem tb_old {n:Nat} {suc:Nat ->List Nat} {r:Nat} {S:TS} {cs0:List (Nat×Nat)} {v k:Nat} (h:TH n suc r S none) (hcs:S.cs=cs0++ [(v,k)]):TB n suc r S cs0 v k:=
 ⟨h.ti,hcs,fun f hf=>h.k1 f (by rw [hcs];exact ψn _ hf),h.old,h.rt.resolve_right fun e=>by cases e⟩
theorem Ij {n:Nat} {suc:Nat ->List Nat} {r:Nat} {S:TS} {cs0:List (Nat×Nat)} {v k:Nat} (h:TB n suc r S cs0 v k):v<n∧v∈S.st∧S.idx v≠0∧k≤(suc v).length:=by
 have hm:(v,k)∈S.cs:=by rw [h.hcs];exact ψh _ (ξ.2 Z)
 have h1:=h.ti.csm _ hm;have h2:=((h.ti.st v).1 h1).1;exact ⟨h.ti.lt v h2,h1,h2,(h.ti.gry _ hm).1⟩
theorem Yp {n:Nat} {suc:Nat ->List Nat} {r:Nat} {S:TS} {cs0:List (Nat×Nat)} {v k j:Nat} (h:TB n suc r S cs0 v k) (hj:(suc v)[k]? =some j) (hjn:j<n) (h0:S.idx j=0):
  TH n suc r {S with cs:=cs0++ [(v,k+1)]} (some j):=by
 refine ⟨Tr h.ti h.hcs hj hjn (low':=S.low) (fun w=>ν _) (fun w hw=>(h.ti.lw w hw).2) (.inr Z) (fun x e=>⟨(Option.some.inj e).symm,h0⟩) (fun hm=>absurd h0 ((h.ti.st j).1 hm).1),fun f hf=>?_,h.old,.inl h.rt⟩;rcases υ.1 hf with hf | hf
 ·exact h.k1 f hf
 ·rw [ξ.1 hf];show 1≤k+1;omega
theorem Yq {n:Nat} {suc:Nat ->List Nat} {r:Nat} {S:TS} {cs0:List (Nat×Nat)} {v k j:Nat} (h:TB n suc r S cs0 v k) (hj:(suc v)[k]? =some j) (hjn:j<n) (h0:S.idx j≠0) (ho:S.of j<0):
  TH n suc r {S with low:=At S.low v (min (S.low v) (S.idx j)),cs:=cs0++ [(v,k+1)]} none:=by
 have hjs:j∈S.st:=(h.ti.st j).2 ⟨h0,ho⟩;refine ⟨Tr h.ti h.hcs hj hjn (fun w=>?_) (fun w hw=>?_) (.inl h0) (fun x e=>by cases e) (fun _=>by rw [KK];omega),fun f hf=>?_,h.old,.inl h.rt⟩
 ·by_cases e:w=v
  ·subst e;rw [KK];omega
  ·rw [GS e];exact ν _
 ·by_cases e:w=v
  ·subst e;rw [KK];rcases χl (S.idx j) (S.low w) with hl | hl
   ·exact ⟨j,hjs,by omega,Rh.one (ζ hj)⟩
   ·obtain ⟨y,hy,e1,e2⟩:=(h.ti.lw w hw).2;exact ⟨y,hy,by omega,e2⟩
  ·rw [GS e];exact (h.ti.lw w hw).2
 ·rcases υ.1 hf with hf | hf
  ·exact h.k1 f hf
  ·rw [ξ.1 hf];show 1≤k+1;omega
theorem VN {n:Nat} {suc:Nat ->List Nat} {r:Nat} {S:TS} {cs0:List (Nat×Nat)} {v k j:Nat} (h:TB n suc r S cs0 v k) (hj:(suc v)[k]? =some j) (hjn:j<n) (h0:S.idx j≠0) (ho:¬S.of j<0):
  TH n suc r {S with cs:=cs0++ [(v,k+1)]} none:=by
 refine ⟨Tr h.ti h.hcs hj hjn (low':=S.low) (fun w=>ν _) (fun w hw=>(h.ti.lw w hw).2) (.inl h0) (fun x e=>by cases e) (fun hm=>absurd ((h.ti.st j).1 hm).2 ho),fun f hf=>?_,h.old,.inl h.rt⟩;rcases υ.1 hf with hf | hf
 ·exact h.k1 f hf
 ·rw [ξ.1 hf];show 1≤k+1;omega
theorem maxNN (a b:Nat):(if (b:Int)>(a:Int) then (b:Int) else (a:Int))=((max a b:Nat):Int):=by split<;>omega
def U1 (f:Nat ->Nat) (a b k:Nat):Nat ->Nat:=fun j=>if j<k then D4 f a b j else f j
theorem az (f:Nat ->Nat) (a b:Nat):U1 f a b 0=f:=by funext j;unfold U1;rw [ϑ (by omega)]
theorem joK_at (f:Nat ->Nat) (a b k:Nat):U1 f a b k k=f k:=ϑ (by omega)
theorem joK_hit {f:Nat ->Nat} {a b k:Nat} (h:f k=max (f a) (f b)):At (U1 f a b k) k (min (f a) (f b))=U1 f a b (k+1):=by
 funext j
 by_cases e:j=k
 ·subst e;rw [KK];unfold U1;rw [θ (by omega)];unfold D4;rw [θ h]
 ·rw [GS e];unfold U1
  by_cases hj:j<k
  ·rw [θ hj,θ (by omega)]
  ·rw [ϑ hj,ϑ (by omega)]
theorem bA {f:Nat ->Nat} {a b k:Nat} (h:¬f k=max (f a) (f b)):U1 f a b (k+1)=U1 f a b k:=by
 funext j
 by_cases e:j=k
 ·subst e;unfold U1;rw [θ (by omega),ϑ (by omega)];unfold D4;rw [ϑ h]
 ·unfold U1
  by_cases hj:j<k
  ·rw [θ hj,θ (by omega)]
  ·rw [ϑ hj,ϑ (by omega)]
theorem Oi {n:Nat} {f h:Nat ->Nat} (e:∀j,j<n ->f j=h j):rowN n f=rowN n h:=ωj fun j hj=>by rw [e j (Ξ.1 hj)]
abbrev HJ (n:Nat) (f:Nat ->Nat):Hp:=[(930,[.blk 28 [.own 931 0 n]]),(931,[.rowD 3 1 (rowN n f)])]
set_option maxRecDepth 100000 in
theorem WI (n:Nat) (f:Nat ->Nat) (a b:Nat) (ha:a<n) (hb:b<n) (hn:n≤100000):AM Tryz.prog 67 [.d (AN a),.d (AN b),.ptr 930 0 0] (HJ n f) fun r H'=>r= .tup []∧H'=HJ n (D4 f a b):=by
 refine BB Tryz.func67 Z Z Tryz.ntmps67 Z Z Z fun F hF=>(AC (Ch [[],[],[0,1],[0,1,2],[],[],[4,5],[4,5,6],[0,1,2,3,4,5,6,7],[],[],[9,10],[9,10,11],[],[],[13,14],[13,14,15],[9,10,11,12,13,14,15,16],[0,1,2,3,4,5,6,7,8],[0,1,2,3,4,5,6,7,8,9,10,11,12,13,14,15,16,17,18]] mixed Z (Cq (Av [2] Z Z (fun _=>AG (A9 Z Z Z BH Z)) (AJ [0] [] Z Z (fun _=>AG (Ak Z Z)) (Av [8,9] Z Z (fun _=>AG (Bu (a) Z Z (Z) (ha) Z Tryz.underlying28 BE Z)) (Av [10] Z Z (fun _=>AG (CA Z Z (IA ha) Z Aq Z)) (Av [2] Z Z (fun _=>AG (A9 Z Z Z BH Z)) ?_))))))));refine AJ [1] [] Z Z (fun _=>AG (Ak Z Z)) (Av [12,13] Z Z (fun _=>AG (Bu (b) Z Z (Z) (hb) Z Tryz.underlying28 BE Z)) (Av [14] Z Z (fun _=>AG (CA Z Z (IA hb) Z Aq Z)) (AJ [11,15] [] Z Z (fun _=>AG (Pi Z Z (maxNN _ _) Z)) (Av [2] Z Z (fun _=>AG (A9 Z Z Z BH Z)) (AJ [0] [] Z Z (fun _=>AG (Ak Z Z)) (Av [17,18] Z Z (fun _=>AG (Bu (a) Z Z (Z) (ha) Z Tryz.underlying28 BE Z)) (Av [19] Z Z (fun _=>AG (CA Z Z (IA ha) Z Aq Z)) (Av [2] Z Z (fun _=>AG (A9 Z Z Z BH Z)) ?_))))))));refine AJ [1] [] Z Z (fun _=>AG (Ak Z Z)) (Av [21,22] Z Z (fun _=>AG (Bu (b) Z Z (Z) (hb) Z Tryz.underlying28 BE Z)) (Av [23] Z Z (fun _=>AG (CA Z Z (IA hb) Z Aq Z)) (AJ [20,24] [] Z Z (fun _=>AG (KX Z Z (aa _ _) Z)) (AJ [16] [] Z Z (fun _=>AG (IJ Z Z)) (C5 19 Z Z Z (Af 20 Z Z (AB Z Z (AD ⟨Z,?_⟩))))))));refine C9 (AC (AE (J (A9 Z Z Z BH Z) (J (KO Z Tryz.underlying28 Z) (goMv Z Z (AD (A5 ?_)))))));have e0:rowN n f=rowN n (U1 f a b 0):=(by rw [az]);unfold HJ;rw [e0];refine B7 (α:=Nat) (fun k=>⟨42,[(2,(.ptr 930 0 0)),(5,(.d (AN (max (f a) (f b))))),(6,(.d (AN (min (f a) (f b))))),(27,(.d (AN n))),(28,(.d (AN k)))],[(930,[.blk 28 [.own 931 0 n]]),(931,[.rowD 3 1 (rowN n (U1 f a b k))])]⟩) (fun k=>k≤n) (fun k=>n - k) (0) (ς _) (A1 hF [930,931] Z Z ⟨Z,Z,Z,Z,Z,trivial⟩) ?_;rintro k hk;refine AC (AE (J (BR Z Z Z) (AD (AC (Ae Z (fun h29=>?_) (fun h29=>?_))))))
 ·refine A3 (AC (A5 (AC ?_)));have hkl:k<n:=Bf h29;refine AE ?_;refine goMv Z Z (AB Z Z (AD (AC (AE (J (A9 Z Z Z BH Z) (goMv Z Z (J (Bu (k) Z Z (Z) (hkl) Z Tryz.underlying28 BE Z) (J (CA Z Z (IA hkl) Z Aq Z) ?_))))))));rw [joK_at];refine goMv Z Z (J (JL Z Z Z) (AD (Ae Z (fun h36=>?_) (fun h36=>?_))))
  ·have h36n:f k=max (f a) (f b):=Int.ofNat.inj h36;refine AE (J (A9 Z Z Z BH Z) (goMv Z Z (goMv Z Z (J (Bu (k) Z Z (Z) (hkl) Z Tryz.underlying28 BE Z) (V (Qb Z Z Z Z Z (by rw [cc];exact hkl) cd Z BE) ?_)))));rw [joK_hit h36n];refine AD (AE (J (BA Z Z (AT (k+1) (by omega)) Z) (goMv Z Z (AD ?_))));exact ⟨k+1,hkl,by omega,A1 hF [930,931] Z (Z) ⟨Z,Z,Z,Z,Z,trivial⟩⟩
  ·have h36n:¬f k=max (f a) (f b):=fun e=>h36 (by rw [e]);refine A3 (AE (J (BA Z Z (AT (k+1) (by omega)) Z) (goMv Z Z (AD ?_))));exact ⟨k+1,hkl,by omega,A1 hF [930,931] Z (by simp only [bA h36n];rfl) ⟨Z,Z,Z,Z,Z,trivial⟩⟩
 ·refine BF ?_;exact ⟨_,[930,931],_,A6 Z,Z,Z,Z,by rw [Oi (f:=D4 f a b) (h:=U1 f a b k) fun j hj=>by unfold U1;rw [θ (by have:=h29;omega)]]⟩
end Go.Proofs.YteifpcnphnhaoaaGreat
