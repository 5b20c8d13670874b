/- Layer 30: the items that settle one by one. -/
import Derived.Test.YtnkkaeblokdifaaGreatMg24
namespace Go.Proofs.YtnkkaeblokdifaaGreat
open Go.RowKit
def OM (po:List Po) (b:Int):Prop:=∀y∈po,-b≤y.room∧y.room≤b
theorem VL {po:List Po} {b c:Int} (h:OM po b) (hbc:b≤c) {j:Nat} {y:Po} (hy: -c≤y.room∧y.room≤c):OM (po.set j y) c:=fun z hz=>by
 rcases List.mem_or_eq_of_mem_set hz with hz | rfl
 ·have:=h z hz;omega
 ·exact hy
set_option maxRecDepth 100000 in
set_option maxHeartbeats 2000000 in
theorem YO (p:Prb) (hf:Gr p) (hE:Ao p=0):AU Tryz.prog 14 [.d (Cc p)] (.tup [.sl none ((grossS p).map AH),AH 0]):=by
 have hbu:=Rn p hf hE;have hsm:=Wi hf hE;unfold grossS;rw [Xg,←Xi] at hbu
 obtain ⟨its,hits⟩:∃its,ordP p=its:=⟨_,rfl⟩
 obtain ⟨ros,hros⟩:∃ros,CX p=ros:=⟨_,rfl⟩
 rw [hits,hros] at hbu hsm⊢;have hl:=hsm.l;refine B2 Tryz.func14 Z Z Tryz.ntmps14 Z Z Z fun F hF=>(AF (AJ (U (C5 1 Z Z Z Z Z Z Z) (AD Z Z (AD Z Z (AG (AF (AJ ?_))))))))
 first | refine J (Av Z Z A4 rfl) ?_ | refine J (Aw Z Z A4 Z Z Z) ?_ | refine J (Ax Z Z (rfl) rfl A4 rfl) ?_
 refine Mh (Jd hbu rfl [40,50,51] ⟨rfl,rfl,rfl,trivial⟩ Z Z Z Z (fun r H' ⟨_,_,_,_,_,_,_,e1,e2,_⟩=>by subst e1 e2;exact ⟨rfl,rfl,rfl⟩) rfl) rfl ?_;rintro _ ⟨r,H',⟨wb,mv,nb,pb,N,M,bs,rfl,rfl,hR,hN⟩,rfl⟩;refine AC Z Z ?_
 first | refine J (B6 Z Z Z) ?_ | refine J (B7 Z Z Z) ?_
 first | refine J (B6 Z Z Z) ?_ | refine J (B7 Z Z Z) ?_
 refine U (DO 920 zl94 Z Z Z Z) (U (CF Z Z Z Z Z Z Z sz94) (AD Z Z (AG (AF (AF (AJ (AC Z Z ?_)))))))
 first | refine J (Fa Z Z Z) ?_ | refine J (F9 Z Z Z) ?_ | refine J (FM Z Z Z) ?_ | refine J (Fb Tryz.underlying34 Z Z Z) ?_ | refine J (Fd Tryz.underlying34 Z Z Z) ?_ | refine J (st_neqN Tryz.underlying34 Z Z) ?_ | refine J (Fc Tryz.underlying34 Z Z Z) ?_ | refine J (st_neqFN Tryz.underlying34 Z Z) ?_
 refine AG (Fs rfl (rfl) (Ak (AF ?_)));rw [G_ids hN];refine AJ (AD Z Z (AG (Al (EA 6 900 C7 Z Z Z Z (DG (α:=(Nat ->Bool)×Net×MF×List Int×Nat) (fun q=>⟨66,[(4,(.ptr 920 0 0)),(6,(.own 900 0 q.2.2.2.1.length))],(900,[.rowD 3 1 (q.2.2.2.1.map AH)])::HG wb mv bs (F8 nb (its.map AT.id)) q.2.2.1⟩) (fun q=>CK wb mv nb pb q.2.1 q.2.2.1∧Ap q.2.1=netG ros its q.1∧GN its.length q.1≤q.2.2.2.2∧q.2.2.2.1.length+q.2.2.2.2≤its.length∧q.2.2.2.1++MR ros its q.2.2.2.2 q.1=MR ros its its.length fun _=>true) (fun q=>q.2.2.2.2) ((fun _=>true,N,M,[],its.length)) (⟨hR,hN,Y6 _ _,by simp,rfl⟩) (BA hF [900,920,40,50,51] Z Z ⟨rfl,rfl,trivial⟩) ?_)))));rintro ⟨on,N,M,acc,f⟩ ⟨hR,hN,hc,hal,hr1⟩;dsimp only at hR hN hc hal hr1⊢;refine Al (AF ?_);have hw:=W_ers (N:=N) (by rw [hN];exact G_w hsm on);have hwb:=hR.w;have hnr:BX M N.nh XN 1 ((List.range N.nd.length).map fun i=>BK (nb i)):=hR.rs.1 .n;have hix:=idxG_c bs hR hw;have hNl:=G_len hN;have hixv:TF (I3 N) (List.range N.nd.length)=match FY ros its on with | some k=>(k:Int) | none=> -1:=by rw [←YQ,hN,G_len hN];rfl
 rw [G_ids hN,hixv] at hix;refine AJ ?_
 first | refine J (AY Z Z Li rfl) ?_ | refine J (AW Z Z Z Li rfl) ?_ | refine J (AX Z Z (rfl) rfl Li rfl) ?_
 first | refine J (BS Z Z) ?_ | refine J (BQ Z Z) ?_ | refine J (BT Z Z) ?_ | refine J (BR Z Z) ?_
 first | refine J (AM rfl GT Z Z Z) ?_ | refine J (AO rfl GT Z Z Z) ?_ | refine J (AP rfl GT Z Z Z) ?_ | refine J (AN rfl GT Z Z Z) ?_ | refine J (AL rfl GT Z Z Z) ?_
 refine J (Ej (f:=40) Z Z (hwb) rfl Gb rfl) (J (Zdb Z Z) ?_)
 cases hne:FY ros its on<;>rw [hne] at hix
 ·refine U (Fp hix rfl [920,40,50,51] ⟨rfl,rfl,rfl,rfl,trivial⟩ Z Z Z Z Z Z Z Z Z) (AD Z Z (AG (AF (AF (AJ (AC Z Z ?_))))))
  first | refine J (CD Z Z Z) ?_ | refine J (CE Z Z Z) ?_
  refine AG (EB rfl (rfl) (AF ?_));rw [IB hne,List.append_nil] at hr1;refine WK (emb:=AH) 6 900 acc Z Z Z Z Z Z Z (AJ (AC Z Z (AD Z Z (AD Z Z (AG (Ae ?_))))));exact ⟨_,[],[],Aa rfl,rfl,rfl,by rw [hr1],rfl⟩
 ·refine U (Fp hix rfl [920,40,50,51] ⟨rfl,rfl,rfl,rfl,trivial⟩ Z Z Z Z Z Z Z Z Z) (AD Z Z (AG (AF (AF (AJ (AC Z Z ?_))))))
  first | refine J (CD Z Z Z) ?_ | refine J (CE Z Z Z) ?_
  refine AG (Fs rfl ((decide_eq_false (by show ¬((_:Nat):Int)<0;omega))) (Ak (AF ?_)))
  rename_i i
  obtain ⟨hiN,hoi,hgr⟩:=Mi hne;have hil2:i<N.nd.length:=by rw [hNl];exact hiN
  obtain ⟨x,hx⟩:∃x,N.nd[i]?=some x:=⟨_,List.getElem?_eq_getElem hil2⟩
  obtain ⟨_,hon,hit⟩:=G_nd_at hN hx;obtain ⟨rb,rc,hre⟩:=SJ hnr (j:=i) (by rw [List.length_range];exact hil2);have hrow:=QK hnr hre;have hcn:=IS hiN hoi
  obtain ⟨f2,rfl⟩:∃f2,f=f2+1:=⟨f - 1,by omega⟩
  have hrs:=K7 (f:=f2) hne;have hxm:=List.mem_of_getElem? hx;have hxb:=(hR.nn i x hx).1;have hez:=SA (hR.nn i x hx).2.1;have hrx:=(hR.nn i x hx).2.1;have hxe:=hR.e x hxm;have h1:=hR.setNd (x':=EL x) hx Z Z Z Z;have hx1:(N.nd.set i (EL x))[i]?=some (EL x):=by rw [List.getElem?_set_self hil2]
  have he:=hw.e x hxm;have hel:=(hw.l x hxm).1;have hrB:OM N.po 1000000000000000000:=hw.rm;refine AJ ?_
  first | refine J (AY Z Z Li rfl) ?_ | refine J (AW Z Z Z Li rfl) ?_ | refine J (AX Z Z (rfl) rfl Li rfl) ?_
  first | refine J (BS Z Z) ?_ | refine J (BQ Z Z) ?_ | refine J (BT Z Z) ?_ | refine J (BR Z Z) ?_
  first | refine J (AM rfl GT Z Z Z) ?_ | refine J (AO rfl GT Z Z Z) ?_ | refine J (AP rfl GT Z Z Z) ?_ | refine J (AN rfl GT Z Z Z) ?_ | refine J (AL rfl GT Z Z Z) ?_
  refine J (Ej (f:=40) Z Z (hwb) rfl Gb rfl) (AC Z Z (J (SL hre (i) Z Z Z hil2 Tryz.underlying98 PM rfl) (J (Zdk (f:=40) (e:=i) (off:=0) rfl (by omega) rfl (hrow) ((by rw [List.getElem?_map,List.getElem?_range hil2];rfl)) rfl St rfl) ?_)));refine AD Z Z (AG (AF (AJ (AC Z Z ?_))))
  first | refine J (BS Z Z) ?_ | refine J (BQ Z Z) ?_ | refine J (BT Z Z) ?_ | refine J (BR Z Z) ?_
  first | refine J (AM rfl FJ Z Z Z) ?_ | refine J (AO rfl FJ Z Z Z) ?_ | refine J (AP rfl FJ Z Z Z) ?_ | refine J (AN rfl FJ Z Z Z) ?_ | refine J (AL rfl FJ Z Z Z) ?_
  refine U (Yv (f:=40) Z Z Z Z (hxb) ((by show _<9;omega)) rfl sz4) (AG (AF (AF (AJ (AC Z Z ?_)))))
  first | refine J (BS Z Z) ?_ | refine J (BQ Z Z) ?_ | refine J (BT Z Z) ?_ | refine J (BR Z Z) ?_
  first | refine J (AM rfl Ln Z Z Z) ?_ | refine J (AO rfl Ln Z Z Z) ?_ | refine J (AP rfl Ln Z Z Z) ?_ | refine J (AN rfl Ln Z Z Z) ?_ | refine J (AL rfl Ln Z Z Z) ?_
  refine J (Ej (f:=40) Z Z ((QC _ _ _)) rfl UK rfl) (J (SK hez rfl Tryz.underlying104 rfl) (AC Z Z (AG (Al (DG (α:=Nat×List Po×MF) (fun q=>⟨66,[(4,(.ptr 920 0 0)),(6,(.own 900 0 acc.length)),(8,(.d (pD (nb i) 0))),(41,(.d (hdr x.eh x.ef.length))),(42,(.d (AH (x.ef.length:Int)))),(43,(.d (AH (q.1:Int))))],(900,[.rowD 3 1 (acc.map AH)])::HG wb mv bs (F8 nb (its.map AT.id)) q.2.2⟩) (fun q=>q.1≤x.ef.length∧q.2.1=(x.ef.take q.1).foldl Nu N.po∧CK wb mv nb pb {N with nd:=N.nd.set i (EL x),po:=q.2.1} q.2.2∧OM q.2.1 (1000000000000000000+100000000000000000*(q.1:Int))∧q.2.1.length=N.po.length) (fun q=>x.ef.length - q.1) ((0,N.po,Cj M (nb i) (SH (EL x)))) (⟨Nat.zero_le _,rfl,h1,by show OM N.po (1000000000000000000+100000000000000000*((0:Nat):Int));simpa using hrB,rfl⟩) (BA hF [900,920,40,50,51] Z Z ⟨rfl,rfl,rfl,rfl,rfl,rfl,trivial⟩) ?_)))));rintro ⟨k,po,M2⟩ ⟨hk0,hpo,hR2',hS,hpol⟩;dsimp only at hk0 hpo hR2' hS hpol⊢;refine AF (AJ ?_)
  first | refine J (CD Z Z Z) ?_ | refine J (CE Z Z Z) ?_
  refine AG (AF ?_)
  first | refine Ay rfl (fun h44=>?_) (fun h44=>?_) | refine At rfl (fun h44=>?_) (fun h44=>?_)
  ·have hk1:k<x.ef.length:=DA h44;refine Ak (AF (Al (AF ?_)));obtain ⟨eb,ec,hee⟩:=SJ hrx hk1;have hrow2:=QK (hR2'.nn i (EL x) hx1).2.1 hee;have hjl:x.ef[k].1<po.length:=by rw [hpol];exact hxe.1 _ (List.getElem_mem hk1)
   obtain ⟨y,hy⟩:∃y,po[x.ef[k].1]?=some y:=⟨_,List.getElem?_eq_getElem hjl⟩
   have hyb:=hR2'.p _ y hy;have hys:=hS y (List.mem_of_getElem? hy);have heb:=he _ (List.getElem_mem hk1);refine AJ (J (SL hee (k) Z Z Z hk1 Tryz.underlying104 QW rfl) (J (D5 (f:=40) (e:=k) rfl (rfl) rfl (hrow2) (A0 hk1) rfl Ws rfl) (U (DO 2 WU Z Z Z Z) (U (CF Z Z Z Z Z Z Z QW) (AG (Gp [[],[0],[0,1],[0,1,2],[0,1,2,3],[],[5],[0,1,2,3,4,5,6],[0,1,2,3,4,5,6,7],[0,1,2,3,4,5,6,7,8],[0,1,2,3,4,5,6,7,8,9]] BF rfl (Hh ?_)))))))
   first | refine AE [10] [] Z Z (fun _=>AB (AM rfl Lo Z Z Z)) ?_ | refine AI [10] Z Z (fun _=>AB (AM rfl Lo Z Z Z)) ?_ | refine AE [10] [] Z Z (fun _=>AB (AO rfl Lo Z Z Z)) ?_ | refine AI [10] Z Z (fun _=>AB (AO rfl Lo Z Z Z)) ?_ | refine AE [10] [] Z Z (fun _=>AB (AP rfl Lo Z Z Z)) ?_ | refine AI [10] Z Z (fun _=>AB (AP rfl Lo Z Z Z)) ?_ | refine AE [10] [] Z Z (fun _=>AB (AN rfl Lo Z Z Z)) ?_ | refine AI [10] Z Z (fun _=>AB (AN rfl Lo Z Z Z)) ?_ | refine AE [10] [] Z Z (fun _=>AB (AL rfl Lo Z Z Z)) ?_ | refine AI [10] Z Z (fun _=>AB (AL rfl Lo Z Z Z)) ?_
   first | refine AE [47] [2] Z Z (fun _=>AB (AY Z Z BE rfl)) ?_ | refine AE [47] [2] Z Z (fun _=>AB (AW Z Z Z BE rfl)) ?_ | refine AE [47] [2] Z Z (fun _=>AB (AX Z Z (rfl) rfl BE rfl)) ?_
   first | refine AE [48] [] Z Z (fun _=>AB (BS Z Z)) ?_ | refine AI [48] Z Z (fun _=>AB (BS Z Z)) ?_ | refine AE [48] [] Z Z (fun _=>AB (BQ Z Z)) ?_ | refine AI [48] Z Z (fun _=>AB (BQ Z Z)) ?_ | refine AE [48] [] Z Z (fun _=>AB (BT Z Z)) ?_ | refine AI [48] Z Z (fun _=>AB (BT Z Z)) ?_ | refine AE [48] [] Z Z (fun _=>AB (BR Z Z)) ?_ | refine AI [48] Z Z (fun _=>AB (BR Z Z)) ?_
   first | refine AE [49] [] Z Z (fun _=>AB (AM rfl PB Z Z Z)) ?_ | refine AI [49] Z Z (fun _=>AB (AM rfl PB Z Z Z)) ?_ | refine AE [49] [] Z Z (fun _=>AB (AO rfl PB Z Z Z)) ?_ | refine AI [49] Z Z (fun _=>AB (AO rfl PB Z Z Z)) ?_ | refine AE [49] [] Z Z (fun _=>AB (AP rfl PB Z Z Z)) ?_ | refine AI [49] Z Z (fun _=>AB (AP rfl PB Z Z Z)) ?_ | refine AE [49] [] Z Z (fun _=>AB (AN rfl PB Z Z Z)) ?_ | refine AI [49] Z Z (fun _=>AB (AN rfl PB Z Z Z)) ?_ | refine AE [49] [] Z Z (fun _=>AB (AL rfl PB Z Z Z)) ?_ | refine AI [49] Z Z (fun _=>AB (AL rfl PB Z Z Z)) ?_
   refine AE [50] [40] Z Z (fun _=>AB (Ej (f:=40) Z Z (hyb) rfl BI rfl)) ?_
   first | refine AE [10] [] Z Z (fun _=>AB (AM rfl Lp Z Z Z)) ?_ | refine AI [10] Z Z (fun _=>AB (AM rfl Lp Z Z Z)) ?_ | refine AE [10] [] Z Z (fun _=>AB (AO rfl Lp Z Z Z)) ?_ | refine AI [10] Z Z (fun _=>AB (AO rfl Lp Z Z Z)) ?_ | refine AE [10] [] Z Z (fun _=>AB (AP rfl Lp Z Z Z)) ?_ | refine AI [10] Z Z (fun _=>AB (AP rfl Lp Z Z Z)) ?_ | refine AE [10] [] Z Z (fun _=>AB (AN rfl Lp Z Z Z)) ?_ | refine AI [10] Z Z (fun _=>AB (AN rfl Lp Z Z Z)) ?_ | refine AE [10] [] Z Z (fun _=>AB (AL rfl Lp Z Z Z)) ?_ | refine AI [10] Z Z (fun _=>AB (AL rfl Lp Z Z Z)) ?_
   first | refine AE [52] [2] Z Z (fun _=>AB (AY Z Z BI rfl)) ?_ | refine AE [52] [2] Z Z (fun _=>AB (AW Z Z Z BI rfl)) ?_ | refine AE [52] [2] Z Z (fun _=>AB (AX Z Z (rfl) rfl BI rfl)) ?_
   refine GR 7 Z Z Z (BC 8 Z Z (J (Bi Z Z (IntWalk.i64_in _ (by omega)) rfl) (AG ⟨rfl,?_⟩)));refine BC 9 Z Z ?_
   first | refine J (BS Z Z) ?_ | refine J (BQ Z Z) ?_ | refine J (BT Z Z) ?_ | refine J (BR Z Z) ?_
   refine AG ⟨rfl,?_⟩;refine BC 10 Z Z ?_
   first | refine J (AM rfl PB Z Z Z) ?_ | refine J (AO rfl PB Z Z Z) ?_ | refine J (AP rfl PB Z Z Z) ?_ | refine J (AN rfl PB Z Z Z) ?_ | refine J (AL rfl PB Z Z Z) ?_
   refine AG ⟨rfl,?_⟩;refine BC 11 Z Z (U (Yv (f:=40) Z Z Z Z (hyb) ((by show _<10;omega)) rfl sz2) (AG ⟨rfl,?_⟩));refine GQ (AJ (J (Bi Z Z (Ac (k+1) (by omega)) rfl) (AC Z Z (AG ?_))));exact ⟨(k+1,po.set x.ef[k].1 {y with room:=y.room+x.ef[k].2},Cj M2 (pb x.ef[k].1) (SG {y with room:=y.room+x.ef[k].2})),⟨by show k+1≤_;omega,by show po.set _ _=_;rw [Ks hk1,←hpo,Ud hy],hR2'.setPo hy Z Z,by show OM _ (1000000000000000000+100000000000000000*((k+1:Nat):Int));exact VL hS (by omega) (by show _≤y.room+x.ef[k].2∧y.room+x.ef[k].2≤_;omega),by show (po.set _ _).length=_;rw [List.length_set];exact hpol⟩,by show x.ef.length - (k+1)<x.ef.length - k;omega,BA hF [900,920,40,50,51] rfl (rfl) ⟨rfl,rfl,rfl,rfl,rfl,rfl,trivial⟩⟩
  ·refine CW ?_;have hpo1:po=x.ef.foldl Nu N.po:=by rw [hpo,List.take_of_length_le (by have h:=h44;omega)]
   have hR2:CK wb mv nb pb (grN N i x) M2:=by unfold grN;rw [←hpo1];exact hR2'
   have hxb1:=(hR2'.nn i (EL x) hx1).1;refine AJ (AC Z Z (AC Z Z ?_))
   first | refine J (BS Z Z) ?_ | refine J (BQ Z Z) ?_ | refine J (BT Z Z) ?_ | refine J (BR Z Z) ?_
   first | refine J (AM rfl Dn Z Z Z) ?_ | refine J (AO rfl Dn Z Z Z) ?_ | refine J (AP rfl Dn Z Z Z) ?_ | refine J (AN rfl Dn Z Z Z) ?_ | refine J (AL rfl Dn Z Z Z) ?_
   first | refine J (AM rfl Bm Z Z Z) ?_ | refine J (AO rfl Bm Z Z Z) ?_ | refine J (AP rfl Bm Z Z Z) ?_ | refine J (AN rfl Bm Z Z Z) ?_ | refine J (AL rfl Bm Z Z Z) ?_
   refine J (Ej (f:=40) Z Z (hxb1) rfl Ab rfl) (U (Fq 3 C7 Z Z Z Z Z Z Z Z) ?_)
   first | refine U (If (acc) ([x.it.id]) Z Z Z Z Z Z Z Z C7 (by simp only [List.length_singleton];omega) Z Z Z Z) ?_ | refine U (LD (acc) ([x.it.id]) Z Z Z Z Z Z (fun _=>rfl) C7 (by simp only [List.length_singleton];omega) Z Z Z Z) ?_
   refine AD Z Z (AG ?_);exact ⟨(Ag on i,grN N i x,M2,acc++ [x.it.id],f2),⟨hR2,gr_S hsm.r hN hiN hoi hx,by show GN its.length (Ag on i)≤f2;omega,by show (acc++ [x.it.id]).length+f2≤_;rw [List.length_append];simp;omega,by show (acc++ [x.it.id])++MR ros its f2 (Ag on i)=_;rw [List.append_assoc,←hr1,hrs,hit];rfl⟩,by show f2<f2+1;omega,BA hF [900,920,40,50,51] rfl (rfl) ⟨rfl,rfl,trivial⟩⟩
deriving instance DecidableEq for J0
theorem J0.eq_iff {x y:J0}:x=y↔x.id=y.id∧x.re=y.re∧x.r=y.r∧x.by_=y.by_:=by cases x;cases y;simp
theorem Vw (n:Nat):GN n (fun _=>true)=n:=by
 unfold GN;rw [List.filter_eq_self.2 fun _ _=>rfl,List.length_range]
theorem Zdh {α β:Type} (f:α ->β) (q:β ->Bool):∀l:List α,(l.map f).filter q=(l.filter fun a=>q (f a)).map f
 | []=>rfl
 | a::l=>by
  rw [List.map_cons,List.filter_cons,List.filter_cons,Zdh f q l]
  split<;>rfl
theorem DT {α:Type} {f g:α ->Int}:∀{l:List α},(∀x∈l,f x=g x) ->(l.map f).sum=(l.map g).sum
 | [],_=>rfl
 | a::l,h=>by
  rw [List.map_cons,List.map_cons,List.sum_cons,List.sum_cons,h a List.mem_cons_self,DT fun x hx=>h x (List.mem_cons_of_mem _ hx)]
structure QH (R:Int ->Int ->Prop) (l Y:List Roo):Prop where
 len:Y.length=l.length
 at_:∀(j:Nat) x y,l[j]?=some x ->Y[j]?=some y ->y.r=x.r∧ -4*Mx≤y.n∧y.n≤4*Mx∧R x.n y.n
theorem QH.set {R:Int ->Int ->Prop} {l Y:List Roo} (h:QH R l Y) {k:Nat} (hk:k<Y.length) {n:Int} (h1: -4*Mx≤n∧n≤4*Mx) (h2:∀x,R x Y[k].n ->R x n):QH R l (Y.set k ⟨Y[k].r,n⟩):=
 ⟨by rw [List.length_set];exact h.len,fun j x y hx hy=>by
  rw [List.getElem?_set] at hy
  split at hy
  ·rename_i e;subst e
   first | (rw [if_pos hk] at hy;injection hy with hy;subst hy) | (injection hy with hy;subst hy)
   have:=h.at_ k x _ hx (List.getElem?_eq_getElem hk);exact ⟨this.1,h1.1,h1.2,h2 _ this.2.2.2⟩
  ·exact h.at_ j x y hx hy⟩
theorem QH.map {R:Int ->Int ->Prop} {l Y:List Roo} (h:QH R l Y):Y.map Roo.r=l.map Roo.r:=by
 refine List.ext_getElem (by rw [List.length_map,List.length_map,h.len]) fun j h1 h2=>?_;rw [List.length_map] at h1 h2;rw [List.getElem_map,List.getElem_map];exact (h.at_ j _ _ (List.getElem?_eq_getElem h2) (List.getElem?_eq_getElem h1)).1
theorem QH.mem {R:Int ->Int ->Prop} {l Y:List Roo} (h:QH R l Y):∀y∈Y,∃x∈l,y.r=x.r∧ -4*Mx≤y.n∧y.n≤4*Mx∧R x.n y.n:=fun y hy=>by
 obtain ⟨j,hj,rfl⟩:=List.mem_iff_getElem.1 hy;have hj':j<l.length:=by rw [←h.len];exact hj
 exact ⟨l[j],List.getElem_mem hj',h.at_ j _ _ (List.getElem?_eq_getElem hj') (List.getElem?_eq_getElem hj)⟩
theorem mx_v:Mx=1000000000000000:=rfl
theorem QH.b {R:Int ->Int ->Prop} {l Y:List Roo} (h:QH R l Y) {k:Nat} (hk:k<Y.length): -4000000000000000≤Y[k].n∧Y[k].n≤4000000000000000:=by
 obtain ⟨x,_,_,h2,h3,_⟩:=h.mem _ (List.getElem_mem hk);rw [mx_v] at h2 h3;exact ⟨by omega,by omega⟩
theorem RB {l:List Int} (hn:l.Nodup) {j:Nat} (hj:j<l.length):l[j]∉l.take j:=fun h=>by
 obtain ⟨i,hi,e⟩:=List.mem_take_iff_getElem.1 h;rw [List.Nodup,List.pairwise_iff_getElem] at hn;exact hn i j (by omega) hj (by omega) e
theorem NW {i:AT}:Rt i=0↔(∀x∈i.af,(0≤x∧x≤1000000000)∧x≠i.id)∧i.af.Nodup:=by
 unfold Rt;rw [Uh]
 constructor
 ·intro h
  have key:∀k (hk:k<i.af.length),(0≤i.af[k]∧i.af[k]≤1000000000)∧i.af[k]≠i.id∧i.af[k]∉i.af.take k:=fun k hk=>by
   have:=h k (List.mem_range.2 hk);unfold Rz at this;rw [Bd 0 hk] at this
   split at this
   ·cases this
   ·rename_i h1
    split at this
    ·cases this
    ·rename_i h2
     exact ⟨Decidable.not_not.1 h1,fun e=>h2 (.inl e),fun e=>h2 (.inr e)⟩
  refine ⟨fun x hx=>?_,?_⟩
  ·obtain ⟨k,hk,rfl⟩:=List.mem_iff_getElem.1 hx;exact ⟨(key k hk).1,(key k hk).2.1⟩
  ·rw [List.Nodup,List.pairwise_iff_getElem];intro a b ha hb hab e;exact (key b hb).2.2 (List.mem_take_iff_getElem.2 ⟨a,by omega,e⟩)
 ·rintro ⟨h1,h2⟩ k hk;have hk':=List.mem_range.1 hk;have h3:=h1 _ (List.getElem_mem hk');unfold Rz;rw [Bd 0 hk',if_neg (fun h=>h h3.1),if_neg];rintro (h | h)
  ·exact h3.2 h
  ·exact RB h2 hk' h
theorem Pp {i:AT} (l:List Int) (h:BV i=0):BV (FU l i)=0:=by
 obtain ⟨h1,h2,h3,h4,h5,h6,h7,h8,h9⟩:=Hl h
 have ha:Rt (FU l i)=0:=by
  obtain ⟨a1,a2⟩:=NW.1 h7;exact NW.2 ⟨fun x hx=>a1 x (List.mem_filter.1 hx).1,List.Nodup.sublist List.filter_sublist a2⟩
 have hl:(Nk l i.af).length≤i.af.length:=List.length_filter_le _ _;have b1:=h1.po;have b2:=h1.pa;have b3:=h1.af;unfold BV;rw [if_neg (by show ¬(¬(0≤i.id∧i.id≤1000000000)∨¬(0≤i.sq∧i.sq≤1000000000)∨¬(0≤i.pr∧i.pr≤2));omega),if_neg (by show ¬(256<i.po.length∨256<i.pa.length∨256<(Nk l i.af).length);omega)];show Bl [MZ i,Sr i,Rt (FU l i),Rr i,Ps i]=0;rw [h5,h6,ha,h8,h9];rfl
theorem Sy {l:List Int} {its:List AT} {j:AT}:j∈Cs l its↔∃i∈its,i.id∉l∧FU l i=j:=by
 unfold Cs;rw [List.mem_map]
 constructor
 ·rintro ⟨i,hi,e⟩;obtain ⟨h1,h2⟩:=List.mem_filter.1 hi;exact ⟨i,h1,by simpa [KE] using h2,e⟩
 ·rintro ⟨i,h1,h2,e⟩;exact ⟨i,List.mem_filter.2 ⟨h1,by simpa [KE] using h2⟩,e⟩
theorem S6 (l:List Int) (its:List AT):(Cs l its).map AT.id=(its.map AT.id).filter fun x=>!decide (x∈l):=by
 unfold Cs;rw [List.map_map,Zdh];rfl
theorem S5 (l:List Int) (its:List AT):(Cs l its).map AT.sq=(its.filter fun i=>!KE l i).map AT.sq:=by
 unfold Cs;rw [List.map_map];rfl
theorem Zdn {l:List Int} {its:List AT} {x:Int}:x∈(Cs l its).map AT.id↔x∈its.map AT.id∧x∉l:=by
 rw [S6,List.mem_filter];simp
def sP (p:Prb) (l:List Int):Prb:=⟨Na p l,Cs l p.it⟩
theorem Mt {p:Prb} {l:List Int} (hp:Ao p=0) {y:Int} (hy:y∈(sP p l).it.map AT.id):itmOf (sP p l) y=FU l (itmOf p y):=by
 have hnd:=WP (KW hp).2.1;obtain ⟨hk,_,e1,e2⟩:=GD hy
 have hm:itmOf (sP p l) y∈Cs l p.it:=by
  rw [e1];exact List.getElem_mem hk
 obtain ⟨i,hi,_,e3⟩:=Sy.1 hm;have hy2:y∈p.it.map AT.id:=(Zdn.1 hy).1;obtain ⟨hk2,_,e4,e5⟩:=GD hy2;have hid:i.id=y:=by rw [←e2,←e3];rfl
 have:i=itmOf p y:=Pd hnd hi (by rw [e4];exact List.getElem_mem hk2) (by rw [hid,e5]);rw [←e3,this]
theorem Gl {i:AT} (l:List Int) (h:BV i=0) (r:A5):CJ (FU l i) r=CJ i r:=by
 unfold CJ;rw [Pp l h,h];rfl
theorem To {p:Prb} (l:List Int) (hp:Ao p=0):sortO (sP p l).it=((sortO p.it).filter fun i=>!KE l i).map (FU l):=by
 have hi:=(KW hp).2.1;refine (UG ?_ ?_ ?_).symm
 ·show ((Cs l p.it).map AT.sq).Nodup;rw [S5];exact List.Nodup.sublist (List.filter_sublist.map _) (LW hi)
 ·exact ((QD p.it).filter _).map _
 ·rw [List.pairwise_map];exact (List.Pairwise.sublist List.filter_sublist (Jf p.it)).imp fun h=>h
theorem Tz {p:Prb} (l:List Int) (hp:Ao p=0) (r:A5):qIds (sortO (sP p l).it) r=(qIds (sortO p.it) r).filter fun x=>!decide (x∈l):=by
 rw [To l hp];unfold qIds;rw [Zdh,List.map_map,Zdh,List.filter_filter,List.filter_filter];have hid:(AT.id∘FU l)=AT.id:=rfl;rw [hid]
 congr 1
 refine List.filter_congr fun i hi=>?_;have hm:i∈p.it:=(QD p.it).mem_iff.1 hi;rw [Gl l (F4 (KW hp).2.1 i hm)];exact Bool.and_comm _ _
def befQ (i:Int) (q:List Int):List Int:=if i∈q then q.takeWhile fun a=>decide (a≠i) else []
theorem Ot {its:List AT} {l:List Int} {id:Int} {x:Roo}:KU its l id x=none↔∀a∈befQ id (qIds its x.r),a∈l:=by
 unfold KU befQ
 split
 ·rw [Option.map_eq_none_iff,List.find?_eq_none];exact ⟨fun h a ha=>by have:=h a ha;simpa using this,fun h a ha=>by have:=h a ha;simpa using this⟩
 ·simp
theorem U8 {p:Prb} {l:List Int} {id:Int}:DW p l id=none↔(∀x∈p.ro,∀a∈befQ id (qIds (sortO p.it) x.r),a∈l)∧∀a∈(itmOf p id).af,a∈l:=by
 have h1:(CX p).findSome? (KU (sortO p.it) l id)=none↔∀x∈p.ro,∀a∈befQ id (qIds (sortO p.it) x.r),a∈l:=by
  rw [List.findSome?_eq_none_iff];exact ⟨fun h x hx=>Ot.1 (h x ((Fy p).mem_iff.2 hx)),fun h x hx=>Ot.2 (h x ((Fy p).mem_iff.1 hx))⟩
 have h2:((itmOf p id).af.find? fun a=>decide (a∉l))=none↔∀a∈(itmOf p id).af,a∈l:=by
  rw [List.find?_eq_none];exact ⟨fun h a ha=>by have:=h a ha;simpa using this,fun h a ha=>by have:=h a ha;simpa using this⟩
 unfold DW
 cases h3:(CX p).findSome? (KU (sortO p.it) l id) with
 | some e=>
  constructor
  ·intro h;cases h
  ·intro h;have:=h1.2 h.1;rw [h3] at this;cases this
 | none=> 
  show (Option.map _ _)=none↔_;rw [Option.map_eq_none_iff,h2];exact ⟨fun h=>⟨h1.1 h3,h⟩,fun h=>h.2⟩
theorem He {p:Prb} {l:List Int}:Cu p l↔(∀id∈l,(∀x∈p.ro,∀a∈befQ id (qIds (sortO p.it) x.r),a∈l)∧∀a∈(itmOf p id).af,a∈l)∧∀x∈p.ro,0≤FX p.it x l:=by
 unfold Cu;exact ⟨fun h=>⟨fun id hid=>U8.1 (h.1 id hid),fun x hx=>by have:=h.2 x hx;omega⟩,fun h=>⟨fun id hid=>U8.2 (h.1 id hid),fun x hx=>by have:=h.2 x hx;omega⟩⟩
theorem bef_in {i m:Int} {q:List Int}:m∈befQ i q ->i∈q:=fun h=>by
 unfold befQ at h
 split at h
 ·assumption
 ·cases h
theorem TW {i m:Int} {q:List Int} {f:Int ->Bool} (h:m∈befQ i q) (hi:f i=true) (hm:f m=true):m∈befQ i (q.filter f):=by
 have hq:=bef_in h;unfold befQ at h⊢;rw [if_pos hq] at h;rw [if_pos (List.mem_filter.2 ⟨hq,hi⟩)]
 clear hq
 induction q with
 | nil=>cases h
 | cons a q ih=>
  rw [List.takeWhile_cons] at h
  split at h
  ·rename_i ha
   rw [List.filter_cons]
   by_cases hfa:f a=true
   ·rw [if_pos hfa,List.takeWhile_cons,if_pos ha];rcases List.mem_cons.1 h with e | h
    ·rw [e];exact List.mem_cons_self
    ·exact List.mem_cons_of_mem _ (ih h)
   ·rw [if_neg hfa];rcases List.mem_cons.1 h with e | h
    ·exact absurd (e▸hm) hfa
    ·exact ih h
  ·cases h
theorem ML (u S:List Int) (hd:∀x∈S,x∉u) (f:AT ->Int):∀its:List AT,((its.filter fun i=>decide (i.id∈u++S)).map f).sum=((its.filter fun i=>decide (i.id∈u)).map f).sum+((its.filter fun i=>!decide (i.id∈u) && decide (i.id∈S)).map f).sum
 | []=>rfl
 | a::l=>by
  have ih:=ML u S hd f l;rw [List.filter_cons,List.filter_cons,List.filter_cons]
  by_cases h1:a.id∈u
  ·rw [decide_eq_true (show a.id∈u++S from List.mem_append.2 (.inl h1)),decide_eq_true h1];simp only [if_true,Bool.not_true,Bool.false_and,Bool.false_eq_true,if_false,List.map_cons,List.sum_cons];omega
  ·by_cases h2:a.id∈S
   ·rw [decide_eq_true (show a.id∈u++S from List.mem_append.2 (.inr h2)),decide_eq_false h1,decide_eq_true h2];simp only [if_true,Bool.not_false,Bool.true_and,Bool.false_eq_true,if_false,List.map_cons,List.sum_cons];omega
   ·rw [decide_eq_false (show ¬a.id∈u++S from fun h=>(List.mem_append.1 h).elim h1 h2),decide_eq_false h1,decide_eq_false h2];simp only [Bool.not_false,Bool.and_false,Bool.false_eq_true,if_false];exact ih
theorem NL {p:Prb} (hp:Ao p=0) {i:AT} (hi:i∈p.it) {r:A5} (hr:B4 r=0):CJ i r=BZ (ctr i) r:=by
 unfold CJ;rw [if_pos ⟨F4 (KW hp).2.1 i hi,hr⟩]
theorem Vr {p:Prb} {u S:List Int} (hp:Ao p=0) (hu:Cu p u) (hS:∀x∈S,x∈(sP p u).it.map AT.id) (h:Cu (sP p u) S):Cu p (u++S):=by
 have hS2:∀x∈S,x∈p.it.map AT.id∧x∉u:=fun x hx=>Zdn.1 (hS x hx);have hro:(sP p u).ro=Na p u:=rfl;have hit:(sP p u).it=Cs u p.it:=rfl;obtain ⟨u1,u2⟩:=He.1 hu;obtain ⟨s1,s2⟩:=He.1 h;refine He.2 ⟨fun id hid=>?_,fun x hx=>?_⟩
 ·rcases List.mem_append.1 hid with hid | hid
  ·exact ⟨fun x hx a ha=>List.mem_append.2 (.inl ((u1 id hid).1 x hx a ha)),fun a ha=>List.mem_append.2 (.inl ((u1 id hid).2 a ha))⟩
  ·refine ⟨fun x hx a ha=>?_,fun a ha=>?_⟩
   ·by_cases hau:a∈u
    ·exact List.mem_append.2 (.inl hau)
    ·refine List.mem_append.2 (.inr ((s1 id hid).1 ⟨x.r,x.n+Ij (p.it.filter (KE u)) x.r⟩ (by rw [hro];exact List.mem_map.2 ⟨x,hx,rfl⟩) a ?_));rw [Tz u hp];exact TW ha (by simpa using (hS2 id hid).2) (by simpa using hau)
   ·by_cases hau:a∈u
    ·exact List.mem_append.2 (.inl hau)
    ·refine List.mem_append.2 (.inr ((s1 id hid).2 a ?_));rw [Mt hp (hS id hid)];exact List.mem_filter.2 ⟨ha,by simpa [inS] using hau⟩
 ·have hv:=LN (KW hp).1 x hx;have k0:=u2 x hx;have k1:=s2 ⟨x.r,x.n+Ij (p.it.filter (KE u)) x.r⟩ (by rw [hro];exact List.mem_map.2 ⟨x,hx,rfl⟩)
  have e1:Ij (p.it.filter (KE u)) x.r=((p.it.filter fun i=>decide (i.id∈u)).map fun i=>CJ i x.r).sum:=by
   unfold Ij;refine DT fun i hi=>?_;exact (NL hp (List.mem_filter.1 hi).1 hv).symm
  have e2:(((sP p u).it.filter fun i=>decide (i.id∈S)).map fun i=>CJ i x.r).sum=((p.it.filter fun i=>!decide (i.id∈u) && decide (i.id∈S)).map fun i=>CJ i x.r).sum:=by
   rw [hit];unfold Cs;rw [Zdh,List.filter_filter,List.map_map];have e3:p.it.filter (fun a=>decide ((FU u a).id∈S) && !KE u a)=p.it.filter fun i=>!decide (i.id∈u) && decide (i.id∈S):=List.filter_congr fun i _=>Bool.and_comm _ _;rw [e3];refine DT fun i hi=>?_;exact Gl u (F4 (KW hp).2.1 i (List.mem_filter.1 hi).1) _
  unfold FX at k0 k1⊢;rw [ML u S fun y hy=>(hS2 y hy).2];dsimp only at k1;rw [e1,e2] at k1;omega
section
variable {P:Program} {F:Fr} {s:AS} {d:Nat} {ty:TypeId} {pos:String} {aft:Array Edge} {g:Option (Nat×Bool)} {at_:Array TypeId}
end
def Px (p:Prb):List Int:=(sortO p.it).map AT.id
def wthI (id:Int) (y:AT):AT:=⟨y.id,y.pr,y.sq,y.po,y.pa,G4 y.af id⟩
def LL (id:Int) (its:List AT):List AT:=(its.filter fun y=>decide (y.id≠id)).map (wthI id)
def set1 (p:Prb) (id:Int):Prb:=⟨p.ro.map fun x=>⟨x.r,x.n+CJ (itmOf p id) x.r⟩,LL id p.it⟩
theorem VF (id:Int) (its:List AT):(LL id its).length≤its.length:=by
 unfold LL;rw [List.length_map];exact List.length_filter_le _ _
structure Mid (p:Prb) (b:Int):Prop where
 f:Gr p
 r:(p.ro.map Roo.r).Nodup
 n:∀x∈p.ro,-b≤x.n∧x.n≤b
theorem Mid.set {p:Prb} {b:Int} (h:Mid p b) (id:Int):Mid (set1 p id) (b+1000000000000000):=by
 refine ⟨⟨?_,?_,fun x hx=>?_⟩,?_,fun x hx=>?_⟩
 ·have:=VF id p.it;have h1:=h.f.i;show (LL id p.it).length≤30;omega
 ·show (p.ro.map _).length≤100;rw [List.length_map];exact h.f.r
 ·obtain ⟨y,hy,rfl⟩:=List.mem_map.1 hx;have h1:=h.f.x y (List.mem_filter.1 hy).1;exact ⟨h1.1,h1.2.1,Nat.le_trans (List.length_filter_le _ _) h1.2.2⟩
 ·show ((p.ro.map _).map Roo.r).Nodup;rw [List.map_map];exact h.r
 ·obtain ⟨y,hy,rfl⟩:=List.mem_map.1 hx;have h1:=h.n y hy;have h2:=Y2 (itmOf p id) y.r;show -(b+1000000000000000)≤y.n+CJ (itmOf p id) y.r∧y.n+CJ (itmOf p id) y.r≤b+1000000000000000;omega
noncomputable def grossR:Nat ->Prb ->List Int
 | 0,_=> []
 | f+1,p=>match (Px p).find? fun id=>decide (Cu p [id]) with
  | none=> []
  | some id=>id::grossR f (set1 p id)
structure GI (G:List Int) (p:Prb) (acc:List Int) (f:Nat) (ag:Bool):Prop where
 m:Mid p (34000000000000000 - 1000000000000000*(f:Int))
 l:(Px p).length≤f
 a:acc.length+f≤30
 v:(ag=true ->acc++grossR f p=G)∧(ag=false ->acc=G)
theorem LY {f:Nat} {p:Prb} (h:(Px p).find? (fun id=>decide (Cu p [id]))=none):grossR f p=[]:=by
 cases f with
 | zero=>rfl
 | succ f=>unfold grossR;rw [h]
theorem LX {f:Nat} {p:Prb} {id:Int} (h:(Px p).find? (fun id=>decide (Cu p [id]))=some id):grossR (f+1) p=id::grossR f (set1 p id):=by
 show (match (Px p).find? (fun id=>decide (Cu p [id])) with | none=>_ | some id=>_)=_;rw [h]
theorem WG {N:Net} {x:Nd}:Cq N x=true↔(∀e∈x.pl,Qi N e=false)∧(∀a∈x.it.af,offOf N a=true)∧∀e∈x.ef,M9 (N.po.getD e.1 CC) e.2=false:=by
 unfold Cq
 simp
theorem WD {i:Int} {B:List Int}:∀{A:List Int},i∉A ->befQ i (A++i::B)=A:=by
 intro A h;unfold befQ;rw [if_pos (by simp)]
 induction A with
 | nil=>rw [List.nil_append,List.takeWhile_cons,if_neg (by simp)]
 | cons a A ih=>
  rw [List.mem_cons,not_or] at h;rw [List.cons_append,List.takeWhile_cons,if_pos (by simpa using fun e=>h.1 e.symm),ih h.2]
theorem Ye {i:Int} {q:List Int} (h:i∉q):befQ i q=[]:=if_neg h
theorem NA {its:List AT} (hn:(its.map AT.id).Nodup) {X:AT} (hX:X∈its):its.filter (fun y=>decide (y.id=X.id))=[X]:=by
 obtain ⟨A,B,rfl⟩:=List.append_of_mem hX;rw [List.map_append,List.nodup_append,List.map_cons] at hn;obtain ⟨_,h2,h3⟩:=hn;rw [List.nodup_cons] at h2;rw [List.filter_append,List.filter_cons,if_pos (by simp)];have e1:A.filter (fun y=>decide (y.id=X.id))=[]:=List.filter_eq_nil_iff.2 fun y hy e=>h3 _ (List.mem_map.2 ⟨y,hy,rfl⟩) _ List.mem_cons_self (of_decide_eq_true e);have e2:B.filter (fun y=>decide (y.id=X.id))=[]:=List.filter_eq_nil_iff.2 fun y hy e=>h2.1 (List.mem_map.2 ⟨y,hy,of_decide_eq_true e⟩);rw [e1,e2];rfl
theorem So {p:Prb} {ros:List Roo} {its:List AT} (h:PVO p ros its) (on:Nat ->Bool) {x:Roo} (hx:x∈ros):(netG ros its on).po.getD ((ros.map Roo.r).idxOf x.r) CC=poG (its.map dltS) on x:=by
 obtain ⟨j,hj,rfl⟩:=List.getElem_of_mem hx;have hj':j<(ros.map Roo.r).length:=by simpa using hj
 have e:(ros.map Roo.r).idxOf ros[j].r=j:=by
  have:=iOq h.s.r hj';rw [List.getElem_map] at this;exact this
 rw [e];show (ros.map _).getD j CC=_;rw [Bd CC (by simpa using hj),List.getElem_map]
def Lb (its:List AT) (on:Nat ->Bool) (u:List Int):Prop:=∀j,j<its.length ->(on j=true↔(its.getD j itm0).id∉u)
theorem tot_on {p:Prb} {ros:List Roo} {its:List AT} (h:PVO p ros its) {on:Nat ->Bool} {u:List Int} (hu:Lb its on u) {x:Roo} (hx:x∈ros):Ij (p.it.filter (KE u)) x.r=DY (its.map dltS) (CB on) x.r:=by
 have h1:=Qp h (CB on) hx;unfold FX at h1;have h2:((p.it.filter fun i=>decide (i.id∈B3 its (CB on) its.length)).map fun i=>CJ i x.r).sum=DY (its.map dltS) (CB on) x.r:=by omega
 rw [←h2]
 have e:p.it.filter (KE u)=p.it.filter fun i=>decide (i.id∈B3 its (CB on) its.length):=List.filter_congr fun y hy=>by
  have hy':y∈its:=by rw [←h.hi];exact (QD p.it).mem_iff.2 hy
  obtain ⟨j,hj,rfl⟩:=List.getElem_of_mem hy';have h3:=Mb h.s.i (CB on) hj;have h4:=hu j hj;rw [Bd itm0 hj] at h3 h4;unfold KE;refine decide_eq_decide.2 ?_;rw [h3];unfold CB
  cases ho:on j with
  | true=>simp [h4.1 ho]
  | false=>
   have:¬¬its[j].id∈u:=fun hc=>by rw [h4.2 hc] at ho;cases ho
   simp [Classical.not_not.1 this]
 rw [e];unfold Ij;refine DT fun y hy=>?_;have hy2:=(List.mem_filter.1 hy).1;exact (NL h.e hy2 (h.w x hx)).symm
theorem gro_eq {p:Prb} {ros:List Roo} {its:List AT} (h:PVO p ros its) {on:Nat ->Bool} {u:List Int} (hu:Lb its on u) {i:Nat} (hi:i<its.length) (ho:on i=true):I3 (netG ros its on) i=true↔Cu (sP p u) [(its.getD i itm0).id]:=by
 obtain ⟨X,hX⟩:∃X,its.getD i itm0=X:=⟨_,rfl⟩
 have hXm:X∈its:=by rw [←hX,Bd itm0 hi];exact List.getElem_mem hi
 have hXp:X∈p.it:=by rw [←h.hi] at hXm;exact (QD p.it).mem_iff.1 hXm
 have hXu:X.id∉u:=by have:=(hu i hi).1 ho;rwa [hX] at this
 have hXq:X.id∈(sP p u).it.map AT.id:=Zdn.2 ⟨List.mem_map.2 ⟨X,hXp,rfl⟩,hXu⟩
 have hiX:itmOf p X.id=X:=by
  obtain ⟨hk,_,h2,h3⟩:=GD (p:=p) (id:=X.id) (List.mem_map.2 ⟨_,hXp,rfl⟩);exact Pd (WP (KW h.e).2.1) (by rw [h2];exact List.getElem_mem hk) hXp h3
 have hiq:itmOf (sP p u) X.id=FU u X:=by rw [Mt h.e hXq,hiX]
 have hdi:i<(its.map dltS).length:=by simpa using hi
 have hgi:(its.map dltS).getD i []=dltS X:=by rw [Bd [] hdi,List.getElem_map,←hX,Bd itm0 hi]
 have hnd:(netG ros its on).nd.getD i Bc=IH (ros.map Roo.r) its on i:=by
  show ((List.range its.length).map _).getD i Bc=_;rw [Bd Bc (by simpa using hi),List.getElem_map,List.getElem_range]
 have honN:∀j,j<its.length ->onN (netG ros its on) j=on j:=fun j hj=>by
  unfold onN
  have:(netG ros its on).nd.getD j Bc=IH (ros.map Roo.r) its on j:=by
   show ((List.range its.length).map _).getD j Bc=_;rw [Bd Bc (by simpa using hj),List.getElem_map,List.getElem_range]
  rw [this];rfl
 have hids:∀{r:A5},B4 r=0 ->qIds its r=(negQ (its.map dltS) r).map fun j=>(its.getD j itm0).id:=fun hr=>XG h.v hr;have hpl:plK (ros.map Roo.r) ((its.map dltS).take i) (dltS X)=(ros.filter fun x=>decide (Br (dltS X) x.r<0)).map fun x=>((ros.map Roo.r).idxOf x.r,(negQ ((its.map dltS).take i) x.r).length):=pl_eq h _ X
 have hgr:I3 (netG ros its on) i=true↔Cq (netG ros its on) (IH (ros.map Roo.r) its on i)=true:=by
  unfold I3;rw [hnd];show ((on i) && _)=true↔_;rw [ho,Bool.true_and]
 rw [hgr,WG,He];have hxit:(IH (ros.map Roo.r) its on i).it=X:=hX
 have hxpl:(IH (ros.map Roo.r) its on i).pl=(ros.filter fun x=>decide (Br (dltS X) x.r<0)).map fun x=>((ros.map Roo.r).idxOf x.r,(negQ ((its.map dltS).take i) x.r).length):=by
  rw [←hpl,←hX];rfl
 have hxef:(IH (ros.map Roo.r) its on i).ef=efK (ros.map Roo.r) (dltS X):=by rw [←hX];rfl
 rw [hxit,hxpl,hxef,hX]
 have hqro:∀y,y∈(sP p u).ro↔∃x∈ros,y=⟨x.r,x.n+Ij (p.it.filter (KE u)) x.r⟩:=fun y=>by
  show y∈Na p u↔_;unfold Na;rw [List.mem_map];have hm:∀x,x∈p.ro↔x∈ros:=fun x=>by rw [←h.hr];exact (Fy p).mem_iff.symm
  exact ⟨fun ⟨x,hx,e⟩=>⟨x,(hm x).1 hx,e.symm⟩,fun ⟨x,hx,e⟩=>⟨x,(hm x).2 hx,e.symm⟩⟩
 -- what stands before the item
 have hA:(∀e∈(ros.filter fun x=>decide (Br (dltS X) x.r<0)).map (fun x=>((ros.map Roo.r).idxOf x.r,(negQ ((its.map dltS).take i) x.r).length)),Qi (netG ros its on) e=false)↔∀y∈(sP p u).ro,∀a∈befQ X.id (qIds (sortO (sP p u).it) y.r),a∈ [X.id]:=by
  have key:∀x∈ros,(Br (dltS X) x.r<0 ->Qi (netG ros its on) ((ros.map Roo.r).idxOf x.r,(negQ ((its.map dltS).take i) x.r).length)=false)↔∀a∈befQ X.id (qIds (sortO (sP p u).it) x.r),a∈ [X.id]:=fun x hx=>by
   rw [Tz u h.e,h.hi,hids (h.w x hx)];obtain ⟨B,c1,c2,c3⟩:=Jy hdi x.r;rw [hgi] at c1
   by_cases hneg:Br (dltS X) x.r<0
   ·rw [if_pos hneg] at c1
    have hp1:Qi (netG ros its on) ((ros.map Roo.r).idxOf x.r,(negQ ((its.map dltS).take i) x.r).length)=(negQ ((its.map dltS).take i) x.r).any (onN (netG ros its on)):=by
     unfold Qi;dsimp only;rw [So h on hx];show ((negQ (its.map dltS) x.r).take _).any _=_;rw [c1,List.take_left']
     rfl
    have hA1:∀a∈((negQ ((its.map dltS).take i) x.r).map fun j=>(its.getD j itm0).id).filter (fun z=>!decide (z∈u)),a≠X.id:=fun a ha e=>by
     obtain ⟨j,hj,e2⟩:=List.mem_map.1 (List.mem_filter.1 ha).1;have hji:=c2 j hj;have:=Kn h.s.i (i:=j) (j:=i) (by omega) hi (by rw [e2,e,hX]);omega
    have hb:befQ X.id (((negQ (its.map dltS) x.r).map fun j=>(its.getD j itm0).id).filter fun z=>!decide (z∈u))=((negQ ((its.map dltS).take i) x.r).map fun j=>(its.getD j itm0).id).filter fun z=>!decide (z∈u):=by
     rw [c1,List.map_append,List.map_append,List.filter_append,List.filter_append,List.map_singleton,hX,List.filter_cons,if_pos (by simpa using hXu),List.filter_nil,List.singleton_append];exact WD fun hm=>hA1 _ hm rfl
    rw [hb,hp1,List.any_eq_false]
    constructor
    ·intro h1 a ha;obtain ⟨ha1,ha2⟩:=List.mem_filter.1 ha;obtain ⟨j,hj,rfl⟩:=List.mem_map.1 ha1;have hji:=c2 j hj;have h2:=h1 hneg j hj;rw [honN j (by omega)] at h2;exact absurd ((hu j (by omega)).2 (by simpa using ha2)) h2
    ·intro h1 _ j hj;have hji:=c2 j hj;rw [honN j (by omega)];intro hon;have hmem:(its.getD j itm0).id∈((negQ ((its.map dltS).take i) x.r).map fun j=>(its.getD j itm0).id).filter (fun z=>!decide (z∈u)):=List.mem_filter.2 ⟨List.mem_map.2 ⟨j,hj,rfl⟩,by simpa using (hu j (by omega)).1 hon⟩;exact hA1 _ hmem (List.mem_singleton.1 (h1 _ hmem))
   ·have hn:X.id∉((negQ (its.map dltS) x.r).map fun j=>(its.getD j itm0).id).filter fun z=>!decide (z∈u):=fun hm=>by
     obtain ⟨j,hj,e⟩:=List.mem_map.1 (List.mem_filter.1 hm).1;have hjl:=Lw hj;rw [List.length_map] at hjl;have:=Kn h.s.i (i:=j) (j:=i) hjl hi (by rw [e,hX]);subst this;have h2:=of_decide_eq_true (List.mem_filter.1 hj).2;rw [hgi] at h2;exact hneg h2
    rw [Ye hn];exact ⟨fun _ a ha=>(by cases ha),fun _ hc=>absurd hc hneg⟩
  constructor
  ·intro h1 y hy;obtain ⟨x,hx,rfl⟩:=(hqro y).1 hy;exact (key x hx).1 fun hneg=>h1 _ (List.mem_map.2 ⟨x,List.mem_filter.2 ⟨hx,decide_eq_true hneg⟩,rfl⟩)
  ·intro h1 e he;obtain ⟨x,hx,rfl⟩:=List.mem_map.1 he;obtain ⟨hx1,hx2⟩:=List.mem_filter.1 hx;exact (key x hx1).2 (h1 ⟨x.r,x.n+Ij (p.it.filter (KE u)) x.r⟩ ((hqro _).2 ⟨x,hx1,rfl⟩)) (of_decide_eq_true hx2)
 -- what must settle before it
 have hB:(∀a∈X.af,offOf (netG ros its on) a=true)↔∀a∈(itmOf (sP p u) X.id).af,a∈ [X.id]:=by
  rw [hiq]
  have hoff:∀a∈X.af,(offOf (netG ros its on) a=true↔a∈u):=fun a ha=>by
   have hm:=h.s.a _ hXm a ha;have hj:=List.idxOf_lt_length_of_mem hm;have hja:=List.getElem_idxOf hj;unfold offOf;rw [show BY (netG ros its on)=its.map AT.id from N0 ros its on]
   generalize (its.map AT.id).idxOf a=j at hj hja⊢
   have hj':j<its.length:=by simpa using hj
   rw [List.getElem_map] at hja;have h2:=hu j hj';rw [Bd itm0 hj',hja] at h2;have h3:=honN j hj';unfold onN at h3;rw [h3]
   cases hoj:on j with
   | true=>simp [h2.1 hoj]
   | false=>
    have:¬¬a∈u:=fun hc=>by rw [h2.2 hc] at hoj;cases hoj
    simp [Classical.not_not.1 this]
  constructor
  ·intro h1 a ha;obtain ⟨h3,h4⟩:=List.mem_filter.1 ha;have:=(hoff a h3).1 (h1 a h3)
   simp [inS,this] at h4
  ·intro h1 a ha;refine (hoff a ha).2 (Classical.byContradiction fun hc=>?_);have h2:=h1 a (List.mem_filter.2 ⟨ha,by simp [inS,hc]⟩);have h3:=(NW.1 (Hl (h.v X hXm)).2.2.2.2.2.2.1).1 a ha;exact h3.2 (List.mem_singleton.1 h2)
 -- what it overdraws
 have hC:(∀e∈efK (ros.map Roo.r) (dltS X),M9 ((netG ros its on).po.getD e.1 CC) e.2=false)↔∀y∈(sP p u).ro,0≤FX (sP p u).it y [X.id]:=by
  have key:∀x∈ros,FX (sP p u).it ⟨x.r,x.n+Ij (p.it.filter (KE u)) x.r⟩ [X.id]=max (x.n+DY (its.map dltS) (CB on) x.r) 0+Br (dltS X) x.r:=fun x hx=>by
   rw [tot_on h hu hx];unfold FX
   congr 1
   show (((Cs u p.it).filter _).map _).sum=_;unfold Cs;rw [Zdh,List.filter_filter,List.map_map]
   have e3:p.it.filter (fun a=>decide ((FU u a).id∈ [X.id]) && !KE u a)=[X]:=by
    rw [←NA (WP (KW h.e).2.1) hXp];refine List.filter_congr fun y hy=>?_
    by_cases e:y.id=X.id
    ·unfold KE;show (decide (y.id∈ [X.id]) && !decide (y.id∈u))=_;rw [e,decide_eq_false hXu];simp
    ·show (decide (y.id∈ [X.id]) && _)=_;rw [decide_eq_false (fun hm=>e (List.mem_singleton.1 hm)),decide_eq_false e];rfl
   rw [e3];show CJ (FU u X) x.r+0=_;rw [Int.add_zero,Gl u (h.v X hXm),Pw (h.v X hXm) (h.w x hx)]
  constructor
  ·intro h1 y hy;obtain ⟨x,hx,rfl⟩:=(hqro y).1 hy;rw [key x hx]
   by_cases hneg:Br (dltS X) x.r<0
   ·have hk:x.r∈(dltS X).map Prod.fst:=Classical.byContradiction fun hn=>by
     have:Br (dltS X) x.r=0:=DS hn;omega
    obtain ⟨d,hd,e⟩:=List.mem_map.1 hk;have hda:Br (dltS X) d.1=d.2:=ZcV (Zc4 X) hd;have h2:=h1 ((ros.map Roo.r).idxOf d.1,d.2) (List.mem_map.2 ⟨d,List.mem_filter.2 ⟨hd,decide_eq_true (by rw [e];exact List.mem_map.2 ⟨x,hx,rfl⟩)⟩,rfl⟩);dsimp only at h2;rw [e] at h2 hda;rw [So h on hx] at h2;have h3:=of_decide_eq_false h2;unfold Ym at h3;have h4:¬(d.2<0∧max (x.n+DY (its.map dltS) (CB on) x.r) 0+d.2<0):=h3;omega
   ·omega
  ·intro h1 e he;obtain ⟨d,hd,rfl⟩:=List.mem_map.1 he;obtain ⟨hd1,hd2⟩:=List.mem_filter.1 hd;obtain ⟨x,hx,e⟩:=List.mem_map.1 (of_decide_eq_true hd2);have hda:Br (dltS X) d.1=d.2:=ZcV (Zc4 X) hd1;have h2:=h1 _ ((hqro _).2 ⟨x,hx,rfl⟩);rw [key x hx] at h2;dsimp only;rw [←e] at hda⊢;rw [So h on hx];refine decide_eq_false ?_;unfold Ym;show ¬(d.2<0∧max (x.n+DY (its.map dltS) (CB on) x.r) 0+d.2<0);omega
 rw [hA,hB,hC]
 constructor
 ·rintro ⟨h1,h2,h3⟩;exact ⟨fun id hid=>by rw [List.mem_singleton.1 hid];exact ⟨h1,h2⟩,h3⟩
 ·rintro ⟨h1,h2⟩;have:=h1 X.id (List.mem_singleton_self _);exact ⟨this.1,this.2,h2⟩
theorem Wp (p:Prb):sP p []=p:=by
 have h1:Na p []=p.ro:=by
  unfold Na;have e:p.it.filter (KE [])=[]:=List.filter_eq_nil_iff.2 fun y _ h=>by unfold KE at h;simp at h
  rw [e]
  conv=>rhs;rw [←List.map_id p.ro]
  refine List.map_congr_left fun x _=>?_;show (⟨x.r,x.n+0⟩:Roo)=x;rw [Int.add_zero]
 have h2:Cs [] p.it=p.it:=by
  unfold Cs;rw [List.filter_eq_self.2 fun y _=>by unfold KE;simp]
  conv=>rhs;rw [←List.map_id p.it]
  refine List.map_congr_left fun y _=>?_;show (⟨y.id,y.pr,y.sq,y.po,y.pa,Nk [] y.af⟩:AT)=y;rw [YC fun x _=>by simp [inS]]
 unfold sP;rw [h1,h2]
theorem Tu {p:Prb} {u:List Int} {id:Int} (hp:Ao p=0) (hid:id∈(sP p u).it.map AT.id):set1 (sP p u) id=sP p (u++ [id]):=by
 obtain ⟨hi1,hi2⟩:=Zdn.1 hid;obtain ⟨hk,_,hX,hXid⟩:=GD hi1;have hXm:itmOf p id∈p.it:=by rw [hX];exact List.getElem_mem hk
 have h1:((sP p u).ro.map fun x=>(⟨x.r,x.n+CJ (itmOf (sP p u) id) x.r⟩:Roo))=Na p (u++ [id]):=by
  show ((Na p u).map _)=_;unfold Na;rw [List.map_map];refine List.map_congr_left fun x hx=>?_;have hv:=LN (KW hp).1 x hx;show (⟨x.r,x.n+Ij (p.it.filter (KE u)) x.r+CJ (itmOf (sP p u) id) x.r⟩:Roo)=⟨x.r,x.n+Ij (p.it.filter (KE (u++ [id]))) x.r⟩
  rw [Mt hp hid,Gl u (F4 (KW hp).2.1 _ hXm),NL hp hXm hv]
  have e1:Ij (p.it.filter (KE (u++ [id]))) x.r=Ij (p.it.filter (KE u)) x.r+BZ (ctr (itmOf p id)) x.r:=by
   unfold Ij;have h2:=ML u [id] (fun y hy=>by rw [List.mem_singleton.1 hy];exact hi2) (fun i=>BZ (ctr i) x.r) p.it
   have e2:(p.it.filter fun i=>!decide (i.id∈u) && decide (i.id∈ [id]))=[itmOf p id]:=by
    rw [←NA (WP (KW hp).2.1) hXm];refine List.filter_congr fun y hy=>?_;rw [hXid]
    by_cases e:y.id=id
    ·rw [e,decide_eq_false hi2];simp
    ·rw [decide_eq_false (fun hm=>e (List.mem_singleton.1 hm)),decide_eq_false e,Bool.and_false]
   rw [e2] at h2;show ((p.it.filter fun i=>decide (i.id∈u++ [id])).map _).sum=((p.it.filter fun i=>decide (i.id∈u)).map _).sum+_;rw [h2,List.map_singleton,List.sum_cons,List.sum_nil,Int.add_zero]
  rw [e1,Int.add_assoc]
 have h2:LL id (Cs u p.it)=Cs (u++ [id]) p.it:=by
  unfold LL Cs;rw [Zdh,List.filter_filter,List.map_map]
  have e1:p.it.filter (fun a=>decide ((FU u a).id≠id) && !KE u a)=p.it.filter fun i=>!KE (u++ [id]) i:=List.filter_congr fun y hy=>by
   unfold KE;show (decide (y.id≠id) && !decide (y.id∈u))=!decide (y.id∈u++ [id]);rw [Bool.eq_iff_iff]
   simp [and_comm]
  rw [e1];refine List.map_congr_left fun y _=>?_;show (⟨y.id,y.pr,y.sq,y.po,y.pa,G4 (Nk u y.af) id⟩:AT)=⟨y.id,y.pr,y.sq,y.po,y.pa,Nk (u++ [id]) y.af⟩
  have e2:G4 (Nk u y.af) id=Nk (u++ [id]) y.af:=by
   unfold G4 Nk;rw [List.filter_filter];refine List.filter_congr fun x _=>?_;unfold inS;rw [Bool.eq_iff_iff]
   simp [and_comm]
  rw [e2]
 show (⟨(sP p u).ro.map _,LL id (sP p u).it⟩:Prb)=⟨Na p (u++ [id]),Cs (u++ [id]) p.it⟩
 rw [h1];show (⟨_,LL id (Cs u p.it)⟩:Prb)=_;rw [h2]
theorem Sh (n:Nat) (g:Nat ->Bool):(List.range n).findIdx? g=(List.range n).find? g:=by
 cases h:(List.range n).findIdx? g with
 | none=>
  rw [List.findIdx?_eq_none_iff] at h;exact (GJ h).symm
 | some i=>
  rw [List.findIdx?_eq_some_iff_getElem] at h;obtain ⟨hi,h1,h2⟩:=h
  have h3:=MA (l:=List.range n) (k:=i) hi (fun x hx=>by
   obtain ⟨j,hj,e⟩:=List.mem_take_iff_getElem.1 hx;rw [←e];have:=h2 j (by omega)
   simpa using this) h1
  rw [h3,List.getElem_range]
theorem Mz {α:Type} {q r:α ->Bool}:∀{l:List α},(l.filter q).find? r=l.find? fun x=>q x && r x
 | []=>rfl
 | a::l=>by
  have e:(a::l).find? (fun x=>q x && r x)=match q a && r a with | true=>some a | false=>l.find? fun x=>q x && r x:=by rw [List.find?_cons];cases q a && r a<;>rfl
  rw [e,List.filter_cons]
  cases hq:q a with
  | true=>
   rw [if_pos rfl,List.find?_cons,Bool.true_and,Mz];cases r a<;>rfl
  | false=>
   rw [if_neg (by simp),Bool.false_and,Mz]
theorem sP_ids {p:Prb} {ros:List Roo} {its:List AT} (h:PVO p ros its) {on:Nat ->Bool} {u:List Int} (hu:Lb its on u):Px (sP p u)=B3 its on its.length:=by
 unfold Px B3;rw [To u h.e,h.hi,List.map_map]
 have e:its.filter (fun i=>!KE u i)=((List.range its.length).filter on).map fun i=>its.getD i itm0:=by
  conv=>lhs;rw [IM its]
  rw [List.filter_map]
  congr 1
  refine List.filter_congr fun j hj=>?_;have hj':=List.mem_range.1 hj;have:=hu j hj';show (!decide ((its.getD j itm0).id∈u))=on j
  cases ho:on j with
  | true=>rw [decide_eq_false (this.1 ho)];rfl
  | false=>
   have h2:¬¬(its.getD j itm0).id∈u:=fun hc=>by rw [this.2 hc] at ho;cases ho
   rw [decide_eq_true (Classical.not_not.1 h2)];rfl
 rw [e,List.map_map];rfl
theorem Xd {p:Prb} {ros:List Roo} {its:List AT} (h:PVO p ros its) {on:Nat ->Bool} {u:List Int} (hu:Lb its on u):((Px (sP p u)).find? fun id=>decide (Cu (sP p u) [id]))=(FY ros its on).map fun i=>(its.getD i itm0).id:=by
 unfold FY;rw [sP_ids h hu,Sh];unfold B3;rw [List.find?_map,Mz]
 congr 1
 refine FA fun i hi=>?_;have hi':=List.mem_range.1 hi
 cases ho:on i with
 | false=>
  rw [Bool.false_and];unfold I3
  have:(netG ros its on).nd.getD i Bc=IH (ros.map Roo.r) its on i:=by
   show ((List.range its.length).map _).getD i Bc=_;rw [Bd Bc (by simpa using hi'),List.getElem_map,List.getElem_range]
  rw [this];show false=((on i) && _)
  rw [ho];rfl
 | true=>
  rw [Bool.true_and];have:=gro_eq h hu hi' ho;show decide (Cu (sP p u) [(its.getD i itm0).id])=_
  cases hg:I3 (netG ros its on) i with
  | true=>exact decide_eq_true (this.1 hg)
  | false=>exact decide_eq_false fun hc=>by rw [this.2 hc] at hg;cases hg
theorem Lb.off {its:List AT} (hn:(its.map AT.id).Nodup) {on:Nat ->Bool} {u:List Int} (hu:Lb its on u) {i:Nat} (hi:i<its.length):Lb its (Ag on i) (u++ [(its.getD i itm0).id]):=fun j hj=>by
 rw [List.mem_append,List.mem_singleton,not_or]
 by_cases e:j=i
 ·subst e;rw [Eg];simp
 ·rw [Zdc e];exact ⟨fun h=>⟨(hu j hj).1 h,fun e2=>e (Kn hn hj hi e2)⟩,fun h=>(hu j hj).2 h.1⟩
theorem Vn {p:Prb} {ros:List Roo} {its:List AT} (h:PVO p ros its):∀(f f':Nat) (u:List Int) (on:Nat ->Bool),Lb its on u ->GN its.length on≤f ->GN its.length on≤f' ->grossR f (sP p u)=MR ros its f' on:=by
 intro f
 induction f with
 | zero=>
  intro f' u on hu h1 _
  have:FY ros its on=none:=by
   cases hn:FY ros its on with
   | none=>rfl
   | some i=>
    obtain ⟨hi,ho,_⟩:=Mi hn;have:=IS hi ho;omega
  rw [IB this];rfl
 | succ f ih=>
  intro f' u on hu h1 h2;have hx:=Xd h hu
  cases hn:FY ros its on with
  | none=>
   rw [hn] at hx;rw [IB hn,LY hx]
  | some i=>
   rw [hn] at hx;obtain ⟨hi,ho,_⟩:=Mi hn;have hc:=IS hi ho
   obtain ⟨g,rfl⟩:∃g,f'=g+1:=⟨f' - 1,by omega⟩
   have hid:(its.getD i itm0).id∈(sP p u).it.map AT.id:=((QD (sP p u).it).map AT.id).mem_iff.1 (List.mem_of_find?_eq_some hx);rw [K7 hn,LX hx,Tu h.e hid,ih g _ _ (hu.off h.s.i hi) (by omega) (by omega)]
theorem Vp {p:Prb} (hE:Ao p=0) (hf:Gr p):grossS p=grossR 30 p:=by
 have h:=pv_of hE hf;have h1:ordP p=sortO p.it:=if_pos hE;have hl:=hf.i;unfold grossS;rw [h1];have hc:=Vw (sortO p.it).length;have hsl:=K3 p.it;have:=Vn h 30 (sortO p.it).length [] (fun _=>true) (fun j _=>by simp) (by omega) (by omega);rw [Wp] at this;exact this.symm
theorem TL (p:Prb):Cu p []:=by
 refine He.2 ⟨fun id h=>(by cases h),fun x _=>?_⟩;unfold FX;rw [List.filter_eq_nil_iff.2 fun y _ h=>by simp at h];show 0≤max x.n 0+0;omega
theorem Vm {p:Prb} (hE:Ao p=0) (hf:Gr p):∀(f:Nat) (u:List Int),Cu p u ->(∀y∈u,y∈p.it.map AT.id) ->∀y∈grossR f (sP p u),y∈largeS p:=by
 intro f
 induction f with
 | zero=>intro u _ _ y hy;cases hy
 | succ f ih=>
  intro u hu hui y hy
  cases hx:(Px (sP p u)).find? fun id=>decide (Cu (sP p u) [id]) with
  | none=>rw [LY hx] at hy;cases hy
  | some id=>
   have hid:id∈(sP p u).it.map AT.id:=((QD (sP p u).it).map AT.id).mem_iff.1 (List.mem_of_find?_eq_some hx);have hfe:Cu (sP p u) [id]:=of_decide_eq_true (List.find?_some (p:=fun id=>decide (Cu (sP p u) [id])) hx);have hu2:=Vr hE hu (S:=[id]) (fun z hz=>by rw [List.mem_singleton.1 hz];exact hid) hfe
   have hui2:∀z∈u++ [id],z∈p.it.map AT.id:=fun z hz=>by
    rcases List.mem_append.1 hz with hz | hz
    ·exact hui z hz
    ·rw [List.mem_singleton.1 hz];exact (Zdn.1 hid).1
   rw [LX hx,Tu hE hid] at hy;rcases List.mem_cons.1 hy with e | hy
   ·rw [e];exact Ve hE hf hu2 hui2 id (List.mem_append.2 (.inr (List.mem_singleton_self _)))
   ·exact ih _ hu2 hui2 y hy
theorem TK {p:Prb} (hE:Ao p=0) (hf:Gr p):∀y∈grossS p,y∈largeS p:=by
 rw [Vp hE hf];have:=Vm hE hf 30 [] (TL p) (by simp);rw [Wp] at this;exact this
theorem Qa {ros:List Roo} {its:List AT}:∀(f:Nat) (on:Nat ->Bool),(MR ros its f on).length≤f
 | 0,_=>Nat.le_refl _
 | f+1,on=>by
  cases hn:FY ros its on with
  | none=>rw [IB hn];exact Nat.zero_le _
  | some i=>rw [K7 hn];have:=Qa (ros:=ros) (its:=its) f (Ag on i);simp;exact this
end Go.Proofs.YtnkkaeblokdifaaGreat
/- Layer 28: how the laws' arguments are opened. -/
namespace Go.Proofs.YtnkkaeblokdifaaGreat
open Go.ChangeShapes Go.WideShapes Go.ChangeAt Go.RowKit
section
variable {H:Type} {enc:TypeId×Value ->H} {w:World}
abbrev tt {α:Type}:α ->Prop:=fun _=>True
theorem oI:CV enc Tryz.prog w 3 1 AH tt:=(UH Tryz.underlying3).asQ id (fun _ _=>rfl) (fun _ _=>trivial)
theorem oJ:CV enc Tryz.prog w 2 1 AH tt:=(UH Tryz.underlying2).asQ id (fun _ _=>rfl) (fun _ _=>trivial)
theorem oS:CV enc Tryz.prog w 9 1 Am tt:=(X0 Tryz.underlying9).asQ id (fun _ _=>rfl) (fun _ _=>trivial)
theorem oIs:CV enc Tryz.prog w 33 1 (fun l:List Int=> .sl none (l.map AH)) tt:=(Ma Tryz.underlying33 (by kernel_rfl) (by omega) (b:=8) (by kernel_rfl) oI).asQ id (fun _ _=>rfl) (fun _ _=>trivial)
theorem oAcc:CV enc Tryz.prog w 39 3 accD tt:=
 (Iu Tryz.underlying39 (by kernel_rfl) (Bp rfl (by kernel_rfl) oS (Bp rfl (by kernel_rfl) oI (Bp rfl (by kernel_rfl) oS Iv)))).asQ (fun a=>(⟨a.1,a.2.1,a.2.2.1⟩:PH)) (fun _ _=>rfl) (fun _ _=>trivial)
theorem oPost:CV enc Tryz.prog w 133 4 Cm tt:=
 (Iu Tryz.underlying133 (by kernel_rfl) (Bp rfl (by kernel_rfl) oAcc (Bp rfl (by kernel_rfl) oJ Iv))).asQ (fun a=>(⟨a.1,a.2.1⟩:Ec)) (fun _ _=>rfl) (fun _ _=>trivial)
theorem oPay:CV enc Tryz.prog w 136 3 HC tt:=
 (Iu Tryz.underlying136 (by kernel_rfl) (Bp rfl (by kernel_rfl) oS (Bp rfl (by kernel_rfl) oS (Bp rfl (by kernel_rfl) oJ Iv)))).asQ (fun a=>(⟨a.1,a.2.1,a.2.2.1⟩:N1)) (fun _ _=>rfl) (fun _ _=>trivial)
theorem oRsc:CV enc Tryz.prog w 41 6 EX tt:=
 (Iu Tryz.underlying41 (by kernel_rfl) (Bp rfl (by kernel_rfl) oI (Bp rfl (by kernel_rfl) oAcc (Bp rfl (by kernel_rfl) oS (Bp rfl (by kernel_rfl) oS Iv))))).asQ (fun a=>(⟨a.1,a.2.1,a.2.2.1,a.2.2.2.1⟩:A5)) (fun _ _=>rfl) (fun _ _=>trivial)
theorem oItm:CV enc Tryz.prog w 72 6 BH tt:=
 (Iu Tryz.underlying72 (by kernel_rfl) (Bp rfl (by kernel_rfl) oI (Bp rfl (by kernel_rfl) oI (Bp rfl (by kernel_rfl) oI
  (Bp rfl (by kernel_rfl) (Ma Tryz.underlying69 (by kernel_rfl) (by omega) (b:=48) (by kernel_rfl) oPost)
  (Bp rfl (by kernel_rfl) (Ma Tryz.underlying70 (by kernel_rfl) (by omega) (b:=40) (by kernel_rfl) oPay) (Bp rfl (by kernel_rfl) oIs Iv))))))).asQ
  (fun a=>(⟨a.1,a.2.1,a.2.2.1,a.2.2.2.1,a.2.2.2.2.1,a.2.2.2.2.2.1⟩:AT)) (fun _ _=>rfl) (fun _ _=>trivial)
theorem oRoo:CV enc Tryz.prog w 43 7 Ff tt:=
 (Iu Tryz.underlying43 (by kernel_rfl) (Bp rfl (by kernel_rfl) oRsc (Bp rfl (by kernel_rfl) oJ Iv))).asQ (fun a=>(⟨a.1,a.2.1⟩:Roo)) (fun _ _=>rfl) (fun _ _=>trivial)
theorem oPrb:CV enc Tryz.prog w 25 2 Cc tt:=
 (Iu Tryz.underlying25 (by kernel_rfl) (Bp rfl (by kernel_rfl) (Ma Tryz.underlying22 (by kernel_rfl) (by omega) (b:=88) (by kernel_rfl) oRoo) (Bp rfl (by kernel_rfl) (Ma Tryz.underlying23 (by kernel_rfl) (by omega) (b:=96) (by kernel_rfl) oItm) Iv))).asQ
  (fun a=>(⟨a.1,a.2.1⟩:Prb)) (fun _ _=>rfl) (fun _ _=>trivial)
end
end Go.Proofs.YtnkkaeblokdifaaGreat
