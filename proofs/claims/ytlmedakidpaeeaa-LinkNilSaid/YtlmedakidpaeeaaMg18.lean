/- Layer 27: parts, walked. -/
import Derived.Test.YtlmedakidpaeeaaMg17
namespace Go.Proofs.Ytlmedakidpaeeaa
open Go.RowKit
set_option maxRecDepth 100000
abbrev Ew (w:List (List St)):D:= .sl none (w.map stsD)
theorem L9 {n:Nat} (h0:0<n) (h:n≤1000000):IntKind.i64.wrap ((n:Int) - 1)=((n - 1:Nat):Int):=by
 rw [show ((n:Int) - 1)=((n - 1:Nat):Int) by omega];exact IntWalk.i64_in _ (by omega)
theorem MH {Ks:List St} {L:St ->List St} (hoff:∀k,k∉Ks ->L k=[]) (a:St):B8 (Ks.map fun k=>(k,L k)) a [] =L a:=by
 have key:∀Ks:List St,B8 (Ks.map fun k=>(k,L k)) a [] =if a∈Ks then L a else []:=by
  intro Ks
  induction Ks with
  | nil=>rfl
  | cons k r ih=>
   show (if a=k then L k else B8 (r.map fun k=>(k,L k)) a [])=_
   by_cases e:a=k
   ·subst e;simp
   ·rw [if_neg e,ih];simp [e]
 rw [key]
 split
 ·rfl
 ·rename_i hn;rw [hoff a hn]
set_option maxHeartbeats 1000000 in
theorem LH {M:MF} {b:Nat} {w:Ws} (h:Cv M b w) (hw:CJ w) (hK:w.K.length≤1000000):AO Try.prog 39 [.d (pD b 0)] [(40,[.multi M])] fun r H'=>∃O:List (St×Nat),r= .tup [.d (Ew (parts w)),.map 6 0]∧H'=[(40,[.multi M]),(6,[MK AP natD O])]∧∀x∈w.R,B8 O x 0=idx w x:=by
 have hrep:=h;obtain ⟨m,E,lk,hr,hl⟩:=h;have hfew:=hw.few;have hEl:=hl.len hw;refine DR Try.func39 Z Z Try.ntmps39 Z Z Z fun F hF=>(AF (AI (AE Z Z (AE Z Z (AG (AF (AI (AB Z Z ?_))))))));refine BH (L1 (neigh_c hrep hw hK) rfl [40,1] ⟨rfl,rfl,trivial⟩ Z Z Z Z (fun r H' ⟨Ks,L,bs,e1,e2,_⟩=>by subst e1 e2;exact ⟨rfl,rfl,rfl⟩) rfl) rfl ?_;rintro _ ⟨r,H',⟨Ks,L,nbs,e1,e2,hoff,hwth,hLl⟩,rfl⟩;subst e1 e2;refine U (BR 4 zl106 Z Z Z Z) (U (Gb Z Z Z Z Z Z Z sz106) (AG (AF (AI (U (DU 6 Z Z Z Z) ?_)))));refine U (BR 5 zl80 Z Z Z Z) (U (Gb Z Z Z Z Z Z Z sz80) (AG (AF (AI (U (BR 7 zl79 Z Z Z Z) (AG (AF (AI ?_))))))));refine U (BR 9 zl108 Z Z Z Z) (AG (AF (AI (J (EF Z Z) (U (Gb Z Z Z Z Z Z Z sz108) (AG (AF (AF ?_))))))))
 have hL:NbOk w (Ks.map fun k=>(k,L k)) L:=⟨MH hoff,hwth,hLl⟩
 obtain ⟨NE,hNE⟩:∃NE,(Ks.map fun k=>(k,L k))=NE:=⟨_,rfl⟩
 rw [hNE] at hL;rw [hNE];refine HX 7 0 0 8 sl79 Z Z Z Z Z Z Z (E7 50 Z Z Z (AI (AB Z Z ?_)))
 first | refine J (KL Z Z) ?_ | refine J (KJ Z Z) ?_ | refine J (KM Z Z) ?_ | refine J (KK Z Z) ?_
 first | refine J (CE rfl Au Z Z Z) ?_ | refine J (CG rfl Au Z Z Z) ?_ | refine J (CI rfl Au Z Z Z) ?_ | refine J (CF rfl Au Z Z Z) ?_ | refine J (CD rfl Au Z Z Z) ?_
 refine J (KI (f:=40) Z Z (hr.cell) rfl DH rfl) (U (I0 (keys_c m) rfl [] trivial Z Z Z Z Z Z Z Z Z) (U (I0 (Mx hr.top (by omega) hl.kd hw.srt hl.ks) rfl [40] ⟨rfl,trivial⟩ Z Z Z Z Z Z Z Z Z) (J (Du rfl (List.length_map ..) Try.underlying32 rfl) (AB Z Z (AG (DQ (Ky (α:=Nat×List (St×Nat)×Nat×(Nat ->Hd)×(Nat ->List St)×MF) (fun q=>⟨51,[(0,.d (pD b 0)),(5,(.ptr 5 0 0)),(6,(.ptr 7 0 0)),(7,(.ptr 9 0 0)),(21,(.d (stsD w.R))),(22,(.d (natD w.R.length))),(23,(.d (natD q.1)))],(40,[.multi M])::HV nbs NE q.2.1 q.2.2.1 q.2.2.2.1 q.2.2.2.2.1 q.2.2.2.2.2⟩) (fun q=>q.1≤w.R.length∧PI w q.1 q.2.1 q.2.2.1 q.2.2.2.2.1∧JH q.2.2.2.2.2 q.2.2.1 q.2.2.2.1 q.2.2.2.2.1) (fun q=>w.R.length - q.1) ((0,[],0,(fun _=>none),(fun _=> []),fun _=>none)) (⟨Nat.zero_le _,PI.zero,JH.zero 0⟩) (Df hF [40,4,1,5,6,7,8,9,50] Z Z ⟨rfl,rfl,rfl,rfl,rfl,rfl,rfl,trivial⟩) ?_)))))));rintro ⟨k,O,n,hs,ls,M5⟩ ⟨hk,hP,hG⟩;dsimp only at hk hP hG⊢;refine AF (AI ?_)
 first | refine J (JC Z Z Z) ?_ | refine J (JA Z Z Z) ?_
 refine AG (AF ?_)
 first | refine BF rfl (fun h24=>?_) (fun h24=>?_) | refine D9 rfl (fun h24=>?_) (fun h24=>?_)
 ·refine C9 (AF (DQ (AF ?_)));have hkl:k<w.R.length:=B9 h24;have hnk:=hP.le;refine AI ?_
  first | refine J (Dy (k) Z Z (rfl) (MO hkl) Try.underlying32 rfl Ma rfl) ?_ | refine J (Dz (k) Z Z (rfl) (MO hkl) rfl Try.underlying32 Ma rfl) ?_
  first | refine J (A9 Z Z A4 rfl) ?_ | refine J (A7 Z Z Z A4 rfl) ?_ | refine J (A8 Z Z (rfl) rfl A4 rfl) ?_
  refine AE Z Z (AG (AF (AI ?_)))
  first | refine J (A9 Z Z Di rfl) ?_ | refine J (A7 Z Z Z Di rfl) ?_ | refine J (A8 Z Z (rfl) rfl Di rfl) ?_
  refine AB Z Z (J (EX (O) (w.R[k]) (0) Z Z Z GW F6 za3 rfl) (AB Z Z ?_))
  first | refine J (Dk Z Z Z) ?_ | refine J (Dj Z Z Z) ?_
  first | refine J (Dk Z Z Z) ?_ | refine J (Dj Z Z Z) ?_
  refine AE Z Z (AE Z Z (AG (AF (AI (AB Z Z ?_)))))
  first | refine J (KQ Z Z) ?_ | refine J (BN Z Z) ?_
  refine AG ?_
  first | refine BF rfl (fun h34=>?_) (fun h34=>?_) | refine D9 rfl (fun h34=>?_) (fun h34=>?_)
  ·refine AF ?_;have hxO:w.R[k]∉O.map Prod.fst:=fun hh=>absurd (Bw.2 hh) (by simpa using h34);refine AI ?_
   first | refine J (A9 Z Z Cp rfl) ?_ | refine J (A7 Z Z Z Cp rfl) ?_ | refine J (A8 Z Z (rfl) rfl Cp rfl) ?_
   refine U (Mc 20 sl79 Z Z Z Z Z Z Z Z) (U (Gk Z Z Z (Nat.le_of_eq (O3 n hs ls).symm) Z Z (by simp) sl79 (by omega) Z Z (show (rowS n hs ls).take n++ [D.sl (some true) []] =rowS n hs ls++ [D.sl (some true) []] from by rw [List.take_of_length_le (by rw [O3];exact Nat.le_refl _)]) Z Z) (U (Gb Z Z Z Z Z Z Z sz79) (AG (AF (IW 8 0 (rowS (n+1) (A5 hs n none) (A5 ls n [])) rfl (by rw [List.length_append,O3,O3];rfl) Mj ⟨fun x hx=>by rcases List.mem_append.1 hx with hx | hx;exact HB _ _ _ x hx;simp at hx;subst hx;rfl,HB _ _ _⟩ rfl (AI ?_))))))
   first | refine J (A9 Z Z IC rfl) ?_ | refine J (A7 Z Z Z IC rfl) ?_ | refine J (A8 Z Z (rfl) rfl IC rfl) ?_
   refine AB Z Z ?_;refine BH (Hn (visit_c hw hL (n+1) (by omega) (by omega) w.R.length O _ _ M5 w.R[k] (Nat.sub_le _ _) (List.getElem_mem hkl) hP.nd (fun y hy=>((hP.ks y).1 hy).1) hG.grow (by show (A5 ls n [] n).length≤_;rw [Da];exact Nat.zero_le _)) rfl [4,1,5,6,7,8,9,50] ⟨rfl,rfl,rfl,rfl,rfl,rfl,rfl,rfl,trivial⟩ Z Z Z Z (fun r H' ⟨ad,hs3,M53,e1,e2,_,_⟩=>by subst e1 e2;exact ⟨rfl,rfl,rfl⟩) rfl) rfl ?_;rintro _ ⟨r,H',⟨ad,hs3,M53,e1,e2,hG3,hVR⟩,rfl⟩;subst e1 e2;refine AG ?_;have e5:A5 (A5 ls n []) (n+1 - 1) (A5 ls n [] (n+1 - 1)++ad)=A5 ls n ad:=by show A5 (A5 ls n []) n (A5 ls n [] n++ad)=_;rw [EW,Da];rfl
   rw [e5] at hG3⊢;have hself:w.R[k]∈ad:=hVR.self.resolve_left hxO;have hadl:ad.length≤w.R.length:=Ko hVR.nd fun y hy=>(hVR.nw y hy).2.1;have hGn:=hG3.at_ n (Nat.lt_succ_self n);rw [Da] at hGn;obtain ⟨b1,c1,hbe⟩:∃b1 c1,hs3 n=some (b1,c1):=by rcases hd_two (hs3 n) with e | e;rw [e] at hGn;have hz:ad.map AP=[]:=hGn;rw [List.map_eq_nil_iff] at hz;rw [hz] at hself;cases hself;exact e
   rw [hbe] at hGn;refine AI ?_
   first | refine J (A9 Z Z Cp rfl) ?_ | refine J (A7 Z Z Z Cp rfl) ?_ | refine J (A8 Z Z (rfl) rfl Cp rfl) ?_
   first | refine J (A9 Z Z Cp rfl) ?_ | refine J (A7 Z Z Z Cp rfl) ?_ | refine J (A8 Z Z (rfl) rfl Cp rfl) ?_
   first | refine J (H5 rfl Try.underlying79 rfl) ?_ | refine J (Du Z Z Try.underlying79 rfl) ?_ | refine J (HZ rfl Try.underlying79 rfl) ?_ | refine J (H4 rfl Try.underlying79 rfl) ?_ | refine J (HY rfl Try.underlying79 rfl) ?_ | refine J (G8 rfl Try.underlying79 rfl) ?_
   refine J (EE Z Z (show IntKind.i64.wrap (((n+1:Nat):Int) - 1)=(n:Int) from L9 (n:=n+1) (by omega) (by omega)) rfl) ?_
   first | refine J (Dy (n) Z Z (rfl) (Nat.lt_succ_self n) Try.underlying79 rfl GV rfl) ?_ | refine J (Dz (n) Z Z (rfl) (Nat.lt_succ_self n) rfl Try.underlying79 GV rfl) ?_
   first | refine J (A9 Z Z CT rfl) ?_ | refine J (A7 Z Z Z CT rfl) ?_ | refine J (A8 Z Z (show (rowS (n+1) hs3 (A5 ls n ad))[n]?=some (.raw (sV b1 ad.length c1)) from by rw [EI (Nat.lt_succ_self n),hbe,Da];rfl) rfl CT rfl) ?_
   refine U (Ld Nm (f:=50) ad (by omega) Z Z Z hGn.2 Z Z Z Z) ?_;obtain ⟨hse,hP2⟩:=hP.new hw hkl hxO hVR;have hG4:=hG3.put (Nat.lt_succ_self n) hbe (l:=Bn ad) (by rw [CY];simpa using hGn.1);rw [EW,hse] at hG4;have hro:rowS (n+1) hs3 (A5 ls n ad)=rowS (n+1) hs3 (A5 ls n (cls w w.R[k])):=by refine List.map_congr_left fun j _=>?_;by_cases e:j=n;subst e;rw [Da,Da,←hse,CY];rw [Dv e,Dv e]
   rw [hse,hro];refine AG (AI (J (BY Z Z (IntWalk.i64_in _ (by omega)) rfl) (AB Z Z (AG ?_))));exact ⟨(k+1,addO O ad n,n+1,hs3,A5 ls n (cls w w.R[k]),_),⟨hkl,hP2,hG4⟩,by show w.R.length - (k+1)<w.R.length - k;omega,Df hF [40,4,1,5,6,7,8,9,50] rfl (rfl) ⟨rfl,rfl,rfl,rfl,rfl,rfl,rfl,trivial⟩⟩
  ·refine C9 (AI (J (BY Z Z (IntWalk.i64_in _ (by omega)) rfl) (AB Z Z (AG ?_))));exact ⟨(k+1,O,n,hs,ls,M5),⟨hkl,hP.old hw hkl (Bw.1 (by simpa using h34)),hG⟩,by show w.R.length - (k+1)<w.R.length - k;omega,Df hF [40,4,1,5,6,7,8,9,50] rfl (rfl) ⟨rfl,rfl,rfl,rfl,rfl,rfl,rfl,trivial⟩⟩
 ·refine JB (AF ?_);have hke:k=w.R.length:=by have:=h24;omega
  subst hke;obtain ⟨hrw,hix⟩:=hP.fin hw;refine O0 8 0 50 ((Lr n ls).map stsD) Z Z Z Z Z (by rw [List.length_map,LE,O3]) hG.melt ⟨HB _ _ _,one_sts _⟩ rfl ?_;rw [hrw];have hnl:(parts w).length=n:=by rw [←hrw,LE]
  refine IX (ys:=(parts w).map stsD) 7 0 0 8 Z Z Z (Nat.le_of_eq (by rw [List.length_map,hnl])) (List.take_of_length_le (by rw [List.length_map,hnl];exact Nat.le_refl _)) Z Z Z Z Z Z (BK [[],[],[0],[0,1,2]] mixed rfl (MP ?_))
  first | refine AN [6] [7] Z Z (fun _=>AD (A9 Z Z Cp rfl)) ?_ | refine AN [6] [7] Z Z (fun _=>AD (A7 Z Z Z Cp rfl)) ?_ | refine AN [6] [7] Z Z (fun _=>AD (A8 Z Z (rfl) rfl Cp rfl)) ?_
  first | refine AN [5] [5] Z Z (fun _=>AD (A9 Z Z Di rfl)) ?_ | refine AN [5] [5] Z Z (fun _=>AD (A7 Z Z Z Di rfl)) ?_ | refine AN [5] [5] Z Z (fun _=>AD (A8 Z Z (rfl) rfl Di rfl)) ?_
  first | refine AN [49] [] Z Z (fun _=>AD (Fm Z Z)) ?_ | refine AQ [49] Z Z (fun _=>AD (Fm Z Z)) ?_
  refine MR 3 Z Z Z (Is 4 Z Z (AE Z Z (AG ⟨rfl,?_⟩)));refine MQ (B3 ?_);exact ⟨_,[40,6],_,BO rfl,rfl,rfl,O,rfl,rfl,hix⟩
theorem exmin (p:Nat ->Prop):∀(m x:Nat),p x ->x≤m ->∃y,p y∧∀z,p z ->y≤z:=by
 intro m
 induction m with
 | zero=>intro x hx hm;exact ⟨x,hx,fun z _=>by omega⟩
 | succ m ih=>
  intro x hx hm
  by_cases h:∃y,p y∧y≤m
  ·obtain ⟨y,hy,hym⟩:=h;exact ih y hy hym
  ·exact ⟨x,hx,fun z hz=>by
    have:¬z≤m:=fun h2=>h ⟨z,hz,h2⟩
    omega⟩
theorem Nl {l:List Nat} (hl:l.Pairwise (· ≤ ·)) {i j:Nat} (hij:i≤j) (hj:j<l.length):CC l i≤CC l j:=by
 rcases Nat.eq_or_lt_of_le hij with e | h
 ·subst e;exact Nat.le_refl _
 ·rw [Bl (by omega),Bl hj];exact List.pairwise_iff_getElem.1 hl i j (by omega) hj h
theorem Jx {l:List Nat} (hl:l.Pairwise (· ≤ ·)):(Ct l l.length).Pairwise (· < ·):=by
 unfold Ct;rw [List.pairwise_map];refine List.Pairwise.imp_of_mem (fun {i j} hi hj hij=>?_) (List.Pairwise.filter _ List.pairwise_lt_range);obtain ⟨hj1,hj2⟩:=List.mem_filter.1 hj;have hj1:=List.mem_range.1 hj1;rcases of_decide_eq_true hj2 with e | e
 ·omega
 ·have h1:=Nl hl (i:=i) (j:=j - 1) (by omega) (by omega);have h2:=Nl hl (i:=j - 1) (j:=j) (by omega) hj1;omega
theorem OM {l:List Nat} {x:Nat}:x∈Ct l l.length↔x∈l:=by
 unfold Ct;rw [List.mem_map]
 constructor
 ·rintro ⟨i,hi,rfl⟩;exact If (List.mem_range.1 (List.mem_filter.1 hi).1)
 ·intro hx;obtain ⟨i,hi,e⟩:=List.mem_iff_getElem.1 hx;obtain ⟨j,⟨hj,hjx⟩,hm⟩:=exmin (fun j=>j<l.length∧CC l j=x) i i ⟨hi,by rw [Bl hi];exact e⟩ (Nat.le_refl _);refine ⟨j,List.mem_filter.2 ⟨List.mem_range.2 hj,decide_eq_true ?_⟩,hjx⟩
  by_cases h0:j=0
  ·exact .inl h0
  ·refine .inr fun e2=>?_;have:=hm (j - 1) ⟨by omega,by rw [←e2,hjx]⟩;omega
theorem Jw (l:List Nat):(FH l).Pairwise (· < ·):=Jx (FQ l)
theorem OL {l:List Nat} {x:Nat}:x∈FH l↔x∈l:=by unfold FH;rw [OM,(DV l).mem_iff]
structure DP (w:Ws) (acc:List Lw) (L:Nat ->List Nat):Prop where
 mem:∀i k,k∈L i↔∃l∈acc,l.t=1∧idx w l.f≠idx w l.r∧idx w l.f=i∧idx w l.r=k
 len:∀i,(L i).length≤acc.length
theorem DP.zero (w:Ws):DP w [] (fun _=> []):=⟨fun i k=>by simp,fun _=>Nat.le_refl _⟩
theorem DP.skip {w:Ws} {acc:List Lw} {L:Nat ->List Nat} (h:DP w acc L) {l:Lw} (hl:¬(l.t=1∧idx w l.f≠idx w l.r)):DP w (acc++ [l]) L:=by
 refine ⟨fun i k=>?_,fun i=>?_⟩
 ·rw [h.mem]
  constructor
  ·rintro ⟨x,hx,r⟩;exact ⟨x,List.mem_append_left _ hx,r⟩
  ·rintro ⟨x,hx,h1,h2,r⟩;rcases List.mem_append.1 hx with hx | hx
   ·exact ⟨x,hx,h1,h2,r⟩
   ·simp at hx;subst hx;exact absurd ⟨h1,h2⟩ hl
 ·have:=h.len i;simp;omega
theorem DP.hit {w:Ws} {acc:List Lw} {L:Nat ->List Nat} (h:DP w acc L) {l:Lw} (h1:l.t=1) (h2:idx w l.f≠idx w l.r):DP w (acc++ [l]) (A5 L (idx w l.f) (L (idx w l.f)++ [idx w l.r])):=by
 refine ⟨fun i k=>?_,fun i=>?_⟩
 ·by_cases e:i=idx w l.f
  ·subst e;rw [Da,List.mem_append,h.mem]
   constructor
   ·rintro (⟨x,hx,r⟩ | hk)
    ·exact ⟨x,List.mem_append_left _ hx,r⟩
    ·exact ⟨l,List.mem_append_right _ (by simp),h1,h2,rfl,(List.mem_singleton.1 hk).symm⟩
   ·rintro ⟨x,hx,q1,q2,q3,q4⟩;rcases List.mem_append.1 hx with hx | hx
    ·exact .inl ⟨x,hx,q1,q2,q3,q4⟩
    ·simp at hx;subst hx;exact .inr (by simp [q4])
  ·rw [Dv e,h.mem]
   constructor
   ·rintro ⟨x,hx,r⟩;exact ⟨x,List.mem_append_left _ hx,r⟩
   ·rintro ⟨x,hx,q1,q2,q3,q4⟩;rcases List.mem_append.1 hx with hx | hx
    ·exact ⟨x,hx,q1,q2,q3,q4⟩
    ·simp at hx;subst hx;exact absurd q3.symm e
 ·have h3:=h.len i
  by_cases e:i=idx w l.f
  ·rw [e,Da];rw [e] at h3;simp;exact h3
  ·rw [Dv e];simp;omega
theorem DP.fin {w:Ws} {acc:List Lw} {L:Nat ->List Nat} (h:DP w acc L) (hw:CJ w) (hp:acc.Perm w.K) (i:Nat):FH (L i)=depL w i:=by
 refine Gm (Jw _) (Fd w i) fun k=>?_;rw [OL,h.mem,Bx hw];unfold Dep
 constructor
 ·rintro ⟨l,hl,h1,h2,h3,h4⟩;exact ⟨by rw [←h3,←h4];exact h2,l,hp.mem_iff.1 hl,h1,h3,h4⟩
 ·rintro ⟨hne,l,hl,h1,h3,h4⟩;exact ⟨l,hp.mem_iff.2 hl,h1,by rw [h3,h4];exact hne,h3,h4⟩
def KA (L:Nat ->List Nat) (i:Nat):Nat ->List Nat:=fun j=>if j<i then FH (L j) else L j
theorem OR (L:Nat ->List Nat):KA L 0=L:=by funext c;unfold KA;rw [if_neg (by omega)]
theorem Iw (L:Nat ->List Nat) (i:Nat):KA L i i=L i:=by unfold KA;rw [if_neg (by omega)]
theorem HS (L:Nat ->List Nat) (i:Nat):A5 (KA L i) i (FH (L i))=KA L (i+1):=by
 funext c
 by_cases e:c=i
 ·subst e;rw [Da];unfold KA;rw [if_pos (by omega)]
 ·rw [Dv e];unfold KA
  by_cases h:c<i
  ·rw [if_pos h,if_pos (by omega)]
  ·rw [if_neg h,if_neg (by omega)]
theorem cdD_end (n:Nat) (L:Nat ->List Nat):grF n (KA L n)=(List.range n).map fun i=>FH (L i):=by
 unfold grF;exact List.map_congr_left fun c hc=>by unfold KA;rw [if_pos (List.mem_range.1 hc)]
noncomputable def depG (w:Ws):List (List Nat):=(List.range (parts w).length).map (depL w)
set_option maxHeartbeats 2000000 in
theorem OG {M:MF} {b:Nat} {w:Ws} (h:Cv M b w) (hw:CJ w) (hK:w.K.length≤1000000) {O:List (St×Nat)} (hO:∀x∈w.R,B8 O x 0=idx w x) {M7:MF} {x7:Nat} {bs7:Option (List Nat×Nat)} (h7:M7 x7=some (.map bs7 (AU AP natD O))):
  AO Try.prog 57 [.d (pD b 0),.d (Ew (parts w)),.d (mD x7)] [(40,[.multi M]),(7,[.multi M7])] fun r H'=>r= .d (grD (depG w))∧H'=[(40,[.multi M]),(7,[.multi M7])]:=by
 obtain ⟨m,E,lk,hr,hl⟩:=h;have hperm:=hl.perm hw;have hfew:=hw.few;have hbm:b≠m:=fun e=>by subst e;have:=hr.cell;rw [hr.top] at this;cases this
 have hpm:∀p∈E,p.2≠m:=fun p hp e=>hr.ne (by rw [←e];exact List.mem_map_of_mem hp)
 obtain ⟨n,hn⟩:∃n,(parts w).length=n:=⟨_,rfl⟩
 have hnR:n≤4096:=by rw [←hn];unfold parts;rw [List.length_map];exact Nat.le_trans (List.length_filter_le _ _) hfew
 refine DR Try.func57 Z Z Try.ntmps57 Z Z Z fun F hF=>(AF (AI (AE Z Z (AG (AF (AI (AB Z Z ?_)))))));refine J (Du rfl ((List.length_map ..).trans hn) Try.underlying79 rfl) (U (I8 20 sl101 Z Z Z (by omega) zd49 Z Z Z Z) (AE Z Z (AG (AF (AF (IW 20 0 (rowH n (fun _=>none) (fun _=> [])) rfl (by rw [DF,List.length_replicate]) (Nc n) ⟨one_nil _,J2 _ _ _⟩ rfl (E7 50 Z Z Z (DN 40 m rfl hr.top (fun _ _=>rfl) fun B c hB hBn=>?_))))))))
 obtain ⟨M1,hM1⟩:∃M1,Ax M m (.map (some (B,c)) (FM E))=M1:=⟨_,rfl⟩
 rw [hM1];have h1b:M1 b=some (.cells 68 [mD m]):=by rw [←hM1,GT hbm];exact hr.cell
 have h1m:M1 m=some (.map (some (B,c)) (FM E)):=by rw [←hM1,Dx]
 have h1s:∀p∈E,M1 p.2=some (.map none (Eq (lk p.2))):=fun p hp=>by rw [←hM1,GT (hpm p hp)];exact hr.sub p hp
 refine AI (AB Z Z ?_)
 first | refine J (KL Z Z) ?_ | refine J (KJ Z Z) ?_ | refine J (KM Z Z) ?_ | refine J (KK Z Z) ?_
 first | refine J (CE rfl Au Z Z Z) ?_ | refine J (CG rfl Au Z Z Z) ?_ | refine J (CI rfl Au Z Z Z) ?_ | refine J (CF rfl Au Z Z Z) ?_ | refine J (CD rfl Au Z Z Z) ?_
 refine J (KI (f:=40) Z Z (h1b) rfl DH rfl) (U (Cz 21 (f:=40) Z Z (h1m) rfl Ec Z Z Z Z) (AG (DQ (Ky (α:=List Nat×List Lw×(Nat ->Hd)×(Nat ->List Nat)×MF) (fun q=>⟨81,[(0,.d (pD b 0)),(2,.d (mD x7)),(7,(.own 20 0 n)),(19,(.ptr 21 0 0))],[(20,[.rowD 49 1 (rowH n q.2.2.1 q.2.2.2.1)]),(21,[.iter 40 m c q.1]),(40,[.multi M1]),(7,[.multi M7]),(50,[.multi q.2.2.2.2])]⟩) (fun q=>(q.2.1++(BP (eE E) B q.1).flatMap (Bm lk)).Perm ((eE E).flatMap (Bm lk))∧Fh q.2.2.2.2 n q.2.2.1 q.2.2.2.1∧DP w q.2.1 q.2.2.2.1) (fun q=>(BP (eE E) B q.1).length) (([],[],(fun _=>none),(fun _=> []),fun _=>none)) (⟨by show ([]++(BP (eE E) B []).flatMap _).Perm _;rw [DJ (by simpa [AU] using hB)];exact List.Perm.refl _,Fh.zero n,DP.zero w⟩) (Df hF [20,21,40,7,50] Z Z ⟨rfl,rfl,rfl,rfl,trivial⟩) ?_))));rintro ⟨seen,acc,hs,L,M5⟩ ⟨hP,hN,hA⟩;dsimp only at hP hN hA⊢;refine AF (AI (FZ (eE E) Z Z Z (h1m) rfl (fun hl20=>?_) (fun j20 b20 k20 v20 hm20 hb20 hB20 hp20=>⟨_,rfl,?_⟩)))
 ·rw [hl20] at hP;refine DZ 40 m rfl h1m rfl ?_;rw [show Ax M1 m (.map none (FM E))=M by rw [←hM1,C7];exact F4 hr.top]
  first | refine J (Dk Z Z Z) ?_ | refine J (Dj Z Z Z) ?_
  refine AG (AF (IZ Z Z (JB (AF (AF ?_)))));have hPK:acc.Perm w.K:=(show acc.Perm _ by simpa using hP).trans hperm;have hLl:∀i,(L i).length≤1048576:=fun i=>Nat.le_trans (hA.len i) (by rw [hPK.length_eq];omega);rw [←OR L] at hN⊢;refine AI (AB Z Z ?_)
  first | refine J (H5 rfl Try.underlying101 rfl) ?_ | refine J (Du Z Z Try.underlying101 rfl) ?_ | refine J (HZ rfl Try.underlying101 rfl) ?_ | refine J (H4 rfl Try.underlying101 rfl) ?_ | refine J (HY rfl Try.underlying101 rfl) ?_ | refine J (G8 rfl Try.underlying101 rfl) ?_
  refine AB Z Z (AG (DQ (Ky (α:=Nat×MF×(Nat ->Hd)) (fun q=>⟨81,[(7,(.own 20 0 n)),(61,(.own 20 0 n)),(62,(.d (natD n))),(63,(.d (natD q.1)))],[(20,[.rowD 49 1 (rowH n q.2.2 (KA L q.1))]),(40,[.multi M]),(7,[.multi M7]),(50,[.multi q.2.1])]⟩) (fun q=>q.1≤n∧Fh q.2.1 n q.2.2 (KA L q.1)) (fun q=>n - q.1) ((0,M5,hs)) (⟨Nat.zero_le _,hN⟩) (Df hF [20,40,7,50] Z Z ⟨rfl,rfl,rfl,rfl,trivial⟩) ?_)));rintro ⟨i,M6,hs⟩ ⟨hi,hr6⟩;dsimp only at hi hr6⊢;refine AF (AI ?_)
  first | refine J (JC Z Z Z) ?_ | refine J (JA Z Z Z) ?_
  refine AG (AF ?_)
  first | refine BF rfl (fun h64=>?_) (fun h64=>?_) | refine D9 rfl (fun h64=>?_) (fun h64=>?_)
  ·refine C9 (AF (DQ (AF ?_)));have hic:i<n:=B9 h64;have hat:=hr6.at_ i hic;have hcl2:=hLl i;rw [Iw] at hat;have hget:=FT (hs:=hs) (ls:=KA L i) hic;rw [Iw] at hget;refine AI (AB Z Z (AE Z Z (AG (AF (AI (AB Z Z (AB Z Z ?_)))))))
   first | refine J (Dy (i) Z Z (rfl) (hic) Try.underlying101 rfl CM rfl) ?_ | refine J (Dz (i) Z Z (rfl) (hic) rfl Try.underlying101 CM rfl) ?_
   first | refine J (A9 Z Z Ad rfl) ?_ | refine J (A7 Z Z Z Ad rfl) ?_ | refine J (A8 Z Z (hget) rfl Ad rfl) ?_
   rcases hd_two (hs i) with hh | ⟨b1,c1,hh⟩<;>rw [hh] at hat hget⊢
   ·refine U (Lh Nn Z Z Z) (AG (AI ?_));have h0:L i=[]:=List.map_eq_nil_iff.1 hat;have hcst:KA L i=KA L (i+1):=by rw [←HS,h0,OK];exact (Cb (by rw [Iw,h0])).symm
    refine AB Z Z (AB Z Z (AB Z Z (AB Z Z ?_)))
    first | refine J (Dy (i) Z Z (rfl) (hic) Try.underlying101 rfl CM rfl) ?_ | refine J (Dz (i) Z Z (rfl) (hic) rfl Try.underlying101 CM rfl) ?_
    first | refine J (A9 Z Z Ad rfl) ?_ | refine J (A7 Z Z Z Ad rfl) ?_ | refine J (A8 Z Z (hget) rfl Ad rfl) ?_
    refine U (I0 MU rfl [] trivial Z Z Z Z Z Z Z Z Z) ?_
    first | refine J (Dy (i) Z Z (rfl) (hic) Try.underlying101 rfl CM rfl) ?_ | refine J (Dz (i) Z Z (rfl) (hic) rfl Try.underlying101 CM rfl) ?_
    refine U (BX Z Z Z Z Z (by rw [DF];exact hic) (Gr (h:=none) (l:=[])) rfl CM) (AG (AI (J (BY Z Z (IntWalk.i64_in _ (by omega)) rfl) (AB Z Z (AG ?_)))));exact ⟨(i+1,M6,hs),⟨hic,by rw [←hcst];exact hr6⟩,by show n - (i+1)<n - i;omega,Df hF [20,40,7,50] rfl (by rw [Cb hh,Cb (show KA L i i=[] by rw [Iw,h0]),hcst];rfl) ⟨rfl,rfl,rfl,rfl,trivial⟩⟩
   ·refine U (Lg (f:=50) Nn ((L i).map Int.ofNat) (by rw [List.length_map];omega) Z Z Z hat.2 (ofN_map _) (by rw [List.length_map]) Z Z) (AG (AI ?_));have hrc:(L i).length≤c1:=by have:=hat.1;rwa [List.length_map] at this
    have hcp:=(Kw hrc hcl2 M6 b1).by [(40,50)] rfl;rw [Hq];refine AB Z Z (AB Z Z (AB Z Z (AB Z Z ?_)))
    first | refine J (Dy (i) Z Z (rfl) (hic) Try.underlying101 rfl CM rfl) ?_ | refine J (Dz (i) Z Z (rfl) (hic) rfl Try.underlying101 CM rfl) ?_
    first | refine J (A9 Z Z Ad rfl) ?_ | refine J (A7 Z Z Z Ad rfl) ?_ | refine J (A8 Z Z (hget) rfl Ad rfl) ?_
    refine U (I0 hcp rfl [50] ⟨rfl,trivial⟩ Z Z Z Z Z Z Z Z Z) ?_
    first | refine J (Dy (i) Z Z (rfl) (hic) Try.underlying101 rfl CM rfl) ?_ | refine J (Dz (i) Z Z (rfl) (hic) rfl Try.underlying101 CM rfl) ?_
    refine U (BX Z Z Z Z Z (by rw [DF];exact hic) (Gr (h:=some (b1,c1)) (l:=FH (L i))) rfl CM) (AG (AI (J (BY Z Z (IntWalk.i64_in _ (by omega)) rfl) (AB Z Z (AG ?_)))));exact ⟨(i+1,Ax M6 b1 (.row 3 1 c1 ((FH (L i)).map natD)),hs),⟨hic,by have:=hr6.put hic hh (Nat.le_trans (cptS_le _) hrc);rw [HS] at this;exact this⟩,by show n - (i+1)<n - i;omega,Df hF [20,40,7,50] rfl (by rw [Cb hh,HS,C7];rfl) ⟨rfl,rfl,rfl,rfl,trivial⟩⟩
  ·refine JB (AF ?_);have hin:i=n:=by have:=h64;omega
   subst hin;have hdg:grF i (KA L i)=depG w:=by rw [cdD_end];unfold depG;rw [hn];exact List.map_congr_left fun j _=>hA.fin hw hPK j
   refine O0 20 0 50 ((depG w).map natsD) Z Z Z Z Z (by rw [←hdg,List.length_map,G4,DF]) (by rw [←hdg];exact hr6.melt) ⟨J2 _ _ _,one_gr _⟩ rfl (E8 (emb:=natsD) 7 20 (depG w) Z Z Z (by rw [←hdg,G4]) Z Z Z (AI (AB Z Z (AE Z Z (AG (B3 ?_))))));exact ⟨_,[40,7],_,BO rfl,rfl,rfl,rfl,rfl⟩
 ·first | refine J (Dk Z Z Z) ?_ | refine J (Dj Z Z Z) ?_
  refine AG (AF (GS Z Z (C9 (DQ (AF (AI (J (DC (eE E) j20 b20 Z Z Z (h1m) hm20 hb20 rfl) ?_)))))))
  first | refine J (Dk Z Z Z) ?_ | refine J (Dj Z Z Z) ?_
  first | refine J (Dk Z Z Z) ?_ | refine J (Dj Z Z Z) ?_
  refine AE Z Z (AE Z Z (AG (AF ?_)));obtain ⟨hd,hpe,hve⟩:=Ji hm20;subst hve;have hkR:k20∈w.R:=(hl.ks k20).1 (List.mem_map_of_mem (f:=Prod.fst) hpe);refine DN 40 hd rfl (h1s _ hpe) (fun _ _=>rfl) fun B2 c2 hB2 hBn2=>?_
  obtain ⟨M2,hM2⟩:∃M2,Ax M1 hd (.map (some (B2,c2)) (Eq (lk hd)))=M2:=⟨_,rfl⟩
  rw [hM2];have h2h:M2 hd=some (.map (some (B2,c2)) (Eq (lk hd))):=by rw [←hM2,Dx]
  refine AI (AB Z Z (U (Cz 22 (f:=40) Z Z (h2h) rfl Kf Z Z Z Z) (AG (DQ (Ky (α:=List Nat×List Lw×(Nat ->Hd)×(Nat ->List Nat)×MF) (fun q=>⟨81,[(0,.d (pD b 0)),(2,.d (mD x7)),(7,(.own 20 0 n)),(8,(.d (AP k20))),(19,(.ptr 21 0 0)),(26,(.ptr 22 0 0))],[(20,[.rowD 49 1 (rowH n q.2.2.1 q.2.2.2.1)]),(21,[.iter 40 m c (seen++ [b20])]),(22,[.iter 40 hd c2 q.1]),(40,[.multi M2]),(7,[.multi M7]),(50,[.multi q.2.2.2.2])]⟩) (fun q=>(q.2.1++((BP (Dd (lk hd)) B2 q.1).map (fun x=>(⟨k20,x.1.t,x.1.r⟩:Lw))++(BP (eE E) B (seen++ [b20])).flatMap (Bm lk))).Perm ((eE E).flatMap (Bm lk))∧Fh q.2.2.2.2 n q.2.2.1 q.2.2.2.1∧DP w q.2.1 q.2.2.2.1) (fun q=>(BP (Dd (lk hd)) B2 q.1).length) (([],acc,hs,L,M5)) (⟨by show (acc++((BP (Dd (lk hd)) B2 []).map _++_)).Perm _;rw [DJ (by simpa [AU] using hB2)];exact LG hP hp20 (GK lk k20 hd),hN,hA⟩) (Df hF [20,21,22,40,7,50] Z Z ⟨rfl,rfl,rfl,rfl,rfl,rfl,trivial⟩) ?_)))));rintro ⟨seen2,acc2,hs2,L2,M52⟩ ⟨hP2,hN2,hA2⟩;dsimp only at hP2 hN2 hA2⊢;refine AF (AI (FZ (Dd (lk hd)) Z Z Z (h2h) rfl (fun hl27=>?_) (fun j27 b27 k27 v27 hm27 hb27 hB27 hp27=>⟨_,rfl,?_⟩)))
  ·rw [hl27] at hP2;refine DZ 40 hd rfl h2h rfl ?_;rw [show Ax M2 hd (.map none (Eq (lk hd)))=M1 by rw [←hM2,C7];exact F4 (h1s _ hpe)]
   first | refine J (Dk Z Z Z) ?_ | refine J (Dj Z Z Z) ?_
   refine AG (AF (IZ Z Z (JB ?_)));exact ⟨(seen++ [b20],acc2,hs2,L2,M52),⟨by simpa using hP2,hN2,hA2⟩,by show (BP (eE E) B (seen++ [b20])).length<(BP (eE E) B seen).length;rw [hp20.length_eq];exact Nat.lt_succ_self _,Df hF [20,21,40,7,50] rfl (rfl) ⟨rfl,rfl,rfl,rfl,trivial⟩⟩
  ·first | refine J (Dk Z Z Z) ?_ | refine J (Dj Z Z Z) ?_
   refine AG (AF (GS Z Z (C9 (DQ (AF (AI (J (DC (Dd (lk hd)) j27 b27 Z Z Z (h2h) hm27 hb27 rfl) ?_)))))))
   first | refine J (Dk Z Z Z) ?_ | refine J (Dj Z Z Z) ?_
   refine U (BR 23 Mh Z Z Z Z) (U (Gb Z Z Z Z Z Z Z sz39) (AG (AF ?_)));have hlK:(⟨k20,k27.t,k27.r⟩:Lw)∈w.K:=(hl.ls _ hpe k27).1 (Nk hm27);have hrR:k27.r∈w.R:=(hw.lk _ hlK).2.1;have hik:idx w k20<n:=by rw [←hn];exact FA hw hkR
   have hir:idx w k27.r<n:=by rw [←hn];exact FA hw hrR
   refine AI ?_
   first | refine J (CE rfl I2 Z Z Z) ?_ | refine J (CG rfl I2 Z Z Z) ?_ | refine J (CI rfl I2 Z Z Z) ?_ | refine J (CF rfl I2 Z Z Z) ?_ | refine J (CD rfl I2 Z Z Z) ?_
   first | refine J (A9 Z Z Cx rfl) ?_ | refine J (A7 Z Z Z Cx rfl) ?_ | refine J (A8 Z Z (rfl) rfl Cx rfl) ?_
   first | refine J (Dl Z Z Z) ?_ | refine J (Ds Z Z Z) ?_ | refine J (Dg Z Z Z) ?_ | refine J (Dm Try.underlying3 Z Z Z) ?_ | refine J (Dp Try.underlying3 Z Z Z) ?_ | refine J (Do Try.underlying3 Z Z) ?_ | refine J (Dh Try.underlying3 Z Z) ?_ | refine J (Dr Try.underlying3 Z Z) ?_ | refine J (Dn Try.underlying3 Z Z Z) ?_ | refine J (Dq Try.underlying3 Z Z) ?_
   refine AB Z Z ?_
   first | refine DI 34 rfl (fun h34=>?_) (fun h34=>?_) | refine Bu 34 rfl (fun h34=>?_) (fun h34=>?_)
   ·refine AT Z Z Z (AB Z Z (AT Z Z Z (AB Z Z (AT Z Z Z (J (JG (f:=7) O k20 0 (idx w k20) Z Z h7 rfl GW F6 za3 (hO _ hkR) rfl) (AT Z Z Z (AB Z Z (AT Z Z Z ?_))))))))
    first | refine J (CE rfl B7 Z Z Z) ?_ | refine J (CG rfl B7 Z Z Z) ?_ | refine J (CI rfl B7 Z Z Z) ?_ | refine J (CF rfl B7 Z Z Z) ?_ | refine J (CD rfl B7 Z Z Z) ?_
    refine AT Z Z Z ?_
    first | refine J (A9 Z Z A4 rfl) ?_ | refine J (A7 Z Z Z A4 rfl) ?_ | refine J (A8 Z Z (rfl) rfl A4 rfl) ?_
    refine AT Z Z Z (J (JG (f:=7) O k27.r 0 (idx w k27.r) Z Z h7 rfl GW F6 za3 (hO _ hrR) rfl) (AT Z Z Z ?_))
    first | refine J (CN Z Z Z) ?_ | refine J (Md Z Z Z) ?_ | refine J (BI Z Z Z) ?_ | refine J (BV Try.underlying3 Z Z Z) ?_ | refine J (BT Try.underlying3 Z Z Z) ?_ | refine J (st_neqN Try.underlying3 Z Z) ?_ | refine J (st_neqPr Try.underlying3 Z Z) ?_ | refine J (st_neqMz Try.underlying3 Z Z) ?_ | refine J (BU Try.underlying3 Z Z Z) ?_ | refine J (st_neqFN Try.underlying3 Z Z) ?_
    refine J (GC Z Z Z Z) (AG ?_)
    first | refine BF rfl (fun h43=>?_) (fun h43=>?_) | refine D9 rfl (fun h43=>?_) (fun h43=>?_)
    ·have hne:idx w k20≠idx w k27.r:=fun e=>h43 (congrArg Int.ofNat e);have hal:acc2.length≤1000000:=by have h1:=hP2.length_eq;rw [hperm.length_eq,List.length_append] at h1;omega
     have hln:=hA2.len (idx w k20);refine BK [[],[],[],[1,2],[],[],[],[5,6],[4,5,6,7],[4,5,6,7,8],[],[],[11],[10,11,12],[10,11,12,13],[4,5,6,7,8,9,10,11,12,13,14],[0,1,2,3,4,5,6,7,8,9,10,11,12,13,14,15],[0,1,2,3,4,5,6,7,8,9,10,11,12,13,14,15,16]] mixed rfl (MP ?_)
     first | refine AN [7] [] Z Z (fun _=>AD (CA Z Z)) ?_ | refine AQ [7] Z Z (fun _=>AD (CA Z Z)) ?_
     first | refine AN [2] [] Z Z (fun _=>AD (CA Z Z)) ?_ | refine AQ [2] Z Z (fun _=>AD (CA Z Z)) ?_
     first | refine AN [8] [] Z Z (fun _=>AD (CA Z Z)) ?_ | refine AQ [8] Z Z (fun _=>AD (CA Z Z)) ?_
     refine AN [45,46] [7] Z Z (fun _=>AD (JG (f:=7) O k20 0 (idx w k20) Z Z h7 rfl GW F6 za3 (hO _ hkR) rfl)) ?_
     first | refine AN [7] [] Z Z (fun _=>AD (CA Z Z)) ?_ | refine AQ [7] Z Z (fun _=>AD (CA Z Z)) ?_
     first | refine AN [2] [] Z Z (fun _=>AD (CA Z Z)) ?_ | refine AQ [2] Z Z (fun _=>AD (CA Z Z)) ?_
     first | refine AN [8] [] Z Z (fun _=>AD (CA Z Z)) ?_ | refine AQ [8] Z Z (fun _=>AD (CA Z Z)) ?_
     refine AN [49,50] [7] Z Z (fun _=>AD (JG (f:=7) O k20 0 (idx w k20) Z Z h7 rfl GW F6 za3 (hO _ hkR) rfl)) ?_
     first | refine AN [48,51] [20] Z Z (fun _=>AD (Dy (idx w k20) Z Z (rfl) (hik) Try.underlying101 rfl CM rfl)) ?_ | refine AN [48,51] [20] Z Z (fun _=>AD (Dz (idx w k20) Z Z (rfl) (hik) rfl Try.underlying101 CM rfl)) ?_
     first | refine AN [52] [20] Z Z (fun _=>AD (A9 Z Z Ad rfl)) ?_ | refine AN [52] [20] Z Z (fun _=>AD (A7 Z Z Z Ad rfl)) ?_ | refine AN [52] [20] Z Z (fun _=>AD (A8 Z Z (FT hik) rfl Ad rfl)) ?_
     first | refine AN [2] [] Z Z (fun _=>AD (CA Z Z)) ?_ | refine AQ [2] Z Z (fun _=>AD (CA Z Z)) ?_
     first | refine AN [10] [] Z Z (fun _=>AD (CE rfl B7 Z Z Z)) ?_ | refine AQ [10] Z Z (fun _=>AD (CE rfl B7 Z Z Z)) ?_ | refine AN [10] [] Z Z (fun _=>AD (CG rfl B7 Z Z Z)) ?_ | refine AQ [10] Z Z (fun _=>AD (CG rfl B7 Z Z Z)) ?_ | refine AN [10] [] Z Z (fun _=>AD (CI rfl B7 Z Z Z)) ?_ | refine AQ [10] Z Z (fun _=>AD (CI rfl B7 Z Z Z)) ?_ | refine AN [10] [] Z Z (fun _=>AD (CF rfl B7 Z Z Z)) ?_ | refine AQ [10] Z Z (fun _=>AD (CF rfl B7 Z Z Z)) ?_ | refine AN [10] [] Z Z (fun _=>AD (CD rfl B7 Z Z Z)) ?_ | refine AQ [10] Z Z (fun _=>AD (CD rfl B7 Z Z Z)) ?_
     first | refine AN [55] [23] Z Z (fun _=>AD (A9 Z Z A4 rfl)) ?_ | refine AN [55] [23] Z Z (fun _=>AD (A7 Z Z Z A4 rfl)) ?_ | refine AN [55] [23] Z Z (fun _=>AD (A8 Z Z (rfl) rfl A4 rfl)) ?_
     refine AN [54,56] [7] Z Z (fun _=>AD (JG (f:=7) O k27.r 0 (idx w k27.r) Z Z h7 rfl GW F6 za3 (hO _ hrR) rfl)) (HR [57] [24] [(58,_)] Z Z (fun _=>D4 (Mc 24 Ia Z Z Z Z Z Z Z Z)) (.inr ⟨58,_,rfl,rfl,rfl,rfl,rfl⟩) Z Z Z Z Z (HR [53,58] [50,24,60] [(59,_)] Z Z (fun _=>D4 (G0 53 60 50 (hN2.at_ (idx w k20) hik) Z Z (by rw [List.length_map]) Z Z Z Z Z (Ce (emb:=natD) (L2 (idx w k20)) [idx w k27.r] Z Z Z Z Z Z Z Z Ia (by show ((L2 (idx w k20)).length+1)*8≤_;omega) Z Z Z Z))) (.inr ⟨59,_,rfl,rfl,rfl,rfl,rfl⟩) Z Z Z Z Z (MR 16 Z Z Z (Is 17 Z Z (E2 59 60 50 hF Z Z Z (by rw [List.length_map]) (by simp) Z Z Z Z Z Z Z (fun _ _=>rfl) fun b1 c1 hb1 hc1=>?_)))));have hN3:=hN2.app hik hb1 hc1
     first | refine J (Dy (idx w k20) Z Z (rfl) (hik) Try.underlying101 rfl CM rfl) ?_ | refine J (Dz (idx w k20) Z Z (rfl) (hik) rfl Try.underlying101 CM rfl) ?_
     refine AG ⟨rfl,?_⟩;refine Is 18 Z Z (U (BX Z Z Z Z Z (by rw [DF];exact hik) (Gr (h:=some (b1,c1))) rfl CM) (AG ⟨rfl,?_⟩));refine MQ ?_;exact ⟨(seen2++ [b27],acc2++ [⟨k20,k27.t,k27.r⟩],A5 hs2 (idx w k20) (some (b1,c1)),_,_),⟨FV hP2 hp27,hN3,hA2.hit (l:=⟨k20,k27.t,k27.r⟩) h34 hne⟩,by show (BP (Dd (lk hd)) B2 (seen2++ [b27])).length<(BP (Dd (lk hd)) B2 seen2).length;rw [hp27.length_eq];exact Nat.lt_succ_self _,Df hF [20,21,22,40,7,50] rfl (rfl) ⟨rfl,rfl,rfl,rfl,rfl,rfl,trivial⟩⟩
    ·refine C9 ?_;exact ⟨(seen2++ [b27],acc2++ [⟨k20,k27.t,k27.r⟩],hs2,L2,M52),⟨FV hP2 hp27,hN2,hA2.skip (l:=⟨k20,k27.t,k27.r⟩) (fun hh=>h43 (fun e=>hh.2 (Int.ofNat.inj e)))⟩,by show (BP (Dd (lk hd)) B2 (seen2++ [b27])).length<(BP (Dd (lk hd)) B2 seen2).length;rw [hp27.length_eq];exact Nat.lt_succ_self _,Df hF [20,21,22,40,7,50] rfl (rfl) ⟨rfl,rfl,rfl,rfl,rfl,rfl,trivial⟩⟩
   ·refine Ee Z Z Z Z (Ee Z Z Z Z (Ee Z Z Z Z ?_));refine Ee Z Z Z Z (Ee Z Z Z Z (Ee Z Z Z Z (Ee Z Z Z Z (Ee Z Z Z Z (J (Me Z Z Z Z) (AG (IZ Z Z (C9 ?_))))))));exact ⟨(seen2++ [b27],acc2++ [⟨k20,k27.t,k27.r⟩],hs2,L2,M52),⟨FV hP2 hp27,hN2,hA2.skip (l:=⟨k20,k27.t,k27.r⟩) (fun hh=>h34 hh.1)⟩,by show (BP (Dd (lk hd)) B2 (seen2++ [b27])).length<(BP (Dd (lk hd)) B2 seen2).length;rw [hp27.length_eq];exact Nat.lt_succ_self _,Df hF [20,21,22,40,7,50] rfl (rfl) ⟨rfl,rfl,rfl,rfl,rfl,rfl,trivial⟩⟩
abbrev OA (g:Grp):D:= .agg [stsD g.m,natsD g.a]
abbrev LU (l:List Grp):D:= .sl none (l.map OA)
def CU (ord:List Nat) (i:Nat):Int:=if i∈ord then (ord.idxOf i:Int) else -1
theorem F1 {ord:List Nat} {i:Nat}:CU ord i<0↔i∉ord:=by
 unfold CU
 split
 ·rename_i h;simp [h]
 ·rename_i h;simp [h]
theorem N8:CU [] =fun _=> -1:=by funext i;simp [CU]
theorem MG {ord:List Nat} {i:Nat} (h:i∉ord):A5 (CU ord) i (ord.length:Int)=CU (ord++ [i]):=by
 funext j
 unfold CU A5;show (if j=i then (ord.length:Int) else (if j∈ord then (ord.idxOf j:Int) else -1))=if j∈ord++ [i] then ((ord++ [i]).idxOf j:Int) else -1
 by_cases e:j=i
 ·subst e;rw [if_pos rfl,if_pos (by simp),List.idxOf_append,if_neg h]
  simp
 ·rw [if_neg e]
  by_cases hj:j∈ord
  ·rw [if_pos hj,if_pos (by simp [hj]),List.idxOf_append,if_pos hj]
  ·rw [if_neg hj,if_neg (by simp [hj,e])]
theorem MN (w:Ws) (ord:List Nat) (i:Nat):grpS w (ord++ [i])=grpS w ord++ [⟨(parts w).getD i [],Ff (depL w) ord i ord.length⟩]:=by
 unfold grpS;rw [List.length_append,List.length_singleton,List.range_succ,List.map_append]
 have hg:∀k,k<ord.length ->(ord++ [i]).getD k 0=ord.getD k 0:=fun k hk=>by
  rw [List.getD_eq_getElem?_getD,List.getD_eq_getElem?_getD,List.getElem?_append_left hk]
 have ha:∀j p,p≤ord.length ->Ff (depL w) (ord++ [i]) j p=Ff (depL w) ord j p:=fun j p hp=>by
  unfold Ff;exact List.filter_congr fun k hk=>by rw [hg k (by have:=List.mem_range.1 hk;omega)]
 congr 1
 ·refine List.map_congr_left fun p hp=>?_;have hp:=List.mem_range.1 hp;rw [hg p hp,ha _ p (Nat.le_of_lt hp)]
 ·simp only [List.map_cons,List.map_nil];have:(ord++ [i]).getD ord.length 0=i:=by simp [List.getD_eq_getElem?_getD]
  rw [this,ha _ _ (Nat.le_refl _)]
theorem Lq {l m:List Nat} (h:l.Nodup) (hm:m.Pairwise (· < ·)) (he:∀x,x∈l↔x∈m):Bo l=m:=by
 have h1:=(DV l).nodup_iff.2 h;refine Gm ?_ hm fun x=>((DV l).mem_iff).trans (he x);exact (List.Pairwise.and (FQ l) h1).imp fun ⟨h2,h3⟩=>by omega
theorem KC {w:Ws} {ord:List Nat} {i:Nat} (hnd:ord.Nodup) (hd:∀k∈depL w i,k∈ord):Bo ((depL w i).map ord.idxOf)=Ff (depL w) ord i ord.length:=by
 have hat:∀k∈ord,ord[ord.idxOf k]?=some k:=fun k hk=>by
  have hlt:=List.idxOf_lt_length_iff.2 hk;rw [List.getElem?_eq_getElem hlt,List.getElem_idxOf hlt]
 refine Lq ?_ (List.Pairwise.sublist List.filter_sublist List.pairwise_lt_range) fun p=>?_
 ·rw [List.nodup_iff_pairwise_ne,List.pairwise_map];refine List.Pairwise.imp_of_mem (fun {a b} ha hb hab e=>?_) (Fd w i);have h1:=hat a (hd a ha);rw [e,hat b (hd b hb)] at h1;injection h1 with h1
  omega
 ·unfold Ff;rw [List.mem_map,List.mem_filter,List.mem_range,List.contains_iff_mem]
  constructor
  ·rintro ⟨k,hk,rfl⟩;have h1:=hat k (hd k hk);refine ⟨(List.getElem?_eq_some_iff.1 h1).1,?_⟩;rw [List.getD_eq_getElem?_getD,h1];exact hk
  ·rintro ⟨hp,hk⟩;refine ⟨_,hk,?_⟩;have h2:ord[p]?=some (ord.getD p 0):=by rw [List.getD_eq_getElem?_getD,List.getElem?_eq_getElem hp];rfl
   have h3:=hat _ (hd _ hk);have hn:=List.nodup_iff_pairwise_ne.1 hnd;have hlt:=(List.getElem?_eq_some_iff.1 h3).1;refine Classical.byContradiction fun hne=>?_;have e1:=(List.getElem?_eq_some_iff.1 h3).2;have e2:=(List.getElem?_eq_some_iff.1 h2).2;rcases Nat.lt_or_gt_of_ne hne with h4 | h4
   ·exact (List.pairwise_iff_getElem.1 hn _ _ hlt hp h4) (e1.trans e2.symm)
   ·exact (List.pairwise_iff_getElem.1 hn _ _ hp hlt h4) (e2.trans e1.symm)
abbrev HN (n:Nat) (f:Nat ->Int):Hp:=[(930,[.blk 49 [.own 931 0 n]]),(931,[.rowD 3 1 (JV n f)])]
theorem ord1_c (n:Nat) (f:Nat ->Int) (k:Nat) (hk:k<n):AO Try.prog 59 [.d (natD k),.ptr 930 0 0] (HN n f) fun r H'=>r= .d (CS (decide (f k<0)))∧H'=HN n f:=by
 refine DR Try.func59 Z Z Try.ntmps59 Z Z Z fun F hF=>(AF (AI (AE Z Z (AG (AF (AI ?_))))))
 first | refine J (A9 Z Z Ad rfl) ?_ | refine J (A7 Z Z Z Ad rfl) ?_ | refine J (A8 Z Z (rfl) rfl Ad rfl) ?_
 refine AB Z Z ?_
 first | refine J (Dy (k) Z Z (rfl) (hk) Try.underlying49 rfl EC rfl) ?_ | refine J (Dz (k) Z Z (rfl) (hk) rfl Try.underlying49 EC rfl) ?_
 first | refine J (A9 Z Z Cx rfl) ?_ | refine J (A7 Z Z Z Cx rfl) ?_ | refine J (A8 Z Z (Gq hk) rfl Cx rfl) ?_
 first | refine J (JC Z Z Z) ?_ | refine J (JA Z Z Z) ?_
 refine AE Z Z (AG (B3 ?_));exact ⟨_,[930,931],_,BO rfl,rfl,rfl,rfl,rfl⟩
def ixN (f:Nat ->Int) (l:List Nat):Int:=match l.findIdx? (fun k=>decide (f k<0)) with
 | some i=>(i:Int)
 | none=> -1
theorem ixN_at {f:Nat ->Int} {l:List Nat} {j:Nat} (hj:j<l.length) (h0:∀i,i<j ->¬f (CC l i)<0) (h:f (CC l j)<0):ixN f l=(j:Int):=by
 have:l.findIdx? (fun k=>decide (f k<0))=some j:=by
  rw [List.findIdx?_eq_some_iff_getElem];refine ⟨hj,by rw [←Bl hj];simpa using h,fun i hi=>?_⟩;have:=h0 i hi;rw [Bl (by omega)] at this
  simpa using this
 unfold ixN;rw [this]
theorem ixN_no {f:Nat ->Int} {l:List Nat} (h0:∀i,i<l.length ->¬f (CC l i)<0):ixN f l= -1:=by
 have:l.findIdx? (fun k=>decide (f k<0))=none:=by
  rw [List.findIdx?_eq_none_iff];intro x hx;obtain ⟨i,hi,rfl⟩:=List.getElem_of_mem hx;have:=h0 i hi;rw [Bl hi] at this
  simpa using this
 unfold ixN;rw [this]
abbrev o1A:AV:= .fn 59 [.ptr 930 0 0]
theorem idxF_c (n:Nat) (f:Nat ->Int) (l:List Nat) (hl:∀k∈l,k<n) (hll:l.length≤1000000):AO Try.prog 74 [.d (natsD l),o1A] (HN n f) fun r H'=>r= .d (D2 (ixN f l))∧H'=HN n f:=by
 refine DR Try.func74 Z Z Try.ntmps74 Z Z Z fun F hF=>(AF (AI (AE Z Z (AG ?_))));refine AF (AF (AI (AB Z Z (J (Du rfl (List.length_map ..) Try.underlying49 rfl) (AB Z Z (AG (DQ (O1 (α:=Nat) (fun j=>⟨19,[(0,.d (natsD l)),(1,o1A),(7,(.d (natD l.length))),(8,(.d (natD j)))],HN n f⟩) (fun j=>j≤l.length∧∀i,i<j ->¬f (CC l i)<0) (fun j=>l.length - j) (0) (⟨Nat.zero_le _,fun i hi=>by omega⟩) (Fx ⟨rfl,rfl,rfl,rfl,trivial⟩) ?_))))))));rintro j ⟨hj,h0⟩;refine AF (AI ?_)
 first | refine J (JC Z Z Z) ?_ | refine J (JA Z Z Z) ?_
 refine AG (AF ?_)
 first | refine BF rfl (fun h9=>?_) (fun h9=>?_) | refine D9 rfl (fun h9=>?_) (fun h9=>?_)
 ·have hjl:j<l.length:=B9 h9;refine C9 (AF (DQ (AF ?_)));refine AI (AB Z Z (AE Z Z (AG (AF (AI (AB Z Z (AB Z Z (AB Z Z ?_))))))))
  first | refine J (Dy (j) Z Z (rfl) (Fa hjl) Try.underlying49 rfl EC rfl) ?_ | refine J (Dz (j) Z Z (rfl) (Fa hjl) rfl Try.underlying49 EC rfl) ?_
  first | refine J (A9 Z Z Cx rfl) ?_ | refine J (A7 Z Z Z Cx rfl) ?_ | refine J (A8 Z Z (rfl) rfl Cx rfl) ?_
  refine U (Lo (ord1_c n f (CC l j) (hl _ (If hjl))) rfl [930,931] ⟨rfl,rfl,trivial⟩ Z Z Z Z Z Z Z Z Z) (AG ?_)
  first | refine BF rfl (fun h16=>?_) (fun h16=>?_) | refine D9 rfl (fun h16=>?_) (fun h16=>?_)
  ·refine AF (AI (AB Z Z (AE Z Z (AG (B3 ?_)))));exact ⟨_,[930,931],_,BO rfl,rfl,rfl,by rw [ixN_at hjl h0 h16],rfl⟩
  ·refine C9 (AI (J (BY Z Z (IntWalk.i64_in _ (by omega)) rfl) (AB Z Z (AG ?_))));exact ⟨j+1,⟨hjl,fun i hi=>by by_cases e:i=j;subst e;exact h16;exact h0 i (by omega)⟩,by show l.length - (j+1)<l.length - j;omega,⟨rfl,rfl,fun _ _=>Has.get (l:=[(0,_),(1,_),(7,_),(8,_)]) ⟨rfl,rfl,rfl,rfl,trivial⟩⟩⟩
 ·refine JB (AF (AI (AE Z Z (AG (B3 ?_)))));exact ⟨_,[930,931],_,BO rfl,rfl,rfl,by rw [ixN_no fun i hi=>h0 i (by have:=h9;omega)],rfl⟩
theorem ixN_any (f:Nat ->Int) (l:List Nat):decide (0≤ixN f l)=decide (∃k∈l,f k<0):=by
 unfold ixN
 cases h:l.findIdx? (fun k=>decide (f k<0)) with
 | some i=>
  obtain ⟨h1,h2,_⟩:=List.findIdx?_eq_some_iff_getElem.1 h;rw [decide_eq_true (show (0:Int)≤(i:Int) by omega),decide_eq_true];exact ⟨_,List.getElem_mem h1,by simpa using h2⟩
 | none=>
  rw [List.findIdx?_eq_none_iff] at h;rw [decide_eq_false (by decide),decide_eq_false];rintro ⟨k,hk,h1⟩;have:=h k hk
  simp at this;omega
theorem contF_c (n:Nat) (f:Nat ->Int) (l:List Nat) (hl:∀k∈l,k<n) (hll:l.length≤1000000):AO Try.prog 58 [.d (natsD l),o1A] (HN n f) fun r H'=>r= .d (CS (decide (∃k∈l,f k<0)))∧H'=HN n f:=by
 refine DR Try.func58 Z Z Try.ntmps58 Z Z Z fun F hF=>(AF (AI (AE Z Z (AG ?_))));refine AF (AI (AB Z Z (AB Z Z (U (I0 (idxF_c n f l hl hll) rfl [930,931] ⟨rfl,rfl,trivial⟩ Z Z Z Z Z Z Z Z Z) (J (Ms Z Z Z) (AE Z Z (AG (B3 ?_))))))));exact ⟨_,[930,931],_,BO rfl,rfl,rfl,by rw [←ixN_any],rfl⟩
theorem OH (w:Ws) (i:Nat):(depL w i).length≤(parts w).length:=by
 unfold depL;exact Nat.le_trans (List.length_filter_le _ _) (Nat.le_of_eq List.length_range)
theorem G6 {w:Ws} {i:Nat} (hi:i<(parts w).length):((depG w).map natsD)[i]?=some (natsD (depL w i)):=by
 rw [List.getElem?_map,depG,List.getElem?_map,List.getElem?_range hi];rfl
theorem FW {w:Ws} {i:Nat} (hi:i<(parts w).length):((parts w).map stsD)[i]?=some (stsD ((parts w).getD i [])):=by
 rw [List.getElem?_map,List.getElem?_eq_getElem hi,List.getD_eq_getElem?_getD,List.getElem?_eq_getElem hi];rfl
theorem rdy_num {dp:Nat ->List Nat} {ord:List Nat} {i:Nat} (h1:CU ord i<0) (h2:¬∃k∈dp i,CU ord k<0):Hf dp ord i=true:=
 Bt.2 ⟨F1.1 h1,fun k hk=>Classical.byContradiction fun h=>h2 ⟨k,hk,F1.2 h⟩⟩
theorem NP {dp:Nat ->List Nat} {ord:List Nat} {i:Nat} (h1:¬CU ord i<0):Hf dp ord i=false:=by
 rw [Bool.eq_false_iff];exact fun h=>h1 (F1.2 (Bt.1 h).1)
theorem NO {dp:Nat ->List Nat} {ord:List Nat} {i:Nat} (h2:∃k∈dp i,CU ord k<0):Hf dp ord i=false:=by
 rw [Bool.eq_false_iff];intro h;obtain ⟨k,hk,h3⟩:=h2;exact F1.1 h3 ((Bt.1 h).2 k hk)
structure H8 (w:Ws) (ord:List Nat):Prop where
 good:Bc (parts w).length (depL w) ord
 run:fSq (parts w).length (depL w) ((parts w).length - ord.length) ord=ordW w
theorem H8.zero (w:Ws):H8 w []:=⟨Bc.nil,rfl⟩
theorem H8.next {w:Ws} {ord:List Nat} (h:H8 w ord) (hl:ord.length<(parts w).length) {i:Nat} (hi:Fv (parts w).length (depL w) ord=some i):H8 w (ord++ [i]):=by
 obtain ⟨h1,h2,h3⟩:=E3 hi;refine ⟨h.good.snoc h1 h2 h3,?_⟩;have hr:=h.run;rw [show (parts w).length - ord.length=((parts w).length - (ord++ [i]).length)+1 by simp;omega] at hr;simp only [fSq,hi] at hr;exact hr
theorem H8.stop {w:Ws} {ord:List Nat} (h:H8 w ord) (hl:ord.length<(parts w).length) (hi:Fv (parts w).length (depL w) ord=none):ordW w=none:=by
 have hr:=h.run;rw [show (parts w).length - ord.length=((parts w).length - ord.length - 1)+1 by omega] at hr;simp only [fSq,hi] at hr;exact hr.symm
theorem H8.fin {w:Ws} {ord:List Nat} (h:H8 w ord) (hl:¬ord.length<(parts w).length):ordW w=some ord:=by
 have hr:=h.run;rw [show (parts w).length - ord.length=0 by omega] at hr;exact hr.symm
theorem gw_none {w:Ws} (h:ordW w=none):groupsW w=[]∧acyW w=false:=by unfold groupsW acyW;rw [h];exact ⟨rfl,rfl⟩
theorem LT {w:Ws} {ord:List Nat} (h:ordW w=some ord):groupsW w=grpS w ord∧acyW w=true:=by unfold groupsW acyW;rw [h];exact ⟨rfl,rfl⟩
theorem Jr (w:Ws) (ord:List Nat):(grpS w ord).length=ord.length:=by simp [grpS]
theorem upd_neg {f:Nat ->Int} {k j:Nat} (hf:∀j,j<k ->f j= -1) (hj:j<k+1):A5 f k (-1) j= -1:=by
 by_cases e:j=k
 ·rw [e];exact Da ..
 ·rw [Dv e];exact hf j (by omega)
set_option maxHeartbeats 2000000 in
theorem Id {M:MF} {b:Nat} {w:Ws} (h:Cv M b w) (hw:CJ w) (hK:w.K.length≤1000000):AO Try.prog 38 [.d (pD b 0)] [(40,[.multi M])] fun r H'=>r= .d (.tup [LU (groupsW w),CS (acyW w)])∧H'=[(40,[.multi M])]:=by
 have hfew:=hw.few
 obtain ⟨n,hn⟩:∃n,(parts w).length=n:=⟨_,rfl⟩
 have hnR:n≤4096:=by rw [←hn];unfold parts;rw [List.length_map];exact Nat.le_trans (List.length_filter_le _ _) hfew
 refine DR Try.func38 Z Z Try.ntmps38 Z Z Z fun F hF=>?_;refine AF (AI (AE Z Z (J7 2 rfl (AE Z Z (AG (AF (AI (AB Z Z ?_))))))));refine BH (L1 (LH h hw hK) rfl [40,6] ⟨rfl,rfl,trivial⟩ Z Z Z Z (fun r H' ⟨O,e1,e2,_⟩=>by subst e1 e2;exact ⟨rfl,rfl,rfl⟩) rfl) rfl ?_;rintro _ ⟨r,H',⟨O,e1,e2,hO⟩,rfl⟩;subst e1 e2;refine AB Z Z ?_
 first | refine J (Dk Z Z Z) ?_ | refine J (Dj Z Z Z) ?_
 first | refine J (Dk Z Z Z) ?_ | refine J (Dj Z Z Z) ?_
 refine AE Z Z (AE Z Z (AG (AF (E7 7 Z Z Z (IY 5 6 7 hF Z Z Z Z Z Z Z Z Z Z (fun _=>rfl) fun x7 _=>?_)))))
 obtain ⟨M7,hM7⟩:∃M7,Ax (fun _=>none) x7 (.map (some (List.range O.length,O.length)) (AU AP natD O))=M7:=⟨_,rfl⟩
 rw [hM7];have h7:M7 x7=some (.map (some (List.range O.length,O.length)) (AU AP natD O)):=by rw [←hM7,Dx]
 refine AI (AB Z Z (AB Z Z (AB Z Z (U (I0 (OG h hw hK hO h7) rfl [40,7] ⟨rfl,rfl,trivial⟩ Z Z Z Z Z Z Z Z Z) (AE Z Z (AG (AF ?_)))))));refine AI (AB Z Z (J (Du rfl ((List.length_map ..).trans hn) Try.underlying79 rfl) (U (I8 931 Ia Z Z Z (by omega) zd3 Z Z Z Z) (U (BR 930 zl49 Z Z Z Z) (U (Gb Z Z Z Z Z Z Z CM) (AG (AF (AF ?_))))))));rw [repI];refine AI ?_
 first | refine J (A9 Z Z Ad rfl) ?_ | refine J (A7 Z Z Z Ad rfl) ?_ | refine J (A8 Z Z (rfl) rfl Ad rfl) ?_
 first | refine J (H5 rfl Try.underlying49 rfl) ?_ | refine J (Du Z Z Try.underlying49 rfl) ?_ | refine J (HZ rfl Try.underlying49 rfl) ?_ | refine J (H4 rfl Try.underlying49 rfl) ?_ | refine J (HY rfl Try.underlying49 rfl) ?_ | refine J (G8 rfl Try.underlying49 rfl) ?_
 refine AB Z Z (AG (DQ (Ky (α:=Nat×(Nat ->Int)) (fun q=>⟨103,[(0,.d (pD b 0)),(4,(.d (Ew (parts w)))),(6,(.d (grD (depG w)))),(7,(.ptr 930 0 0)),(29,(.d (natD n))),(30,(.d (natD q.1)))],(40,[.multi M])::HN n q.2⟩) (fun q=>q.1≤n∧∀j,j<q.1 ->q.2 j= -1) (fun q=>n - q.1) ((0,fun _=>0)) (⟨Nat.zero_le _,fun j hj=>by omega⟩) (Df hF [40,930,931] Z Z ⟨rfl,rfl,rfl,rfl,rfl,rfl,trivial⟩) ?_)));rintro ⟨k,f⟩ ⟨hk,hf⟩;dsimp only at hk hf⊢;refine AF (AI ?_)
 first | refine J (JC Z Z Z) ?_ | refine J (JA Z Z Z) ?_
 refine AG (AF ?_)
 first | refine BF rfl (fun h31=>?_) (fun h31=>?_) | refine D9 rfl (fun h31=>?_) (fun h31=>?_)
 ·refine C9 (AF (DQ (AF ?_)));have hkl:k<n:=B9 h31;refine AI (AB Z Z (AE Z Z (AG (AI ?_))))
  first | refine J (A9 Z Z Ad rfl) ?_ | refine J (A7 Z Z Z Ad rfl) ?_ | refine J (A8 Z Z (rfl) rfl Ad rfl) ?_
  refine AB Z Z ?_
  first | refine J (Dy (k) Z Z (rfl) (hkl) Try.underlying49 rfl EC rfl) ?_ | refine J (Dz (k) Z Z (rfl) (hkl) rfl Try.underlying49 EC rfl) ?_
  refine U (BX Z Z Z Z Z (by rw [JU];exact hkl) JT rfl EC) (AG (AI (J (BY Z Z (IntWalk.i64_in _ (by omega)) rfl) (AB Z Z (AG ?_)))));exact ⟨(k+1,A5 f k (-1)),⟨hkl,fun j hj=>upd_neg hf hj⟩,by show n - (k+1)<n - k;omega,Df hF [40,930,931] rfl (rfl) ⟨rfl,rfl,rfl,rfl,rfl,rfl,trivial⟩⟩
 ·refine JB (AF ?_);have hkn:k=n:=by have:=h31;omega
  subst hkn;have hro:JV k f=JV k (CU []):=by rw [N8];exact List.map_congr_left fun j hj=>by rw [hf j (List.mem_range.1 hj)]
  unfold HN;rw [hro];refine AI (AE Z Z (AG (AF (DQ (LY 9 932 sl47 Z Z Z Z (Ky (α:=List Nat×List Grp) (fun q=>⟨103,[(0,.d (pD b 0)),(4,(.d (Ew (parts w)))),(6,(.d (grD (depG w)))),(7,(.ptr 930 0 0)),(9,(.own 932 0 q.2.length))],(40,[.multi M])::(932,[.rowD 51 2 (q.2.map OA)])::HN k (CU q.1)⟩) (fun q=>H8 w q.1∧q.2=grpS w q.1) (fun q=>k - q.1.length) (([],[])) (⟨H8.zero w,rfl⟩) (Df hF [40,932,930,931] Z Z ⟨rfl,rfl,rfl,rfl,rfl,trivial⟩) ?_))))));rintro ⟨ord,gs⟩ ⟨hI,hgs⟩;dsimp only at hI hgs⊢;refine AF (AF (AI (AB Z Z ?_)))
  first | refine J (H5 rfl Try.underlying47 rfl) ?_ | refine J (Du Z Z Try.underlying47 rfl) ?_ | refine J (HZ rfl Try.underlying47 rfl) ?_ | refine J (H4 rfl Try.underlying47 rfl) ?_ | refine J (HY rfl Try.underlying47 rfl) ?_ | refine J (G8 rfl Try.underlying47 rfl) ?_
  refine AB Z Z (J (Du rfl ((List.length_map ..).trans hn) Try.underlying79 rfl) ?_)
  first | refine J (JC Z Z Z) ?_ | refine J (JA Z Z Z) ?_
  refine AG ?_
  first | refine BF rfl (fun h41=>?_) (fun h41=>?_) | refine D9 rfl (fun h41=>?_) (fun h41=>?_)
  ·refine C9 (DQ (AF ?_));have hgl:gs.length=ord.length:=by rw [hgs,Jr]
   have hlt:gs.length<k:=B9 h41;refine AI (AE Z Z (AG ?_));refine AF (AF (AI (AB Z Z (J (Du rfl ((List.length_map ..).trans hn) Try.underlying79 rfl) (AB Z Z (AG (DQ (Ky (α:=Nat) (fun i=>⟨103,[(0,.d (pD b 0)),(4,(.d (Ew (parts w)))),(6,(.d (grD (depG w)))),(7,(.ptr 930 0 0)),(9,(.own 932 0 gs.length)),(10,(.d (D2 (-1)))),(43,(.d (natD k))),(44,(.d (natD i)))],(40,[.multi M])::(932,[.rowD 51 2 (gs.map OA)])::HN k (CU ord)⟩) (fun i=>i≤k∧∀j,j<i ->Hf (depL w) ord j=false) (fun i=>k - i) (0) (⟨Nat.zero_le _,fun j hj=>by omega⟩) (Df hF [40,932,930,931] Z Z ⟨rfl,rfl,rfl,rfl,rfl,rfl,rfl,rfl,trivial⟩) ?_))))))));rintro i ⟨hi,hnr⟩;refine AF (AI ?_)
   first | refine J (JC Z Z Z) ?_ | refine J (JA Z Z Z) ?_
   refine AG (AF ?_)
   first | refine BF rfl (fun h45=>?_) (fun h45=>?_) | refine D9 rfl (fun h45=>?_) (fun h45=>?_)
   ·refine C9 (AF (DQ (AF ?_)));have hil:i<k:=B9 h45;have hil':i<(parts w).length:=by rw [hn];exact hil
    have hdl:(depL w i).length≤4096:=Nat.le_trans (OH w i) (by omega);refine AI (AB Z Z (AE Z Z (AG (AF (AI ?_)))))
    first | refine J (A9 Z Z Ad rfl) ?_ | refine J (A7 Z Z Z Ad rfl) ?_ | refine J (A8 Z Z (rfl) rfl Ad rfl) ?_
    refine AB Z Z ?_
    first | refine J (Dy (i) Z Z (rfl) (hil) Try.underlying49 rfl EC rfl) ?_ | refine J (Dz (i) Z Z (rfl) (hil) rfl Try.underlying49 EC rfl) ?_
    first | refine J (A9 Z Z Cx rfl) ?_ | refine J (A7 Z Z Z Cx rfl) ?_ | refine J (A8 Z Z (Gq hil) rfl Cx rfl) ?_
    first | refine J (JC Z Z Z) ?_ | refine J (JA Z Z Z) ?_
    refine AB Z Z ?_
    first | refine DI 52 rfl (fun h52=>?_) (fun h52=>?_) | refine Bu 52 rfl (fun h52=>?_) (fun h52=>?_)
    ·refine AT Z Z Z (AB Z Z (AT Z Z Z (AB Z Z (AT Z Z Z ?_))))
     first | refine J (Dy (i) Z Z (rfl) (G6 hil') Try.underlying101 rfl CM rfl) ?_ | refine J (Dz (i) Z Z (rfl) (G6 hil') rfl Try.underlying101 CM rfl) ?_
     refine AT Z Z Z ?_
     first | refine J (A9 Z Z Ad rfl) ?_ | refine J (A7 Z Z Z Ad rfl) ?_ | refine J (A8 Z Z (rfl) rfl Ad rfl) ?_
     refine AT Z Z Z (J (EF Z Z) (AT Z Z Z (U (I0 (contF_c k (CU ord) (depL w i) (fun x hx=>by rw [←hn];exact G5 hx) (by omega)) rfl [930,931] ⟨rfl,rfl,trivial⟩ Z Z Z Z Z Z Z Z Z) (AT Z Z Z ?_))))
     first | refine J (KQ Z Z) ?_ | refine J (BN Z Z) ?_
     refine J (GC Z Z Z Z) (AE Z Z (AG (AF (AI (AB Z Z (AG ?_))))))
     first | refine BF rfl (fun h61=>?_) (fun h61=>?_) | refine D9 rfl (fun h61=>?_) (fun h61=>?_)
     ·refine AF ?_;refine AI (AB Z Z (AE Z Z (AG (JB (AF (AF (AI (AB Z Z ?_))))))))
      first | refine J (JC Z Z Z) ?_ | refine J (JA Z Z Z) ?_
      refine AG (IZ rfl ((decide_eq_false (by omega))) (C9 (AF ?_)));have hrd:=rdy_num h52 h61;have hnx:Fv (parts w).length (depL w) ord=some i:=Ex hil' hrd hnr;obtain ⟨_,hio,hds⟩:=E3 hnx;refine AI (AB Z Z (AB Z Z ?_))
      first | refine J (Dy (i) Z Z (rfl) (FW hil') Try.underlying79 rfl GV rfl) ?_ | refine J (Dz (i) Z Z (rfl) (FW hil') rfl Try.underlying79 GV rfl) ?_
      first | refine J (A9 Z Z CT rfl) ?_ | refine J (A7 Z Z Z CT rfl) ?_ | refine J (A8 Z Z (rfl) rfl CT rfl) ?_
      refine J (EG zl51 pl51 Z Z Z) (U (BR 940 zl51 Z Z Z Z) (U (Gb Z Z Z Z Z Z Z I5) (AG (AF (AF (AI (AB Z Z (AB Z Z ?_))))))))
      first | refine J (Dy (i) Z Z (rfl) (G6 hil') Try.underlying101 rfl CM rfl) ?_ | refine J (Dz (i) Z Z (rfl) (G6 hil') rfl Try.underlying101 CM rfl) ?_
      first | refine J (A9 Z Z Ad rfl) ?_ | refine J (A7 Z Z Z Ad rfl) ?_ | refine J (A8 Z Z (rfl) rfl Ad rfl) ?_
      refine J (Du rfl (List.length_map ..) Try.underlying49 rfl) (AB Z Z (AG (DQ (HX 940 0 1 933 Ia Z Z Z Z Z Z Z (Ky (α:=Nat×List Int) (fun q=>⟨103,[(0,.d (pD b 0)),(4,(.d (Ew (parts w)))),(6,(.d (grD (depG w)))),(7,(.ptr 930 0 0)),(9,(.own 932 0 gs.length)),(10,(.d (natD i))),(13,(.ptr 940 0 0)),(74,(.d (natsD (depL w i)))),(75,(.d (natD (depL w i).length))),(76,(.d (natD q.1)))],(40,[.multi M])::(932,[.rowD 51 2 (gs.map OA)])::(940,[.blk 51 [.d (stsD ((parts w).getD i [])),.own 933 0 q.2.length]])::(933,[.rowD 3 1 (q.2.map D2)])::HN k (CU ord)⟩) (fun q=>q.1≤(depL w i).length∧q.2=((depL w i).take q.1).map (CU ord)) (fun q=>(depL w i).length - q.1) ((0,[])) (⟨Nat.zero_le _,rfl⟩) (Df hF [40,932,940,933,930,931] Z Z ⟨rfl,rfl,rfl,rfl,rfl,rfl,rfl,rfl,rfl,rfl,trivial⟩) ?_)))));rintro ⟨j,acc⟩ ⟨hj,hacc⟩;dsimp only at hj hacc⊢;refine AF (AI ?_)
      first | refine J (JC Z Z Z) ?_ | refine J (JA Z Z Z) ?_
      refine AG (AF ?_)
      first | refine BF rfl (fun h77=>?_) (fun h77=>?_) | refine D9 rfl (fun h77=>?_) (fun h77=>?_)
      ·refine C9 (AF (DQ (AF ?_)));have hjl:j<(depL w i).length:=B9 h77;have hal:acc.length≤4096:=by rw [hacc,List.length_map,List.length_take];omega
       have hkl2:CC (depL w i) j<k:=by rw [←hn];exact G5 (If hjl)
       refine AI ?_
       first | refine J (Dy (j) Z Z (rfl) (Fa hjl) Try.underlying49 rfl EC rfl) ?_ | refine J (Dz (j) Z Z (rfl) (Fa hjl) rfl Try.underlying49 EC rfl) ?_
       first | refine J (A9 Z Z Cx rfl) ?_ | refine J (A7 Z Z Z Cx rfl) ?_ | refine J (A8 Z Z (rfl) rfl Cx rfl) ?_
       refine AE Z Z (AG (BK [[],[0],[],[],[2,3],[2,3,4],[2,3,4,5],[0,1,2,3,4,5,6],[0,1,2,3,4,5,6,7],[0,1,2,3,4,5,6,7,8]] mixed rfl (MP ?_)))
       first | refine AN [13] [] Z Z (fun _=>AD (CE rfl FK Z Z Z)) ?_ | refine AQ [13] Z Z (fun _=>AD (CE rfl FK Z Z Z)) ?_ | refine AN [13] [] Z Z (fun _=>AD (CG rfl FK Z Z Z)) ?_ | refine AQ [13] Z Z (fun _=>AD (CG rfl FK Z Z Z)) ?_ | refine AN [13] [] Z Z (fun _=>AD (CI rfl FK Z Z Z)) ?_ | refine AQ [13] Z Z (fun _=>AD (CI rfl FK Z Z Z)) ?_ | refine AN [13] [] Z Z (fun _=>AD (CF rfl FK Z Z Z)) ?_ | refine AQ [13] Z Z (fun _=>AD (CF rfl FK Z Z Z)) ?_ | refine AN [13] [] Z Z (fun _=>AD (CD rfl FK Z Z Z)) ?_ | refine AQ [13] Z Z (fun _=>AD (CD rfl FK Z Z Z)) ?_
       first | refine AN [80] [940] Z Z (fun _=>AD (A9 Z Z Ad rfl)) ?_ | refine AN [80] [940] Z Z (fun _=>AD (A7 Z Z Z Ad rfl)) ?_ | refine AN [80] [940] Z Z (fun _=>AD (A8 Z Z (rfl) rfl Ad rfl)) ?_
       first | refine AN [7] [930] Z Z (fun _=>AD (A9 Z Z Ad rfl)) ?_ | refine AN [7] [930] Z Z (fun _=>AD (A7 Z Z Z Ad rfl)) ?_ | refine AN [7] [930] Z Z (fun _=>AD (A8 Z Z (rfl) rfl Ad rfl)) ?_
       first | refine AN [15] [] Z Z (fun _=>AD (CA Z Z)) ?_ | refine AQ [15] Z Z (fun _=>AD (CA Z Z)) ?_
       first | refine AN [82,83] [931] Z Z (fun _=>AD (Dy (CC (depL w i) j) Z Z (rfl) (hkl2) Try.underlying49 rfl EC rfl)) ?_ | refine AN [82,83] [931] Z Z (fun _=>AD (Dz (CC (depL w i) j) Z Z (rfl) (hkl2) rfl Try.underlying49 EC rfl)) ?_
       first | refine AN [84] [931] Z Z (fun _=>AD (A9 Z Z Cx rfl)) ?_ | refine AN [84] [931] Z Z (fun _=>AD (A7 Z Z Z Cx rfl)) ?_ | refine AN [84] [931] Z Z (fun _=>AD (A8 Z Z (Gq hkl2) rfl Cx rfl)) ?_
       refine HR [85] [941] [(86,_)] Z Z (fun _=>D4 (Mc 941 Ia Z Z Z Z Z Z Z Z)) (.inr ⟨86,_,rfl,rfl,rfl,rfl,rfl⟩) Z Z Z Z Z (MR 7 Z Z Z (Is 8 Z Z ?_))
       first | refine U (Ce (acc) ([CU ord (CC (depL w i) j)]) Z Z Z Z Z Z Z Z Ia (by simp only [List.length_singleton];omega) Z Z Z Z) ?_ | refine U (FP (acc) ([CU ord (CC (depL w i) j)]) Z Z Z Z Z Z (fun _=>rfl) Ia (by simp only [List.length_singleton];omega) Z Z Z Z) ?_
       refine AG ⟨rfl,?_⟩;refine Is 9 Z Z ?_
       first | refine J (CE rfl FK Z Z Z) ?_ | refine J (CG rfl FK Z Z Z) ?_ | refine J (CI rfl FK Z Z Z) ?_ | refine J (CF rfl FK Z Z Z) ?_ | refine J (CD rfl FK Z Z Z) ?_
       refine AG ⟨rfl,?_⟩;refine Is 10 Z Z (U (Gb Z Z Z Z Z Z Z CM) (AG ⟨rfl,?_⟩));refine MQ (AI (J (BY Z Z (IntWalk.i64_in _ (by omega)) rfl) (AB Z Z (AG ?_))));exact ⟨(j+1,acc++ [CU ord (CC (depL w i) j)]),⟨hjl,by show _=((depL w i).take (j+1)).map (CU ord);rw [List.take_succ_eq_append_getElem hjl,List.map_append,hacc,Bl hjl];rfl⟩,by show (depL w i).length - (j+1)<(depL w i).length - j;omega,Df hF [40,932,940,933,930,931] rfl (rfl) ⟨rfl,rfl,rfl,rfl,rfl,rfl,rfl,rfl,rfl,rfl,trivial⟩⟩
      ·refine JB (AF ?_);have hje:j=(depL w i).length:=by have:=h77;omega
       have hac2:acc=(((depL w i).map ord.idxOf).map Int.ofNat):=by rw [hacc,hje,List.take_length,List.map_map];exact List.map_congr_left fun x hx=>by unfold CU;rw [if_pos (hds x hx)];rfl
       have hal2:acc.length≤4096:=by rw [hac2,List.length_map,List.length_map];exact hdl
       have hsort:(Cf acc).map zD=(Ff (depL w) ord i ord.length).map natD:=by rw [hac2,Hq,KC hI.good.nd hds]
       have hsl:(Ff (depL w) ord i ord.length).length=acc.length:=by rw [←KC hI.good.nd hds,DD,hac2,List.length_map,List.length_map,List.length_map]
       refine AI ?_
       first | refine J (CE rfl FK Z Z Z) ?_ | refine J (CG rfl FK Z Z Z) ?_ | refine J (CI rfl FK Z Z Z) ?_ | refine J (CF rfl FK Z Z Z) ?_ | refine J (CD rfl FK Z Z Z) ?_
       first | refine J (A9 Z Z Ad rfl) ?_ | refine J (A7 Z Z Z Ad rfl) ?_ | refine J (A8 Z Z (rfl) rfl Ad rfl) ?_
       refine U (Mn Nn acc (by omega) Z Z Z Z Z Z Z) (AG (AF ?_));rw [hsort];refine IX (ys:=(Ff (depL w) ord i ord.length).map natD) 940 0 1 933 Z Z Z (Nat.le_of_eq (by rw [List.length_map,hsl])) (List.take_of_length_le (by rw [List.length_map,hsl];exact Nat.le_refl _)) Z Z Z Z Z Z (AI ?_)
       first | refine J (A9 Z Z Ad rfl) ?_ | refine J (A7 Z Z Z Ad rfl) ?_ | refine J (A8 Z Z (rfl) rfl Ad rfl) ?_
       refine AB Z Z (AB Z Z ?_)
       first | refine J (H5 rfl Try.underlying47 rfl) ?_ | refine J (Du Z Z Try.underlying47 rfl) ?_ | refine J (HZ rfl Try.underlying47 rfl) ?_ | refine J (H4 rfl Try.underlying47 rfl) ?_ | refine J (HY rfl Try.underlying47 rfl) ?_ | refine J (G8 rfl Try.underlying47 rfl) ?_
       first | refine J (Dy (i) Z Z (rfl) (hil) Try.underlying49 rfl EC rfl) ?_ | refine J (Dz (i) Z Z (rfl) (hil) rfl Try.underlying49 EC rfl) ?_
       refine U (BX Z Z Z Z Z (by rw [JU];exact hil) JT rfl EC) (AG ?_);rw [show A5 (CU ord) i (gs.length:Int)=CU (ord++ [i]) from by rw [hgl];exact MG hio];refine AI (AB Z Z ?_)
       first | refine J (MZ Z Z rw51 rfl) ?_ | refine J (M8 Z Z rw51 Z Z Z) ?_ | refine J (M9 Z Z (rfl) rfl rw51 rfl) ?_
       refine U (Mc 942 sl47 Z Z Z Z Z Z Z Z) ?_
       first | refine U (Ce (gs) ([(⟨(parts w).getD i [],Ff (depL w) ord i ord.length⟩:Grp)]) Z Z Z Z Z Z Z Z sl47 (by simp only [List.length_singleton];omega) Z Z Z Z) ?_ | refine U (FP (gs) ([(⟨(parts w).getD i [],Ff (depL w) ord i ord.length⟩:Grp)]) Z Z Z Z Z Z (fun _=>rfl) sl47 (by simp only [List.length_singleton];omega) Z Z Z Z) ?_
       refine AE Z Z (AG ?_);exact ⟨(ord++ [i],gs++ [⟨(parts w).getD i [],Ff (depL w) ord i ord.length⟩]),⟨hI.next (by omega) hnx,by show _=grpS w (ord++ [i]);rw [MN,hgs]⟩,by show k - (ord++ [i]).length<k - ord.length;rw [List.length_append,List.length_singleton];omega,Df hF [40,932,930,931] rfl (rfl) ⟨rfl,rfl,rfl,rfl,rfl,trivial⟩⟩
     ·refine C9 (AI (J (BY Z Z (IntWalk.i64_in _ (by omega)) rfl) (AB Z Z (AG ?_))));exact ⟨i+1,⟨hil,fun j hj=>by by_cases e:j=i;subst e;exact NO (Classical.not_not.1 h61);exact hnr j (by omega)⟩,by show k - (i+1)<k - i;omega,Df hF [40,932,930,931] rfl (rfl) ⟨rfl,rfl,rfl,rfl,rfl,rfl,rfl,rfl,trivial⟩⟩
    ·refine Ee Z Z Z Z (Ee Z Z Z Z ?_);refine Ee Z Z Z Z (Ee Z Z Z Z (Ee Z Z Z Z (Ee Z Z Z Z (Ee Z Z Z Z (J (Me Z Z Z Z) (AE Z Z (AG (AF ?_))))))));refine AI (AB Z Z (AG (IZ Z Z (C9 (AI (J (BY Z Z (IntWalk.i64_in _ (by omega)) rfl) (AB Z Z (AG ?_))))))));exact ⟨i+1,⟨hil,fun j hj=>by by_cases e:j=i;subst e;exact NP h52;exact hnr j (by omega)⟩,by show k - (i+1)<k - i;omega,Df hF [40,932,930,931] rfl (rfl) ⟨rfl,rfl,rfl,rfl,rfl,rfl,rfl,rfl,trivial⟩⟩
   ·refine JB (AF (AF (AI (AB Z Z ?_))))
    first | refine J (JC Z Z Z) ?_ | refine J (JA Z Z Z) ?_
    refine AG (GS rfl ((by decide)) (AF (AI (AE Z Z (J7 2 rfl (AE Z Z (AG (B3 ?_))))))));have hno:=hI.stop (by omega) (N5 fun j hj=>hnr j (by omega));obtain ⟨g1,g2⟩:=gw_none hno;exact ⟨_,[40],_,BO rfl,rfl,rfl,by rw [g1,g2];rfl,rfl⟩
  ·refine JB (AF ?_);obtain ⟨g1,g2⟩:=LT (hI.fin (by have h1:=h41;have h2:gs.length=ord.length:=(by rw [hgs,Jr]);omega));refine E8 (emb:=OA) 9 932 gs Z Z Z Z Z Z Z (AI (AB Z Z (AE Z Z (AE Z Z (AG (B3 ?_))))));exact ⟨_,[40],_,BO rfl,rfl,rfl,by rw [g1,g2,hgs],rfl⟩
theorem IP {w:Ws} {i:Nat} (hi:i<(parts w).length):(parts w)[i]?=some ((parts w).getD i []):=by
 rw [List.getD_eq_getElem?_getD,List.getElem?_eq_getElem hi];rfl
theorem memP {w:Ws} (hw:CJ w) {i:Nat} (hi:i<(parts w).length) {x:St}:x∈(parts w).getD i []↔x∈w.R∧idx w x=i:=by
 have hg:=IP hi
 constructor
 ·intro hx;exact ⟨(Gw (List.mem_of_getElem? hg) hx).1,Km hw hg hx⟩
 ·rintro ⟨hx,e⟩;have h1:=HJ hw hx;rw [e,hg] at h1;injection h1 with h1
  rw [h1];exact DG hx
noncomputable def nxG (w:Ws) (back:Bool):List (List Nat):=(List.range (parts w).length).map (nxW w back)
theorem N7 {w:Ws} {back:Bool} {i:Nat} (hi:i<(parts w).length):((nxG w back).map natsD)[i]?=some (natsD (nxW w back i)):=by
 rw [List.getElem?_map,nxG,List.getElem?_map,List.getElem?_range hi];rfl
structure Ef (w:Ws) (back:Bool) (i0:Nat) (vis stk:List Nat):Prop where
 nd:vis.Nodup
 vl:∀v∈vis,v<(parts w).length
 sl:∀v∈stk,v<(parts w).length
 vr:∀v∈vis,Aq (fun i k=>k∈nxW w back i) i0 v
 sr:∀v∈stk,Aq (fun i k=>k∈nxW w back i) i0 v
 st:i0∈vis∨i0∈stk
 nx:∀v∈vis,∀k∈nxW w back v,k∈vis∨k∈stk
 len:stk.length≤1+vis.length*(parts w).length
theorem Ef.zero {w:Ws} {back:Bool} {i0:Nat} (h:i0<(parts w).length):Ef w back i0 [] [i0]:=
 ⟨List.nodup_nil,(fun _ h=>by cases h),fun v hv=>by rw [List.mem_singleton.1 hv];exact h,(fun _ h=>by cases h),fun v hv=>by rw [List.mem_singleton.1 hv];exact .refl,.inr (by simp),(fun _ h=>by cases h),by simp⟩
theorem Ef.vlen {w:Ws} {back:Bool} {i0:Nat} {vis stk:List Nat} (h:Ef w back i0 vis stk):vis.length≤(parts w).length:=by
 have:=h.nd.length_le_of_subset (l₂:=List.range (parts w).length) fun k hk=>by simpa using h.vl k hk
 simpa using this
theorem Ef.skip {w:Ws} {back:Bool} {i0:Nat} {vis r:List Nat} {v:Nat} (h:Ef w back i0 vis (r++ [v])) (hv:v∈vis):Ef w back i0 vis r:=by
 have hin:∀{k},k∈vis∨k∈r++ [v] ->k∈vis∨k∈r:=fun hk=>hk.elim .inl fun hk=>(List.mem_append.1 hk).elim .inr fun e=> .inl (by rw [List.mem_singleton.1 e];exact hv);exact ⟨h.nd,h.vl,fun x hx=>h.sl x (List.mem_append_left _ hx),h.vr,fun x hx=>h.sr x (List.mem_append_left _ hx),hin h.st,fun x hx k hk=>hin (h.nx x hx k hk),by have:=h.len;rw [List.length_append] at this;omega⟩
theorem Ef.go {w:Ws} {back:Bool} {i0:Nat} {vis r:List Nat} {v:Nat} (h:Ef w back i0 vis (r++ [v])) (hv:v∉vis):Ef w back i0 (vis++ [v]) (r++nxW w back v):=by
 have hvr:=h.sr v (List.mem_append_right _ (by simp));have hin:∀{k},k∈vis∨k∈r++ [v] ->k∈vis++ [v]∨k∈r++nxW w back v:=fun hk=>hk.elim (fun h=> .inl (List.mem_append_left _ h)) fun hk=>(List.mem_append.1 hk).elim (fun h=> .inr (List.mem_append_left _ h)) fun e=> .inl (List.mem_append_right _ e);refine ⟨List.nodup_append.2 ⟨h.nd,by simp,fun a ha b hb e=>hv (by rw [←List.mem_singleton.1 hb,←e];exact ha)⟩,fun x hx=>?_,fun x hx=>?_,fun x hx=>?_,fun x hx=>?_,hin h.st,fun x hx k hk=>?_,?_⟩
 ·exact (List.mem_append.1 hx).elim (h.vl x) fun e=>by rw [List.mem_singleton.1 e];exact h.sl v (by simp)
 ·exact (List.mem_append.1 hx).elim (fun hx=>h.sl x (List.mem_append_left _ hx)) N6
 ·exact (List.mem_append.1 hx).elim (h.vr x) fun e=>by rw [List.mem_singleton.1 e];exact hvr
 ·exact (List.mem_append.1 hx).elim (fun hx=>h.sr x (List.mem_append_left _ hx)) fun hx=>hvr.tail hx
 ·rcases List.mem_append.1 hx with hx | e
  ·exact hin (h.nx x hx k hk)
  ·rw [List.mem_singleton.1 e] at hk;exact .inr (List.mem_append_right _ hk)
 ·have h1:=h.len;have h2:=Ie w back v;rw [List.length_append,List.length_singleton] at h1;rw [List.length_append,List.length_append,List.length_singleton,Nat.succ_mul];omega
theorem Ef.fin {w:Ws} {back:Bool} {i0:Nat} {vis:List Nat} (h:Ef w back i0 vis []) (v:Nat):v∈vis↔Aq (fun i k=>k∈nxW w back i) i0 v:=by
 refine ⟨h.vr v,fun hs=>?_⟩;exact Aq.closed (p:=fun v=>v∈vis) (fun a b ha hb=>(h.nx a ha b hb).resolve_right (by simp)) (h.st.resolve_right (by simp)) hs
noncomputable def outS (w:Ws) (vis:List Nat):List St:=vis.flatMap fun i=>(parts w).getD i []
theorem Fs (w:Ws) (vis:List Nat) (v:Nat):outS w (vis++ [v])=outS w vis++(parts w).getD v []:=by simp [outS]
theorem HE {w:Ws} (hw:CJ w) {vis:List Nat} (hv:∀v∈vis,v<(parts w).length) {x:St}:x∈outS w vis↔x∈w.R∧idx w x∈vis:=by
 unfold outS;rw [List.mem_flatMap]
 constructor
 ·rintro ⟨i,hi,hx⟩;obtain ⟨h1,h2⟩:=(memP hw (hv i hi)).1 hx;exact ⟨h1,by rw [h2];exact hi⟩
 ·rintro ⟨h1,h2⟩;exact ⟨_,h2,(memP hw (hv _ h2)).2 ⟨h1,rfl⟩⟩
theorem LJ {w:Ws} (hw:CJ w):∀{vis:List Nat},vis.Nodup ->(∀v∈vis,v<(parts w).length) ->(outS w vis).Nodup:=by
 intro vis
 induction vis with
 | nil=>intro _ _;exact List.nodup_nil
 | cons v r ih=>
  intro hn hv;have hn':=List.nodup_cons.1 hn;have hv':∀x∈r,x<(parts w).length:=fun x hx=>hv x (List.mem_cons_of_mem _ hx);show ((parts w).getD v []++outS w r).Nodup;refine List.nodup_append.2 ⟨Ho (NR hw (List.mem_of_getElem? (IP (hv v (by simp))))),ih hn'.2 hv',fun a ha b hb e=>?_⟩;subst e;have h1:=((memP hw (hv v (by simp))).1 ha).2;have h2:=((HE hw hv').1 hb).2;exact hn'.1 (by rw [←h1];exact h2)
theorem Gz {w:Ws} (hw:CJ w) {vis:List Nat} (hn:vis.Nodup) (hv:∀v∈vis,v<(parts w).length):(outS w vis).length≤w.R.length:=
 (LJ hw hn hv).length_le_of_subset fun x hx=>((HE hw hv).1 hx).1
theorem Ef.clo {w:Ws} (hw:CJ w) {back:Bool} {a:St} (ha:a∈w.R) {vis:List Nat} (h:Ef w back (idx w a) vis []):Bn (outS w vis)=cloW w a back:=by
 refine Fn (LJ hw h.nd h.vl) (List.Pairwise.sublist List.filter_sublist hw.srt) fun x=>?_;rw [HE hw h.vl,Jf]
 constructor
 ·rintro ⟨h1,h2⟩;exact ⟨h1,(LX hw ha h1).2 ((h.fin _).1 h2)⟩
 ·rintro ⟨h1,h2⟩;exact ⟨h1,(h.fin _).2 ((LX hw ha h1).1 h2)⟩
theorem snoc_of {l:List Nat} (h:0<l.length):∃r v,l=r++ [v]:=by
 rcases List.eq_nil_or_concat l with e | ⟨r,v,e⟩
 ·subst e;simp at h
 ·exact ⟨r,v,by rw [e];simp⟩
abbrev Lt (n:Nat) (out:List Nat):List D:=(List.range n).map fun v=>CS (decide (v∈out))
theorem NG {n i:Nat} {out:List Nat} (h:i<n):(Lt n out)[i]?=some (CS (decide (i∈out))):=by simp [h]
theorem NF (n:Nat) (out:List Nat):(Lt n out).length=n:=by simp
theorem ND {n i:Nat} {out:List Nat}:(Lt n out).set i (CS true)=Lt n (out++ [i]):=
 G1 (fun j _ hne=>congrArg CS (decide_eq_decide.2 ⟨fun h=>List.mem_append_left _ h,fun h=>(List.mem_append.1 h).elim id fun e=>(hne (List.mem_singleton.1 e)).elim⟩)) (by rw [decide_eq_true (List.mem_append_right _ (List.mem_singleton.2 rfl))])
theorem repB (n:Nat):List.replicate n (D.raw (.bool false))=Lt n []:=by
 refine List.ext_getElem (by simp) fun j h1 h2=>?_
 simp
theorem N9 (r:List Nat) (v:Nat):CC (r++ [v]) r.length=v:=by simp [CC]
set_option maxHeartbeats 2000000 in
theorem cloF_c {M:MF} {b:Nat} {w:Ws} (h:Cv M b w) (hw:CJ w) (hK:w.K.length≤1000000) (a:St):AO Try.prog 41 [.d (pD b 0),.d (AP a),.d (CS false)] [(40,[.multi M])] fun r H'=>r= .d (if a∈w.R then stsD (cloW w a false) else .sl (some true) [])∧H'=[(40,[.multi M])]:=by
 refine DR Try.func41 Z Z Try.ntmps41 Z Z Z fun F hF=>(AF ?_);refine AI (AE Z Z (AG (AF (AF (AI (AB Z Z (AB Z Z (U (I0 (iOq h a) rfl [40] ⟨rfl,trivial⟩ Z Z Z Z Z Z Z Z Z) ?_))))))))
 first | refine J (KQ Z Z) ?_ | refine J (BN Z Z) ?_
 refine AG ?_
 first | refine BF rfl (fun h22=>?_) (fun h22=>?_) | refine D9 rfl (fun h22=>?_) (fun h22=>?_)
 ·refine AF (AI (AE Z Z (AG (B3 ?_))));exact ⟨_,[40],_,BO rfl,rfl,rfl,by rw [if_neg h22],rfl⟩
 ·refine C9 (AF ?_);have haR:a∈w.R:=Classical.not_not.1 h22;have hpn:(parts w).length≤4096:=by unfold parts;rw [List.length_map];exact Nat.le_trans (List.length_filter_le _ _) hw.few
  refine AI (AB Z Z ?_);refine BH (L1 (LH h hw hK) rfl [40,6] ⟨rfl,rfl,trivial⟩ Z Z Z Z (fun r H' ⟨O,e1,e2,_⟩=>by subst e1 e2;exact ⟨rfl,rfl,rfl⟩) rfl) rfl ?_;rintro _ ⟨r,H',⟨O,e1,e2,hO⟩,rfl⟩;subst e1 e2;refine AB Z Z ?_
  first | refine J (Dk Z Z Z) ?_ | refine J (Dj Z Z Z) ?_
  first | refine J (Dk Z Z Z) ?_ | refine J (Dj Z Z Z) ?_
  refine AE Z Z (AE Z Z (AG (AF (E7 7 Z Z Z (IY 8 6 7 hF Z Z Z Z Z Z Z Z Z Z (fun _=>rfl) fun x7 _=>?_)))))
  obtain ⟨M7,hM7⟩:∃M7,Ax (fun _=>none) x7 (.map (some (List.range O.length,O.length)) (AU AP natD O))=M7:=⟨_,rfl⟩
  rw [hM7];have h7:M7 x7=some (.map (some (List.range O.length,O.length)) (AU AP natD O)):=by rw [←hM7,Dx]
  refine AI (AB Z Z (AB Z Z (AB Z Z (U (I0 (OG h hw hK hO h7) rfl [40,7] ⟨rfl,rfl,trivial⟩ Z Z Z Z Z Z Z Z Z) ?_))));refine AE Z Z (AG (AF (AF (AI (AB Z Z (AG (IZ rfl (rfl) (C9 ?_))))))));refine AF (a_as 9 (.d (grD (nxG w false))) Z Z (AI (AB Z Z (J (Du rfl (List.length_map ..) Try.underlying79 rfl) (U (I8 20 sl99 Z Z Z (by omega) zd4 Z Z Z Z) (AE Z Z (AG (AF ?_))))))));rw [repB];refine AI (AE Z Z (AG (AF (AI (AB Z Z ?_)))));refine AB Z Z (J (JG (f:=7) O a 0 (idx w a) Z Z h7 rfl GW F6 za3 (hO _ haR) rfl) (U (Mc 22 Ia Z Z Z Z Z Z Z Z) (AE Z Z (AG (AF (DQ (LY 16 23 Ea Z Z Z Z (Ky (α:=List Nat×List Nat×List Nat) (fun q=>⟨105,[(7,(.d (Ew (parts w)))),(9,(.d (grD (nxG w false)))),(15,(.own 20 0 (parts w).length)),(16,(.own 23 0 (outS w q.1).length)),(17,(.own 22 0 q.2.1.length))],[(20,[.rowD 4 1 (Lt (parts w).length q.1)]),(22,[.rowD 3 1 ((q.2.1++q.2.2).map natD)]),(23,[.rowD 9 1 ((outS w q.1).map AP)]),(40,[.multi M])]⟩) (fun q=>Ef w false (idx w a) q.1 q.2.1) (fun q=>((parts w).length - q.1.length)*5000+q.2.1.length) (([],[idx w a],[])) (Ef.zero (FA hw haR)) (Df hF [20,22,23,40] Z Z ⟨rfl,rfl,rfl,rfl,rfl,trivial⟩) ?_))))))));rintro ⟨vis,stk,jk⟩ hI;dsimp only at hI⊢;refine AF (AF (AI (AB Z Z ?_)))
  first | refine J (H5 rfl Try.underlying49 rfl) ?_ | refine J (Du Z Z Try.underlying49 rfl) ?_ | refine J (HZ rfl Try.underlying49 rfl) ?_ | refine J (H4 rfl Try.underlying49 rfl) ?_ | refine J (HY rfl Try.underlying49 rfl) ?_ | refine J (G8 rfl Try.underlying49 rfl) ?_
  first | refine J (Mr Z Z Z) ?_ | refine J (LA Z Z Z) ?_
  refine AG ?_
  first | refine BF rfl (fun h71=>?_) (fun h71=>?_) | refine D9 rfl (fun h71=>?_) (fun h71=>?_)
  ·refine C9 (DQ (AF ?_));obtain ⟨r,v,hrv⟩:=snoc_of (l:=stk) (B9 h71);subst hrv;have hvl:=hI.sl v (by simp);have hI2':=hI.len;have hvle:=hI.vlen;have hmul:vis.length*(parts w).length≤4096*4096:=Nat.mul_le_mul (by omega) hpn;have hsl:(r++ [v]).length≤20000000:=by omega
   have hrl:(r++ [v]).length=r.length+1:=by simp
   have hpe:(((r++ [v]).length:Nat):Int) - 1=((r.length:Nat):Int):=by rw [hrl];omega
   refine AI (AB Z Z (AB Z Z ?_))
   first | refine J (H5 rfl Try.underlying49 rfl) ?_ | refine J (Du Z Z Try.underlying49 rfl) ?_ | refine J (HZ rfl Try.underlying49 rfl) ?_ | refine J (H4 rfl Try.underlying49 rfl) ?_ | refine J (HY rfl Try.underlying49 rfl) ?_ | refine J (G8 rfl Try.underlying49 rfl) ?_
   refine J (EE Z Z (IntWalk.i64_in _ (by omega)) rfl) ?_
   first | refine J (Dy (r.length) Z Z (hpe) (by rw [hrl];omega) Try.underlying49 rfl EC rfl) ?_ | refine J (Dz (r.length) Z Z (hpe) (by rw [hrl];omega) rfl Try.underlying49 EC rfl) ?_
   first | refine J (A9 Z Z Cx rfl) ?_ | refine J (A7 Z Z Z Cx rfl) ?_ | refine J (A8 Z Z ((by rw [Fa (by rw [List.length_append,hrl];omega),nth_app (by omega),N9])) rfl Cx rfl) ?_
   refine AE Z Z (AG (AF (AI (AB Z Z (AB Z Z ?_)))))
   first | refine J (H5 rfl Try.underlying49 rfl) ?_ | refine J (Du Z Z Try.underlying49 rfl) ?_ | refine J (HZ rfl Try.underlying49 rfl) ?_ | refine J (H4 rfl Try.underlying49 rfl) ?_ | refine J (HY rfl Try.underlying49 rfl) ?_ | refine J (G8 rfl Try.underlying49 rfl) ?_
   refine J (EE Z Z (IntWalk.i64_in _ (by omega)) rfl) (J (Li r.length Z Z hpe (by rw [List.length_map,List.length_append];omega) rfl Try.underlying49 EC rfl) (AE Z Z (AG (AF (AF (AI (AB Z Z (AB Z Z ?_))))))))
   first | refine J (Dy (v) Z Z (rfl) (hvl) Try.underlying99 rfl sz4 rfl) ?_ | refine J (Dz (v) Z Z (rfl) (hvl) rfl Try.underlying99 sz4 rfl) ?_
   first | refine J (A9 Z Z on4 rfl) ?_ | refine J (A7 Z Z Z on4 rfl) ?_ | refine J (A8 Z Z (NG hvl) rfl on4 rfl) ?_
   refine AG ?_
   first | refine BF rfl (fun h86=>?_) (fun h86=>?_) | refine D9 rfl (fun h86=>?_) (fun h86=>?_)
   ·refine JB ?_;exact ⟨(vis,r,[v]++jk),hI.skip h86,by show _<_;rw [List.length_append,List.length_singleton];exact Nat.lt_succ_self _,Df hF [20,22,23,40] rfl (by rw [List.append_assoc];rfl) ⟨rfl,rfl,rfl,rfl,rfl,trivial⟩⟩
   ·refine C9 (AF ?_);have hI2:=hI.go h86;have hol:=Gz hw hI.nd hI.vl;have hfw:=hw.few;have hol2:=Gz hw hI2.nd hI2.vl;rw [Fs,List.length_append] at hol2;refine AI (AB Z Z (AB Z Z ?_))
    first | refine J (Dy (v) Z Z (rfl) (hvl) Try.underlying99 rfl sz4 rfl) ?_ | refine J (Dz (v) Z Z (rfl) (hvl) rfl Try.underlying99 sz4 rfl) ?_
    refine U (BX Z Z Z Z Z (by rw [NF];exact hvl) ND rfl sz4) (AG (AF (AI (AB Z Z (AB Z Z (AB Z Z ?_))))))
    first | refine J (Dy (v) Z Z (rfl) (FW hvl) Try.underlying79 rfl GV rfl) ?_ | refine J (Dz (v) Z Z (rfl) (FW hvl) rfl Try.underlying79 GV rfl) ?_
    first | refine J (A9 Z Z CT rfl) ?_ | refine J (A7 Z Z Z CT rfl) ?_ | refine J (A8 Z Z (rfl) rfl CT rfl) ?_
    first | refine U (Ce (outS w vis) ((parts w).getD v []) Z Z Z Z Z Z Z Z Ea (by omega) Z Z Z Z) ?_ | refine U (FP (outS w vis) ((parts w).getD v []) Z Z Z Z Z Z (fun _=>rfl) Ea (by omega) Z Z Z Z) ?_
    refine o_as 95 (.own 23 0 (outS w (vis++ [v])).length) rfl (by rw [Fs]) (AE Z Z (AG ?_));have hnl:=Ie w false v;refine AI (AB Z Z (AB Z Z (AB Z Z ?_)))
    first | refine J (Dy (v) Z Z (rfl) (N7 hvl) Try.underlying101 rfl CM rfl) ?_ | refine J (Dz (v) Z Z (rfl) (N7 hvl) rfl Try.underlying101 CM rfl) ?_
    first | refine J (A9 Z Z Ad rfl) ?_ | refine J (A7 Z Z Z Ad rfl) ?_ | refine J (A8 Z Z (rfl) rfl Ad rfl) ?_
    refine U (Gl (zs:=(r++nxW w false v).map natD) Z Z Z (by rw [List.length_map,List.length_append,List.length_append];omega) Ia (fun z hz=>by obtain ⟨a,_,rfl⟩:=List.mem_map.1 hz;rfl) (List.length_map ..) (by omega) Z Z (by rw [List.append_assoc,List.map_append,List.take_left' (by simp),←List.map_append]) Z Z) (o_as 101 (.own 22 0 (r++nxW w false v).length) rfl (by rw [List.length_append]) (AE Z Z (AG ?_)));exact ⟨(vis++ [v],r++nxW w false v,[]),hI.go h86,by have h1:=hI2.vlen;rw [List.length_append,List.length_singleton] at h1;have h2:=Ie w false v;show ((parts w).length - (vis++ [v]).length)*5000+(r++nxW w false v).length<((parts w).length - vis.length)*5000+(r++ [v]).length;simp only [List.length_append,List.length_singleton];omega,Df hF [20,22,23,40] rfl (by simp only [Fs,List.append_nil];rfl) ⟨rfl,rfl,rfl,rfl,rfl,trivial⟩⟩
  ·refine JB (AF ?_)
   have hs0:stk=[]:=by
    have h1:=h71;exact List.length_eq_zero_iff.1 (by omega)
   subst hs0;have hcl:=hI.clo hw haR;have hol:=Gz hw hI.nd hI.vl;have hfw:=hw.few;refine AI (AB Z Z (U (JN Nm (outS w vis) (by omega) Z Z Z Z Z Z Z) (AG (AF ?_))));rw [hcl];have hcn:(outS w vis).length=(cloW w a false).length:=by rw [←hcl,CY]
   refine E8 (emb:=AP) 16 23 (cloW w a false) Z Z Z hcn Z Z Z (AI (AB Z Z (AE Z Z (AG (B3 ?_)))));exact ⟨_,[40],_,BO rfl,rfl,rfl,by rw [if_pos haR],rfl⟩
theorem inj_snd {E:List (St×Nat)} (hn:(E.map Prod.snd).Nodup) {p q:St×Nat} (hp:p∈E) (hq:q∈E) (e:p.2=q.2):p=q:=by
 induction E with
 | nil=>exact by cases hp
 | cons a r ih=>
  obtain ⟨h1,h2⟩:a.2∉r.map Prod.snd∧(r.map Prod.snd).Nodup:=List.nodup_cons.1 hn;rcases List.mem_cons.1 hp with rfl | hp'<;>rcases List.mem_cons.1 hq with rfl | hq'
  ·rfl
  ·exact (h1 (List.mem_map.2 ⟨q,hq',e.symm⟩)).elim
  ·exact (h1 (List.mem_map.2 ⟨p,hp',e⟩)).elim
  ·exact ih h2 hp' hq'
theorem LR.set {M:MF} {b m:Nat} {E:List (St×Nat)} {lk:Nat ->List Lk} (h:LR M b m E lk) {x:St} {hd:Nat} (hm:(x,hd)∈E) (L:List Lk):LR (Ax M hd (.map none (Eq L))) b m E (A5 lk hd L):=by
 have h1:b≠hd:=fun e=>by have:=h.sub _ hm;rw [←e,h.cell] at this;cases this
 have h2:m≠hd:=fun e=>h.ne (by rw [e];exact List.mem_map.2 ⟨_,hm,rfl⟩);refine ⟨by rw [GT h1];exact h.cell,by rw [GT h2];exact h.top,fun p hp=>?_,h.nd,h.ne⟩
 by_cases e:p.2=hd
 ·rw [e,Dx,Da]
 ·rw [GT e,Dv e];exact h.sub p hp
theorem LW.set {E:List (St×Nat)} {lk:Nat ->List Lk} {w w':Ws} (h:LW E lk w) (hnd:(E.map Prod.snd).Nodup) {x:St} {hd:Nat} (hm:(x,hd)∈E) {L:List Lk} (hR:w'.R=w.R) (hL:L.Nodup) (hs:∀l:Lk,l∈L↔(⟨x,l.t,l.r⟩:Lw)∈w'.K) (ho:∀l:Lw,l.f≠x ->(l∈w'.K↔l∈w.K)):LW E (A5 lk hd L) w':=by
 refine ⟨h.kd,fun y=>by rw [hR];exact h.ks y,fun p hp=>?_,fun p hp l=>?_⟩
 ·by_cases e:p.2=hd
  ·rw [e,Da];exact hL
  ·rw [Dv e];exact h.ld p hp
 ·by_cases e:p.2=hd
  ·have hpe:=inj_snd hnd hp hm e;subst hpe;rw [Da];exact hs l
  ·rw [Dv e,h.ls p hp l,ho];intro e2
   have e3:p=(x,hd):=by
    have:=CP h.kd hp;rw [show p.1=x from e2,CP h.kd hm] at this;injection this with this
    exact absurd this.symm e
   exact e (by rw [e3])
theorem JJ {M:MF} {b m:Nat} {E:List (St×Nat)} {lk:Nat ->List Lk} {w:Ws} (hr:LR M b m E lk) (hl:LW E lk w) {x:St} {hd:Nat} (hm:(x,hd)∈E) {l:Lk} (hn:(⟨x,l.t,l.r⟩:Lw)∉w.K):Cv (Ax M hd (.map none (Eq (lk hd++ [l])))) b (BD w ⟨x,l.t,l.r⟩):=by
 have hln:l∉lk hd:=fun h=>hn ((hl.ls _ hm l).1 h);refine ⟨m,E,_,hr.set hm _,hl.set hr.nd hm rfl ?_ (fun l'=>?_) (fun l' hf=>?_)⟩
 ·exact List.nodup_append.2 ⟨hl.ld _ hm,by simp,fun a ha c hc e=>hln (by rw [←List.mem_singleton.1 hc,←e];exact ha)⟩
 ·show l'∈lk hd++ [l]↔_∈w.K++ [_];rw [List.mem_append,List.mem_append,hl.ls _ hm l',List.mem_singleton,List.mem_singleton];refine or_congr Iff.rfl ⟨fun e=>by rw [e],fun e=>?_⟩;injection e with _ e1 e2
  exact Lk.eq_iff.2 ⟨e1,e2⟩
 ·show l'∈w.K++ [_]↔_;rw [List.mem_append,List.mem_singleton];exact ⟨fun h=>h.elim id fun e=>absurd (by rw [e]) hf,.inl⟩
theorem NA {M:MF} {b m:Nat} {E:List (St×Nat)} {lk:Nat ->List Lk} {w:Ws} (hr:LR M b m E lk) (hl:LW E lk w) {x:St} {hd:Nat} (hm:(x,hd)∈E) (l:Lk):Cv (Ax M hd (.map none (Eq ((lk hd).filter fun y=>!decide (y=l))))) b (LD w ⟨x,l.t,l.r⟩):=by
 refine ⟨m,E,_,hr.set hm _,hl.set hr.nd hm rfl (List.Nodup.sublist List.filter_sublist (hl.ld _ hm)) (fun l'=>?_) (fun l' hf=>?_)⟩
 ·show l'∈(lk hd).filter _↔_∈w.K.filter _;rw [List.mem_filter,List.mem_filter,hl.ls _ hm l'];refine and_congr Iff.rfl ?_;simp only [Bool.not_eq_true',decide_eq_false_iff_not];refine not_congr ⟨fun e=>by rw [e],fun e=>?_⟩;injection e with _ e1 e2
  exact Lk.eq_iff.2 ⟨e1,e2⟩
 ·show l'∈w.K.filter _↔_;rw [List.mem_filter];exact ⟨fun h=>h.1,fun h=>⟨h,by simp only [Bool.not_eq_true',decide_eq_false_iff_not];exact fun e=>hf (by rw [e])⟩⟩
abbrev HLk (b:Nat) (l:Lw) (e:Int):Hp:=[(910,[.blk 23 [.d (pD b 0)]]),(911,[.blk 9 [.d (AP l.f)]]),(912,[.blk 39 [.d (D2 l.t),.d (AP l.r)]]),(913,[.blk 25 [.d (D2 e)]])]
theorem I4 {M:MF} {b:Nat} {w:Ws} (h:Cv M b w) (l:Lw) (hf:l.f∈w.R) (e:Int):Hb Try.prog 46 [.ptr 913 0 0,.ptr 910 0 0,.ptr 911 0 0,.ptr 912 0 0] (HLk b l e++ [(40,[.multi M])]) fun r H'=>r= .tup []∧∃M',H'=HLk b l e++ [(40,[.multi M'])]∧Cv M' b (if e=0 then w else LD w l):=by
 have hrep:=h;obtain ⟨m,E,lk,hr,hl⟩:=h;obtain ⟨hd,hm⟩:=hl.at hf;refine d_enter Try.func46 Z Z Try.ntmps46 Z Z Z fun F hF=>(AF (AI ?_))
 first | refine J (A9 Z Z on25 rfl) ?_ | refine J (A7 Z Z Z on25 rfl) ?_ | refine J (A8 Z Z (rfl) rfl on25 rfl) ?_
 first | refine J (CN Z Z Z) ?_ | refine J (Md Z Z Z) ?_ | refine J (BI Z Z Z) ?_ | refine J (BV Try.underlying25 Z Z Z) ?_ | refine J (BT Try.underlying25 Z Z Z) ?_ | refine J (st_neqN Try.underlying25 Z Z) ?_ | refine J (st_neqPr Try.underlying25 Z Z) ?_ | refine J (st_neqMz Try.underlying25 Z Z) ?_ | refine J (BU Try.underlying25 Z Z Z) ?_ | refine J (st_neqFN Try.underlying25 Z Z) ?_
 refine AG ?_
 first | refine BF rfl (fun h5=>?_) (fun h5=>?_) | refine D9 rfl (fun h5=>?_) (fun h5=>?_)
 ·refine BK [[],[0],[0,1],[0,1,2],[],[0,1,2,3,4],[],[0,1,2,3,4,5,6]] mixed rfl (MP ?_)
  first | refine AN [1] [] Z Z (fun _=>AD (A9 Z Z Aa rfl)) ?_ | refine AQ [1] Z Z (fun _=>AD (A9 Z Z Aa rfl)) ?_ | refine AN [1] [] Z Z (fun _=>AD (A7 Z Z Z Aa rfl)) ?_ | refine AQ [1] Z Z (fun _=>AD (A7 Z Z Z Aa rfl)) ?_ | refine AN [1] [] Z Z (fun _=>AD (A8 Z Z (rfl) rfl Aa rfl)) ?_ | refine AQ [1] Z Z (fun _=>AD (A8 Z Z (rfl) rfl Aa rfl)) ?_
  first | refine AN [6] [] Z Z (fun _=>AD (KL Z Z)) ?_ | refine AQ [6] Z Z (fun _=>AD (KL Z Z)) ?_ | refine AN [6] [] Z Z (fun _=>AD (KJ Z Z)) ?_ | refine AQ [6] Z Z (fun _=>AD (KJ Z Z)) ?_ | refine AN [6] [] Z Z (fun _=>AD (KM Z Z)) ?_ | refine AQ [6] Z Z (fun _=>AD (KM Z Z)) ?_ | refine AN [6] [] Z Z (fun _=>AD (KK Z Z)) ?_ | refine AQ [6] Z Z (fun _=>AD (KK Z Z)) ?_
  first | refine AN [7] [] Z Z (fun _=>AD (CE rfl Au Z Z Z)) ?_ | refine AQ [7] Z Z (fun _=>AD (CE rfl Au Z Z Z)) ?_ | refine AN [7] [] Z Z (fun _=>AD (CG rfl Au Z Z Z)) ?_ | refine AQ [7] Z Z (fun _=>AD (CG rfl Au Z Z Z)) ?_ | refine AN [7] [] Z Z (fun _=>AD (CI rfl Au Z Z Z)) ?_ | refine AQ [7] Z Z (fun _=>AD (CI rfl Au Z Z Z)) ?_ | refine AN [7] [] Z Z (fun _=>AD (CF rfl Au Z Z Z)) ?_ | refine AQ [7] Z Z (fun _=>AD (CF rfl Au Z Z Z)) ?_ | refine AN [7] [] Z Z (fun _=>AD (CD rfl Au Z Z Z)) ?_ | refine AQ [7] Z Z (fun _=>AD (CD rfl Au Z Z Z)) ?_
  first | refine AN [8] [] Z Z (fun _=>AD (KI (f:=40) Z Z (hr.cell) rfl DH rfl)) ?_ | refine AQ [8] Z Z (fun _=>AD (KI (f:=40) Z Z (hr.cell) rfl DH rfl)) ?_
  first | refine AN [2] [] Z Z (fun _=>AD (A9 Z Z A4 rfl)) ?_ | refine AQ [2] Z Z (fun _=>AD (A9 Z Z A4 rfl)) ?_ | refine AN [2] [] Z Z (fun _=>AD (A7 Z Z Z A4 rfl)) ?_ | refine AQ [2] Z Z (fun _=>AD (A7 Z Z Z A4 rfl)) ?_ | refine AN [2] [] Z Z (fun _=>AD (A8 Z Z (rfl) rfl A4 rfl)) ?_ | refine AQ [2] Z Z (fun _=>AD (A8 Z Z (rfl) rfl A4 rfl)) ?_
  first | refine AN [9,10] [] Z Z (fun _=>AD (JG (f:=40) (eE E) l.f none (some hd) Z Z hr.top rfl Ec F6 Gc (CP hl.kd hm) rfl)) ?_ | refine AQ [9,10] Z Z (fun _=>AD (JG (f:=40) (eE E) l.f none (some hd) Z Z hr.top rfl Ec F6 Gc (CP hl.kd hm) rfl)) ?_
  first | refine AN [3] [] Z Z (fun _=>AD (MZ Z Z BE rfl)) ?_ | refine AQ [3] Z Z (fun _=>AD (MZ Z Z BE rfl)) ?_ | refine AN [3] [] Z Z (fun _=>AD (M8 Z Z BE Z Z Z)) ?_ | refine AQ [3] Z Z (fun _=>AD (M8 Z Z BE Z Z Z)) ?_ | refine AN [3] [] Z Z (fun _=>AD (M9 Z Z (rfl) rfl BE rfl)) ?_ | refine AQ [3] Z Z (fun _=>AD (M9 Z Z (rfl) rfl BE rfl)) ?_
  refine MR 7 Z Z Z (Is 8 Z Z (U (st_delN (f:=40) (Dd (lk hd)) (⟨l.t,l.r⟩) (true) Z Z (hr.sub _ hm) rfl Kf Nq rfl) (AG ⟨rfl,?_⟩)));refine MQ ?_;exact ⟨_,[910,911,912,913,40],_,BO rfl,rfl,rfl,rfl,_,rfl,by rw [if_neg h5,lkM_del (hl.ld _ hm)];exact NA hr hl hm _⟩
 ·refine C9 ?_;exact ⟨_,[910,911,912,913,40],_,BO rfl,rfl,rfl,rfl,_,rfl,by rw [if_pos (Classical.not_not.1 h5)];exact hrep⟩
end Go.Proofs.Ytlmedakidpaeeaa
