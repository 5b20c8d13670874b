/- Layer 27: parts, walked. -/
import Derived.Test.YtlmedakidpaeeaaMg18
namespace Go.Proofs.Ytlmedakidpaeeaa
open Go.RowKit
set_option maxRecDepth 100000
abbrev CL (w:List (List St)):D:= .sl none (w.map stsD)
theorem OT {n:Nat} (h0:0<n) (h:n≤1000000):IntKind.i64.wrap ((n:Int) - 1)=((n - 1:Nat):Int):=by
 rw [show ((n:Int) - 1)=((n - 1:Nat):Int) by omega];exact IntWalk.i64_in _ (by omega)
theorem Ow {Ks:List St} {L:St ->List St} (hoff:∀k,k∉Ks ->L k=[]) (a:St):CM (Ks.map fun k=>(k,L k)) a []=L a:=by
 have key:∀Ks:List St,CM (Ks.map fun k=>(k,L k)) a []=if a∈Ks then L a else []:=by
  intro Ks
  induction Ks with
  | nil=>rfl
  | cons k r ih=>
   show (if a=k then L k else CM (r.map fun k=>(k,L k)) a [])=_
   by_cases e:a=k
   ·subst e;simp
   ·rw [if_neg e,ih];simp [e]
 rw [key]
 split
 ·rfl
 ·rename_i hn;rw [hoff a hn]
set_option maxHeartbeats 1000000 in
theorem IV {M:MF} {b:Nat} {w:Ws} (h:BX M b w) (hw:B4 w) (hK:w.K.length≤1000000):AT Try.prog 39 [.d (pD b 0)] [(40,[.multi M])] fun r H'=>∃O:List (St×Nat),r= .tup [.d (CL (parts w)),.map 6 0]∧H'=[(40,[.multi M]),(6,[Oz AU natD O])]∧∀x∈w.R,CM O x 0=idx w x:=by
 have hrep:=h;obtain ⟨m,E,lk,hr,hl⟩:=h;have hfew:=hw.few;have hEl:=hl.len hw;refine DI Try.func39 Z Z Try.ntmps39 Z Z Z fun F hF=>(AE (AH (AD Z Z (AD Z Z (AF (AE (AH (AC Z Z ?_))))))));refine IA (JS (neigh_c hrep hw hK) rfl [40,1] ⟨rfl,rfl,trivial⟩ Z Z Z Z (fun r H' ⟨Ks,L,bs,e1,e2,_⟩=>by subst e1 e2;exact ⟨rfl,rfl,rfl⟩) rfl) rfl ?_;rintro _ ⟨r,H',⟨Ks,L,nbs,e1,e2,hoff,hwth,hLl⟩,rfl⟩;subst e1 e2;refine U (IP 4 zl106 Z Z Z Z) (U (Bu Z Z Z Z Z Z Z sz106) (AF (AE (AH (U (Ea 6 Z Z Z Z) ?_)))));refine U (IP 5 zl80 Z Z Z Z) (U (Bu Z Z Z Z Z Z Z sz80) (AF (AE (AH (U (IP 7 zl79 Z Z Z Z) (AF (AE (AH ?_))))))));refine U (IP 9 zl108 Z Z Z Z) (AF (AE (AH (J (FL Z Z) (U (Bu Z Z Z Z Z Z Z sz108) (AF (AE (AE ?_))))))))
 have hL:NbOk w (Ks.map fun k=>(k,L k)) L:=⟨Ow hoff,hwth,hLl⟩
 obtain ⟨NE,hNE⟩:∃NE,(Ks.map fun k=>(k,L k))=NE:=⟨_,rfl⟩
 rw [hNE] at hL;rw [hNE];refine D2 7 0 0 8 ND Z Z Z Z Z Z Z (Ds 50 Z Z Z (AH (AC Z Z ?_)))
 first | refine J (GJ Z Z) ?_ | refine J (GH Z Z) ?_ | refine J (GK Z Z) ?_ | refine J (GI Z Z) ?_
 first | refine J (A2 rfl A8 Z Z Z) ?_ | refine J (A4 rfl A8 Z Z Z) ?_ | refine J (A5 rfl A8 Z Z Z) ?_ | refine J (A3 rfl A8 Z Z Z) ?_ | refine J (A1 rfl A8 Z Z Z) ?_
 refine J (G9 (f:=40) Z Z (hr.cell) rfl Br rfl) (U (GG (keys_c m) rfl [] trivial Z Z Z Z Z Z Z Z Z) (U (GG (Pd hr.top (by omega) hl.kd hw.srt hl.ks) rfl [40] ⟨rfl,trivial⟩ Z Z Z Z Z Z Z Z Z) (J (CI rfl (List.length_map ..) Try.underlying32 rfl) (AC Z Z (AF (BU (Ev (α:=Nat×List (St×Nat)×Nat×(Nat ->Hd)×(Nat ->List St)×MF) (fun q=>⟨51,[(0,.d (pD b 0)),(5,(.ptr 5 0 0)),(6,(.ptr 7 0 0)),(7,(.ptr 9 0 0)),(21,(.d (stsD w.R))),(22,(.d (natD w.R.length))),(23,(.d (natD q.1)))],(40,[.multi M])::HV nbs NE q.2.1 q.2.2.1 q.2.2.2.1 q.2.2.2.2.1 q.2.2.2.2.2⟩) (fun q=>q.1≤w.R.length∧PI w q.1 q.2.1 q.2.2.1 q.2.2.2.2.1∧LV q.2.2.2.2.2 q.2.2.1 q.2.2.2.1 q.2.2.2.2.1) (fun q=>w.R.length - q.1) ((0,[],0,(fun _=>none),(fun _=> []),fun _=>none)) (⟨Nat.zero_le _,PI.zero,LV.zero 0⟩) (Ax hF [40,4,1,5,6,7,8,9,50] Z Z ⟨rfl,rfl,rfl,rfl,rfl,rfl,rfl,trivial⟩) ?_)))))));rintro ⟨k,O,n,hs,ls,M5⟩ ⟨hk,hP,hG⟩;dsimp only at hk hP hG⊢;refine AE (AH ?_)
 first | refine J (EG Z Z Z) ?_ | refine J (EK Z Z Z) ?_
 refine AF (AE ?_)
 first | refine BA rfl (fun h24=>?_) (fun h24=>?_) | refine Aw rfl (fun h24=>?_) (fun h24=>?_)
 ·refine Aj (AE (BU (AE ?_)));have hkl:k<w.R.length:=GR h24;have hnk:=hP.le;refine AH ?_
  first | refine J (BC (k) Z Z (rfl) (PF hkl) Try.underlying32 rfl DE rfl) ?_ | refine J (BD (k) Z Z (rfl) (PF hkl) rfl Try.underlying32 DE rfl) ?_
  first | refine J (AZ Z Z AW rfl) ?_ | refine J (AX Z Z Z AW rfl) ?_ | refine J (AY Z Z (rfl) rfl AW rfl) ?_
  refine AD Z Z (AF (AE (AH ?_)))
  first | refine J (AZ Z Z FD rfl) ?_ | refine J (AX Z Z Z FD rfl) ?_ | refine J (AY Z Z (rfl) rfl FD rfl) ?_
  refine AC Z Z (J (Fd (O) (w.R[k]) (0) Z Z Z Gz EX PW rfl) (AC Z Z ?_))
  first | refine J (Bi Z Z Z) ?_ | refine J (Bj Z Z Z) ?_
  first | refine J (Bi Z Z Z) ?_ | refine J (Bj Z Z Z) ?_
  refine AD Z Z (AD Z Z (AF (AE (AH (AC Z Z ?_)))))
  first | refine J (FB Z Z) ?_ | refine J (FA Z Z) ?_
  refine AF ?_
  first | refine BA rfl (fun h34=>?_) (fun h34=>?_) | refine Aw rfl (fun h34=>?_) (fun h34=>?_)
  ·refine AE ?_;have hxO:w.R[k]∉O.map Prod.fst:=fun hh=>absurd (DA.2 hh) (by simpa using h34);refine AH ?_
   first | refine J (AZ Z Z Dz rfl) ?_ | refine J (AX Z Z Z Dz rfl) ?_ | refine J (AY Z Z (rfl) rfl Dz rfl) ?_
   refine U (Ga 20 ND Z Z Z Z Z Z Z Z) (U (Id Z Z Z (Nat.le_of_eq (RT n hs ls).symm) Z Z (by simp) ND (by omega) Z Z (show (rowS n hs ls).take n++ [D.sl (some true) []]=rowS n hs ls++ [D.sl (some true) []] from by rw [List.take_of_length_le (by rw [RT];exact Nat.le_refl _)]) Z Z) (U (Bu Z Z Z Z Z Z Z sz79) (AF (AE (Hg 8 0 (rowS (n+1) (Ak hs n none) (Ak ls n [])) rfl (by rw [List.length_append,RT,RT];rfl) P3 ⟨fun x hx=>by rcases List.mem_append.1 hx with hx | hx;exact Is _ _ _ x hx;simp at hx;subst hx;rfl,Is _ _ _⟩ rfl (AH ?_))))))
   first | refine J (AZ Z Z KB rfl) ?_ | refine J (AX Z Z Z KB rfl) ?_ | refine J (AY Z Z (rfl) rfl KB rfl) ?_
   refine AC Z Z ?_;refine IA (Jn (visit_c hw hL (n+1) (by omega) (by omega) w.R.length O _ _ M5 w.R[k] (Nat.sub_le _ _) (List.getElem_mem hkl) hP.nd (fun y hy=>((hP.ks y).1 hy).1) hG.grow (by show (Ak ls n [] n).length≤_;rw [Db];exact Nat.zero_le _)) rfl [4,1,5,6,7,8,9,50] ⟨rfl,rfl,rfl,rfl,rfl,rfl,rfl,rfl,trivial⟩ Z Z Z Z (fun r H' ⟨ad,hs3,M53,e1,e2,_,_⟩=>by subst e1 e2;exact ⟨rfl,rfl,rfl⟩) rfl) rfl ?_;rintro _ ⟨r,H',⟨ad,hs3,M53,e1,e2,hG3,hVR⟩,rfl⟩;subst e1 e2;refine AF ?_;have e5:Ak (Ak ls n []) (n+1 - 1) (Ak ls n [] (n+1 - 1)++ad)=Ak ls n ad:=by show Ak (Ak ls n []) n (Ak ls n [] n++ad)=_;rw [Fb,Db];rfl
   rw [e5] at hG3⊢;have hself:w.R[k]∈ad:=hVR.self.resolve_left hxO;have hadl:ad.length≤w.R.length:=N5 hVR.nd fun y hy=>(hVR.nw y hy).2.1;have hGn:=hG3.at_ n (Nat.lt_succ_self n);rw [Db] at hGn;obtain ⟨b1,c1,hbe⟩:∃b1 c1,hs3 n=some (b1,c1):=by rcases hd_two (hs3 n) with e | e;rw [e] at hGn;have hz:ad.map AU=[]:=hGn;rw [List.map_eq_nil_iff] at hz;rw [hz] at hself;cases hself;exact e
   rw [hbe] at hGn;refine AH ?_
   first | refine J (AZ Z Z Dz rfl) ?_ | refine J (AX Z Z Z Dz rfl) ?_ | refine J (AY Z Z (rfl) rfl Dz rfl) ?_
   first | refine J (AZ Z Z Dz rfl) ?_ | refine J (AX Z Z Z Dz rfl) ?_ | refine J (AY Z Z (rfl) rfl Dz rfl) ?_
   first | refine J (IJ rfl Try.underlying79 rfl) ?_ | refine J (CI Z Z Try.underlying79 rfl) ?_ | refine J (iOq rfl Try.underlying79 rfl) ?_ | refine J (IQ rfl Try.underlying79 rfl) ?_ | refine J (IN rfl Try.underlying79 rfl) ?_ | refine J (IB rfl Try.underlying79 rfl) ?_
   refine J (Cc Z Z (show IntKind.i64.wrap (((n+1:Nat):Int) - 1)=(n:Int) from OT (n:=n+1) (by omega) (by omega)) rfl) ?_
   first | refine J (BC (n) Z Z (rfl) (Nat.lt_succ_self n) Try.underlying79 rfl Bl rfl) ?_ | refine J (BD (n) Z Z (rfl) (Nat.lt_succ_self n) rfl Try.underlying79 Bl rfl) ?_
   first | refine J (AZ Z Z AK rfl) ?_ | refine J (AX Z Z Z AK rfl) ?_ | refine J (AY Z Z (show (rowS (n+1) hs3 (Ak ls n ad))[n]?=some (.raw (sV b1 ad.length c1)) from by rw [FN (Nat.lt_succ_self n),hbe,Db];rfl) rfl AK rfl) ?_
   refine U (OY OC (f:=50) ad (by omega) Z Z Z hGn.2 Z Z Z Z) ?_;obtain ⟨hse,hP2⟩:=hP.new hw hkl hxO hVR;have hG4:=hG3.put (Nat.lt_succ_self n) hbe (l:=Cr ad) (by rw [Ch];simpa using hGn.1);rw [Fb,hse] at hG4;have hro:rowS (n+1) hs3 (Ak ls n ad)=rowS (n+1) hs3 (Ak ls n (cls w w.R[k])):=by refine List.map_congr_left fun j _=>?_;by_cases e:j=n;subst e;rw [Db,Db,←hse,Ch];rw [EM e,EM e]
   rw [hse,hro];refine AF (AH (J (C8 Z Z (IntWalk.i64_in _ (by omega)) rfl) (AC Z Z (AF ?_))));exact ⟨(k+1,addO O ad n,n+1,hs3,Ak ls n (cls w w.R[k]),_),⟨hkl,hP2,hG4⟩,by show w.R.length - (k+1)<w.R.length - k;omega,Ax hF [40,4,1,5,6,7,8,9,50] rfl (rfl) ⟨rfl,rfl,rfl,rfl,rfl,rfl,rfl,trivial⟩⟩
  ·refine Aj (AH (J (C8 Z Z (IntWalk.i64_in _ (by omega)) rfl) (AC Z Z (AF ?_))));exact ⟨(k+1,O,n,hs,ls,M5),⟨hkl,hP.old hw hkl (DA.1 (by simpa using h34)),hG⟩,by show w.R.length - (k+1)<w.R.length - k;omega,Ax hF [40,4,1,5,6,7,8,9,50] rfl (rfl) ⟨rfl,rfl,rfl,rfl,rfl,rfl,rfl,trivial⟩⟩
 ·refine D7 (AE ?_);have hke:k=w.R.length:=by have:=h24;omega
  subst hke;obtain ⟨hrw,hix⟩:=hP.fin hw;refine Nh 8 0 50 ((Oa n ls).map stsD) Z Z Z Z Z (by rw [List.length_map,Nr,RT]) hG.melt ⟨Is _ _ _,one_sts _⟩ rfl ?_;rw [hrw];have hnl:(parts w).length=n:=by rw [←hrw,Nr]
  refine CU (ys:=(parts w).map stsD) 7 0 0 8 Z Z Z (Nat.le_of_eq (by rw [List.length_map,hnl])) (List.take_of_length_le (by rw [List.length_map,hnl];exact Nat.le_refl _)) Z Z Z Z Z Z (Fs [[],[],[0],[0,1,2]] mixed rfl (E6 ?_))
  first | refine AG [6] [7] Z Z (fun _=>AB (AZ Z Z Dz rfl)) ?_ | refine AG [6] [7] Z Z (fun _=>AB (AX Z Z Z Dz rfl)) ?_ | refine AG [6] [7] Z Z (fun _=>AB (AY Z Z (rfl) rfl Dz rfl)) ?_
  first | refine AG [5] [5] Z Z (fun _=>AB (AZ Z Z FD rfl)) ?_ | refine AG [5] [5] Z Z (fun _=>AB (AX Z Z Z FD rfl)) ?_ | refine AG [5] [5] Z Z (fun _=>AB (AY Z Z (rfl) rfl FD rfl)) ?_
  first | refine AG [49] [] Z Z (fun _=>AB (Cf Z Z)) ?_ | refine AI [49] Z Z (fun _=>AB (Cf Z Z)) ?_
  refine E7 3 Z Z Z (Bq 4 Z Z (AD Z Z (AF ⟨rfl,?_⟩)));refine FH (Av ?_);exact ⟨_,[40,6],_,As rfl,rfl,rfl,O,rfl,rfl,hix⟩
theorem exmin (p:Nat ->Prop):∀(m x:Nat),p x ->x≤m ->∃y,p y∧∀z,p z ->y≤z:=by
 intro m
 induction m with
 | zero=>intro x hx hm;exact ⟨x,hx,fun z _=>by omega⟩
 | succ m ih=>
  intro x hx hm
  by_cases h:∃y,p y∧y≤m
  ·obtain ⟨y,hy,hym⟩:=h;exact ih y hy hym
  ·exact ⟨x,hx,fun z hz=>by
    have:¬z≤m:=fun h2=>h ⟨z,hz,h2⟩
    omega⟩
theorem Q8 {l:List Nat} (hl:l.Pairwise (· ≤ ·)) {i j:Nat} (hij:i≤j) (hj:j<l.length):By l i≤By l j:=by
 rcases Nat.eq_or_lt_of_le hij with e | h
 ·subst e;exact Nat.le_refl _
 ·rw [C2 (by omega),C2 hj];exact List.pairwise_iff_getElem.1 hl i j (by omega) hj h
theorem Mg {l:List Nat} (hl:l.Pairwise (· ≤ ·)):(EF l l.length).Pairwise (· < ·):=by
 unfold EF;rw [List.pairwise_map];refine List.Pairwise.imp_of_mem (fun {i j} hi hj hij=>?_) (List.Pairwise.filter _ List.pairwise_lt_range);obtain ⟨hj1,hj2⟩:=List.mem_filter.1 hj;have hj1:=List.mem_range.1 hj1;rcases of_decide_eq_true hj2 with e | e
 ·omega
 ·have h1:=Q8 hl (i:=i) (j:=j - 1) (by omega) (by omega);have h2:=Q8 hl (i:=j - 1) (j:=j) (by omega) hj1;omega
theorem RB {l:List Nat} {x:Nat}:x∈EF l l.length↔x∈l:=by
 unfold EF;rw [List.mem_map]
 constructor
 ·rintro ⟨i,hi,rfl⟩;exact Do (List.mem_range.1 (List.mem_filter.1 hi).1)
 ·intro hx;obtain ⟨i,hi,e⟩:=List.mem_iff_getElem.1 hx;obtain ⟨j,⟨hj,hjx⟩,hm⟩:=exmin (fun j=>j<l.length∧By l j=x) i i ⟨hi,by rw [C2 hi];exact e⟩ (Nat.le_refl _);refine ⟨j,List.mem_filter.2 ⟨List.mem_range.2 hj,decide_eq_true ?_⟩,hjx⟩
  by_cases h0:j=0
  ·exact .inl h0
  ·refine .inr fun e2=>?_;have:=hm (j - 1) ⟨by omega,by rw [←e2,hjx]⟩;omega
theorem Mf (l:List Nat):(G8 l).Pairwise (· < ·):=Mg (Gg l)
theorem RA {l:List Nat} {x:Nat}:x∈G8 l↔x∈l:=by unfold G8;rw [RB,(Eb l).mem_iff]
structure DP (w:Ws) (acc:List Lw) (L:Nat ->List Nat):Prop where
 mem:∀i k,k∈L i↔∃l∈acc,l.t=1∧idx w l.f≠idx w l.r∧idx w l.f=i∧idx w l.r=k
 len:∀i,(L i).length≤acc.length
theorem DP.zero (w:Ws):DP w [] (fun _=> []):=⟨fun i k=>by simp,fun _=>Nat.le_refl _⟩
theorem DP.skip {w:Ws} {acc:List Lw} {L:Nat ->List Nat} (h:DP w acc L) {l:Lw} (hl:¬(l.t=1∧idx w l.f≠idx w l.r)):DP w (acc++ [l]) L:=by
 refine ⟨fun i k=>?_,fun i=>?_⟩
 ·rw [h.mem]
  constructor
  ·rintro ⟨x,hx,r⟩;exact ⟨x,List.mem_append_left _ hx,r⟩
  ·rintro ⟨x,hx,h1,h2,r⟩;rcases List.mem_append.1 hx with hx | hx
   ·exact ⟨x,hx,h1,h2,r⟩
   ·simp at hx;subst hx;exact absurd ⟨h1,h2⟩ hl
 ·have:=h.len i;simp;omega
theorem DP.hit {w:Ws} {acc:List Lw} {L:Nat ->List Nat} (h:DP w acc L) {l:Lw} (h1:l.t=1) (h2:idx w l.f≠idx w l.r):DP w (acc++ [l]) (Ak L (idx w l.f) (L (idx w l.f)++ [idx w l.r])):=by
 refine ⟨fun i k=>?_,fun i=>?_⟩
 ·by_cases e:i=idx w l.f
  ·subst e;rw [Db,List.mem_append,h.mem]
   constructor
   ·rintro (⟨x,hx,r⟩ | hk)
    ·exact ⟨x,List.mem_append_left _ hx,r⟩
    ·exact ⟨l,List.mem_append_right _ (by simp),h1,h2,rfl,(List.mem_singleton.1 hk).symm⟩
   ·rintro ⟨x,hx,q1,q2,q3,q4⟩;rcases List.mem_append.1 hx with hx | hx
    ·exact .inl ⟨x,hx,q1,q2,q3,q4⟩
    ·simp at hx;subst hx;exact .inr (by simp [q4])
  ·rw [EM e,h.mem]
   constructor
   ·rintro ⟨x,hx,r⟩;exact ⟨x,List.mem_append_left _ hx,r⟩
   ·rintro ⟨x,hx,q1,q2,q3,q4⟩;rcases List.mem_append.1 hx with hx | hx
    ·exact ⟨x,hx,q1,q2,q3,q4⟩
    ·simp at hx;subst hx;exact absurd q3.symm e
 ·have h3:=h.len i
  by_cases e:i=idx w l.f
  ·rw [e,Db];rw [e] at h3;simp;exact h3
  ·rw [EM e];simp;omega
theorem DP.fin {w:Ws} {acc:List Lw} {L:Nat ->List Nat} (h:DP w acc L) (hw:B4 w) (hp:acc.Perm w.K) (i:Nat):G8 (L i)=depL w i:=by
 refine Ie (Mf _) (FX w i) fun k=>?_;rw [RA,h.mem,CA hw];unfold Dep
 constructor
 ·rintro ⟨l,hl,h1,h2,h3,h4⟩;exact ⟨by rw [←h3,←h4];exact h2,l,hp.mem_iff.1 hl,h1,h3,h4⟩
 ·rintro ⟨hne,l,hl,h1,h3,h4⟩;exact ⟨l,hp.mem_iff.2 hl,h1,by rw [h3,h4];exact hne,h3,h4⟩
def Mj (L:Nat ->List Nat) (i:Nat):Nat ->List Nat:=fun j=>if j<i then G8 (L j) else L j
theorem RI (L:Nat ->List Nat):Mj L 0=L:=by funext c;unfold Mj;rw [if_neg (by omega)]
theorem LM (L:Nat ->List Nat) (i:Nat):Mj L i i=L i:=by unfold Mj;rw [if_neg (by omega)]
theorem JM (L:Nat ->List Nat) (i:Nat):Ak (Mj L i) i (G8 (L i))=Mj L (i+1):=by
 funext c
 by_cases e:c=i
 ·subst e;rw [Db];unfold Mj;rw [if_pos (by omega)]
 ·rw [EM e];unfold Mj
  by_cases h:c<i
  ·rw [if_pos h,if_pos (by omega)]
  ·rw [if_neg h,if_neg (by omega)]
theorem cdD_end (n:Nat) (L:Nat ->List Nat):grF n (Mj L n)=(List.range n).map fun i=>G8 (L i):=by
 unfold grF;exact List.map_congr_left fun c hc=>by unfold Mj;rw [if_pos (List.mem_range.1 hc)]
noncomputable def depG (w:Ws):List (List Nat):=(List.range (parts w).length).map (depL w)
set_option maxHeartbeats 2000000 in
theorem N6 {M:MF} {b:Nat} {w:Ws} (h:BX M b w) (hw:B4 w) (hK:w.K.length≤1000000) {O:List (St×Nat)} (hO:∀x∈w.R,CM O x 0=idx w x) {M7:MF} {x7:Nat} {bs7:Option (List Nat×Nat)} (h7:M7 x7=some (.map bs7 (A9 AU natD O))):
  AT Try.prog 57 [.d (pD b 0),.d (CL (parts w)),.d (mD x7)] [(40,[.multi M]),(7,[.multi M7])] fun r H'=>r= .d (grD (depG w))∧H'=[(40,[.multi M]),(7,[.multi M7])]:=by
 obtain ⟨m,E,lk,hr,hl⟩:=h;have hperm:=hl.perm hw;have hfew:=hw.few;have hbm:b≠m:=fun e=>by subst e;have:=hr.cell;rw [hr.top] at this;cases this
 have hpm:∀p∈E,p.2≠m:=fun p hp e=>hr.ne (by rw [←e];exact List.mem_map_of_mem hp)
 obtain ⟨n,hn⟩:∃n,(parts w).length=n:=⟨_,rfl⟩
 have hnR:n≤4096:=by rw [←hn];unfold parts;rw [List.length_map];exact Nat.le_trans (List.length_filter_le _ _) hfew
 refine DI Try.func57 Z Z Try.ntmps57 Z Z Z fun F hF=>(AE (AH (AD Z Z (AF (AE (AH (AC Z Z ?_)))))));refine J (CI rfl ((List.length_map ..).trans hn) Try.underlying79 rfl) (U (Fc 20 sl101 Z Z Z (by omega) zd49 Z Z Z Z) (AD Z Z (AF (AE (AE (Hg 20 0 (rowH n (fun _=>none) (fun _=> [])) rfl (by rw [CZ,List.length_replicate]) (MI n) ⟨Nx _,Gs _ _ _⟩ rfl (Ds 50 Z Z Z (Cm 40 m rfl hr.top (fun _ _=>rfl) fun B c hB hBn=>?_))))))))
 obtain ⟨M1,hM1⟩:∃M1,BN M m (.map (some (B,c)) (DG E))=M1:=⟨_,rfl⟩
 rw [hM1];have h1b:M1 b=some (.cells 68 [mD m]):=by rw [←hM1,EJ hbm];exact hr.cell
 have h1m:M1 m=some (.map (some (B,c)) (DG E)):=by rw [←hM1,D6]
 have h1s:∀p∈E,M1 p.2=some (.map none (Dt (lk p.2))):=fun p hp=>by rw [←hM1,EJ (hpm p hp)];exact hr.sub p hp
 refine AH (AC Z Z ?_)
 first | refine J (GJ Z Z) ?_ | refine J (GH Z Z) ?_ | refine J (GK Z Z) ?_ | refine J (GI Z Z) ?_
 first | refine J (A2 rfl A8 Z Z Z) ?_ | refine J (A4 rfl A8 Z Z Z) ?_ | refine J (A5 rfl A8 Z Z Z) ?_ | refine J (A3 rfl A8 Z Z Z) ?_ | refine J (A1 rfl A8 Z Z Z) ?_
 refine J (G9 (f:=40) Z Z (h1b) rfl Br rfl) (U (Cd 21 (f:=40) Z Z (h1m) rfl C3 Z Z Z Z) (AF (BU (Ev (α:=List Nat×List Lw×(Nat ->Hd)×(Nat ->List Nat)×MF) (fun q=>⟨81,[(0,.d (pD b 0)),(2,.d (mD x7)),(7,(.own 20 0 n)),(19,(.ptr 21 0 0))],[(20,[.rowD 49 1 (rowH n q.2.2.1 q.2.2.2.1)]),(21,[.iter 40 m c q.1]),(40,[.multi M1]),(7,[.multi M7]),(50,[.multi q.2.2.2.2])]⟩) (fun q=>(q.2.1++(Bc (eE E) B q.1).flatMap (Cq lk)).Perm ((eE E).flatMap (Cq lk))∧F9 q.2.2.2.2 n q.2.2.1 q.2.2.2.1∧DP w q.2.1 q.2.2.2.1) (fun q=>(Bc (eE E) B q.1).length) (([],[],(fun _=>none),(fun _=> []),fun _=>none)) (⟨by show ([]++(Bc (eE E) B []).flatMap _).Perm _;rw [Ck (by simpa [A9] using hB)];exact List.Perm.refl _,F9.zero n,DP.zero w⟩) (Ax hF [20,21,40,7,50] Z Z ⟨rfl,rfl,rfl,rfl,trivial⟩) ?_))));rintro ⟨seen,acc,hs,L,M5⟩ ⟨hP,hN,hA⟩;dsimp only at hP hN hA⊢;refine AE (AH (Eg (eE E) Z Z Z (h1m) rfl (fun hl20=>?_) (fun j20 b20 k20 v20 hm20 hb20 hB20 hp20=>⟨_,rfl,?_⟩)))
 ·rw [hl20] at hP;refine DK 40 m rfl h1m rfl ?_;rw [show BN M1 m (.map none (DG E))=M by rw [←hM1,Bz];exact Fj hr.top]
  first | refine J (Bi Z Z Z) ?_ | refine J (Bj Z Z Z) ?_
  refine AF (AE (EI Z Z (D7 (AE (AE ?_)))));have hPK:acc.Perm w.K:=(show acc.Perm _ by simpa using hP).trans hperm;have hLl:∀i,(L i).length≤1048576:=fun i=>Nat.le_trans (hA.len i) (by rw [hPK.length_eq];omega);rw [←RI L] at hN⊢;refine AH (AC Z Z ?_)
  first | refine J (IJ rfl Try.underlying101 rfl) ?_ | refine J (CI Z Z Try.underlying101 rfl) ?_ | refine J (iOq rfl Try.underlying101 rfl) ?_ | refine J (IQ rfl Try.underlying101 rfl) ?_ | refine J (IN rfl Try.underlying101 rfl) ?_ | refine J (IB rfl Try.underlying101 rfl) ?_
  refine AC Z Z (AF (BU (Ev (α:=Nat×MF×(Nat ->Hd)) (fun q=>⟨81,[(7,(.own 20 0 n)),(61,(.own 20 0 n)),(62,(.d (natD n))),(63,(.d (natD q.1)))],[(20,[.rowD 49 1 (rowH n q.2.2 (Mj L q.1))]),(40,[.multi M]),(7,[.multi M7]),(50,[.multi q.2.1])]⟩) (fun q=>q.1≤n∧F9 q.2.1 n q.2.2 (Mj L q.1)) (fun q=>n - q.1) ((0,M5,hs)) (⟨Nat.zero_le _,hN⟩) (Ax hF [20,40,7,50] Z Z ⟨rfl,rfl,rfl,rfl,trivial⟩) ?_)));rintro ⟨i,M6,hs⟩ ⟨hi,hr6⟩;dsimp only at hi hr6⊢;refine AE (AH ?_)
  first | refine J (EG Z Z Z) ?_ | refine J (EK Z Z Z) ?_
  refine AF (AE ?_)
  first | refine BA rfl (fun h64=>?_) (fun h64=>?_) | refine Aw rfl (fun h64=>?_) (fun h64=>?_)
  ·refine Aj (AE (BU (AE ?_)));have hic:i<n:=GR h64;have hat:=hr6.at_ i hic;have hcl2:=hLl i;rw [LM] at hat;have hget:=FO (hs:=hs) (ls:=Mj L i) hic;rw [LM] at hget;refine AH (AC Z Z (AD Z Z (AF (AE (AH (AC Z Z (AC Z Z ?_)))))))
   first | refine J (BC (i) Z Z (rfl) (hic) Try.underlying101 rfl Bk rfl) ?_ | refine J (BD (i) Z Z (rfl) (hic) rfl Try.underlying101 Bk rfl) ?_
   first | refine J (AZ Z Z Af rfl) ?_ | refine J (AX Z Z Z Af rfl) ?_ | refine J (AY Z Z (hget) rfl Af rfl) ?_
   rcases hd_two (hs i) with hh | ⟨b1,c1,hh⟩<;>rw [hh] at hat hget⊢
   ·refine U (O0 Q9 Z Z Z) (AF (AH ?_));have h0:L i=[]:=List.map_eq_nil_iff.1 hat;have hcst:Mj L i=Mj L (i+1):=by rw [←JM,h0,Qz];exact (De (by rw [LM,h0])).symm
    refine AC Z Z (AC Z Z (AC Z Z (AC Z Z ?_)))
    first | refine J (BC (i) Z Z (rfl) (hic) Try.underlying101 rfl Bk rfl) ?_ | refine J (BD (i) Z Z (rfl) (hic) rfl Try.underlying101 Bk rfl) ?_
    first | refine J (AZ Z Z Af rfl) ?_ | refine J (AX Z Z Z Af rfl) ?_ | refine J (AY Z Z (hget) rfl Af rfl) ?_
    refine U (GG PL rfl [] trivial Z Z Z Z Z Z Z Z Z) ?_
    first | refine J (BC (i) Z Z (rfl) (hic) Try.underlying101 rfl Bk rfl) ?_ | refine J (BD (i) Z Z (rfl) (hic) rfl Try.underlying101 Bk rfl) ?_
    refine U (Zci Z Z Z Z Z (by rw [CZ];exact hic) (Gi (h:=none) (l:=[])) rfl Bk) (AF (AH (J (C8 Z Z (IntWalk.i64_in _ (by omega)) rfl) (AC Z Z (AF ?_)))));exact ⟨(i+1,M6,hs),⟨hic,by rw [←hcst];exact hr6⟩,by show n - (i+1)<n - i;omega,Ax hF [20,40,7,50] rfl (by rw [De hh,De (show Mj L i i=[] by rw [LM,h0]),hcst];rfl) ⟨rfl,rfl,rfl,rfl,trivial⟩⟩
   ·refine U (OZ (f:=50) Q9 ((L i).map Int.ofNat) (by rw [List.length_map];omega) Z Z Z hat.2 (ofN_map _) (by rw [List.length_map]) Z Z) (AF (AH ?_));have hrc:(L i).length≤c1:=by have:=hat.1;rwa [List.length_map] at this
    have hcp:=(Na hrc hcl2 M6 b1).by [(40,50)] rfl;rw [Jo];refine AC Z Z (AC Z Z (AC Z Z (AC Z Z ?_)))
    first | refine J (BC (i) Z Z (rfl) (hic) Try.underlying101 rfl Bk rfl) ?_ | refine J (BD (i) Z Z (rfl) (hic) rfl Try.underlying101 Bk rfl) ?_
    first | refine J (AZ Z Z Af rfl) ?_ | refine J (AX Z Z Z Af rfl) ?_ | refine J (AY Z Z (hget) rfl Af rfl) ?_
    refine U (GG hcp rfl [50] ⟨rfl,trivial⟩ Z Z Z Z Z Z Z Z Z) ?_
    first | refine J (BC (i) Z Z (rfl) (hic) Try.underlying101 rfl Bk rfl) ?_ | refine J (BD (i) Z Z (rfl) (hic) rfl Try.underlying101 Bk rfl) ?_
    refine U (Zci Z Z Z Z Z (by rw [CZ];exact hic) (Gi (h:=some (b1,c1)) (l:=G8 (L i))) rfl Bk) (AF (AH (J (C8 Z Z (IntWalk.i64_in _ (by omega)) rfl) (AC Z Z (AF ?_)))));exact ⟨(i+1,BN M6 b1 (.row 3 1 c1 ((G8 (L i)).map natD)),hs),⟨hic,by have:=hr6.put hic hh (Nat.le_trans (cptS_le _) hrc);rw [JM] at this;exact this⟩,by show n - (i+1)<n - i;omega,Ax hF [20,40,7,50] rfl (by rw [De hh,JM,Bz];rfl) ⟨rfl,rfl,rfl,rfl,trivial⟩⟩
  ·refine D7 (AE ?_);have hin:i=n:=by have:=h64;omega
   subst hin;have hdg:grF i (Mj L i)=depG w:=by rw [cdD_end];unfold depG;rw [hn];exact List.map_congr_left fun j _=>hA.fin hw hPK j
   refine Nh 20 0 50 ((depG w).map natsD) Z Z Z Z Z (by rw [←hdg,List.length_map,Fn,CZ]) (by rw [←hdg];exact hr6.melt) ⟨Gs _ _ _,QL _⟩ rfl (PZ (emb:=natsD) 7 20 (depG w) Z Z Z (by rw [←hdg,Fn]) Z Z Z (AH (AC Z Z (AD Z Z (AF (Av ?_))))));exact ⟨_,[40,7],_,As rfl,rfl,rfl,rfl,rfl⟩
 ·first | refine J (Bi Z Z Z) ?_ | refine J (Bj Z Z Z) ?_
  refine AF (AE (K0 Z Z (Aj (BU (AE (AH (J (Ce (eE E) j20 b20 Z Z Z (h1m) hm20 hb20 rfl) ?_)))))))
  first | refine J (Bi Z Z Z) ?_ | refine J (Bj Z Z Z) ?_
  first | refine J (Bi Z Z Z) ?_ | refine J (Bj Z Z Z) ?_
  refine AD Z Z (AD Z Z (AF (AE ?_)));obtain ⟨hd,hpe,hve⟩:=HD hm20;subst hve;have hkR:k20∈w.R:=(hl.ks k20).1 (List.mem_map_of_mem (f:=Prod.fst) hpe);refine Cm 40 hd rfl (h1s _ hpe) (fun _ _=>rfl) fun B2 c2 hB2 hBn2=>?_
  obtain ⟨M2,hM2⟩:∃M2,BN M1 hd (.map (some (B2,c2)) (Dt (lk hd)))=M2:=⟨_,rfl⟩
  rw [hM2];have h2h:M2 hd=some (.map (some (B2,c2)) (Dt (lk hd))):=by rw [←hM2,D6]
  refine AH (AC Z Z (U (Cd 22 (f:=40) Z Z (h2h) rfl H7 Z Z Z Z) (AF (BU (Ev (α:=List Nat×List Lw×(Nat ->Hd)×(Nat ->List Nat)×MF) (fun q=>⟨81,[(0,.d (pD b 0)),(2,.d (mD x7)),(7,(.own 20 0 n)),(8,(.d (AU k20))),(19,(.ptr 21 0 0)),(26,(.ptr 22 0 0))],[(20,[.rowD 49 1 (rowH n q.2.2.1 q.2.2.2.1)]),(21,[.iter 40 m c (seen++ [b20])]),(22,[.iter 40 hd c2 q.1]),(40,[.multi M2]),(7,[.multi M7]),(50,[.multi q.2.2.2.2])]⟩) (fun q=>(q.2.1++((Bc (EA (lk hd)) B2 q.1).map (fun x=>(⟨k20,x.1.t,x.1.r⟩:Lw))++(Bc (eE E) B (seen++ [b20])).flatMap (Cq lk))).Perm ((eE E).flatMap (Cq lk))∧F9 q.2.2.2.2 n q.2.2.1 q.2.2.2.1∧DP w q.2.1 q.2.2.2.1) (fun q=>(Bc (EA (lk hd)) B2 q.1).length) (([],acc,hs,L,M5)) (⟨by show (acc++((Bc (EA (lk hd)) B2 []).map _++_)).Perm _;rw [Ck (by simpa [A9] using hB2)];exact Nt hP hp20 (Hq lk k20 hd),hN,hA⟩) (Ax hF [20,21,22,40,7,50] Z Z ⟨rfl,rfl,rfl,rfl,rfl,rfl,trivial⟩) ?_)))));rintro ⟨seen2,acc2,hs2,L2,M52⟩ ⟨hP2,hN2,hA2⟩;dsimp only at hP2 hN2 hA2⊢;refine AE (AH (Eg (EA (lk hd)) Z Z Z (h2h) rfl (fun hl27=>?_) (fun j27 b27 k27 v27 hm27 hb27 hB27 hp27=>⟨_,rfl,?_⟩)))
  ·rw [hl27] at hP2;refine DK 40 hd rfl h2h rfl ?_;rw [show BN M2 hd (.map none (Dt (lk hd)))=M1 by rw [←hM2,Bz];exact Fj (h1s _ hpe)]
   first | refine J (Bi Z Z Z) ?_ | refine J (Bj Z Z Z) ?_
   refine AF (AE (EI Z Z (D7 ?_)));exact ⟨(seen++ [b20],acc2,hs2,L2,M52),⟨by simpa using hP2,hN2,hA2⟩,by show (Bc (eE E) B (seen++ [b20])).length<(Bc (eE E) B seen).length;rw [hp20.length_eq];exact Nat.lt_succ_self _,Ax hF [20,21,40,7,50] rfl (rfl) ⟨rfl,rfl,rfl,rfl,trivial⟩⟩
  ·first | refine J (Bi Z Z Z) ?_ | refine J (Bj Z Z Z) ?_
   refine AF (AE (K0 Z Z (Aj (BU (AE (AH (J (Ce (EA (lk hd)) j27 b27 Z Z Z (h2h) hm27 hb27 rfl) ?_)))))))
   first | refine J (Bi Z Z Z) ?_ | refine J (Bj Z Z Z) ?_
   refine U (IP 23 Mt Z Z Z Z) (U (Bu Z Z Z Z Z Z Z sz39) (AF (AE ?_)));have hlK:(⟨k20,k27.t,k27.r⟩:Lw)∈w.K:=(hl.ls _ hpe k27).1 (Q7 hm27);have hrR:k27.r∈w.R:=(hw.lk _ hlK).2.1;have hik:idx w k20<n:=by rw [←hn];exact DZ hw hkR
   have hir:idx w k27.r<n:=by rw [←hn];exact DZ hw hrR
   refine AH ?_
   first | refine J (A2 rfl IL Z Z Z) ?_ | refine J (A4 rfl IL Z Z Z) ?_ | refine J (A5 rfl IL Z Z Z) ?_ | refine J (A3 rfl IL Z Z Z) ?_ | refine J (A1 rfl IL Z Z Z) ?_
   first | refine J (AZ Z Z Ba rfl) ?_ | refine J (AX Z Z Z Ba rfl) ?_ | refine J (AY Z Z (rfl) rfl Ba rfl) ?_
   first | refine J (GC Z Z Z) ?_ | refine J (GA Z Z Z) ?_ | refine J (F5 Z Z Z) ?_ | refine J (Ft Try.underlying3 Z Z Z) ?_ | refine J (Fw Try.underlying3 Z Z Z) ?_ | refine J (Fv Try.underlying3 Z Z) ?_ | refine J (Fz Try.underlying3 Z Z) ?_ | refine J (Fy Try.underlying3 Z Z) ?_ | refine J (Fu Try.underlying3 Z Z Z) ?_ | refine J (Fx Try.underlying3 Z Z) ?_
   refine AC Z Z ?_
   first | refine K6 34 rfl (fun h34=>?_) (fun h34=>?_) | refine J0 34 rfl (fun h34=>?_) (fun h34=>?_)
   ·refine Ab Z Z Z (AC Z Z (Ab Z Z Z (AC Z Z (Ab Z Z Z (J (HM (f:=7) O k20 0 (idx w k20) Z Z h7 rfl Gz EX PW (hO _ hkR) rfl) (Ab Z Z Z (AC Z Z (Ab Z Z Z ?_))))))))
    first | refine J (A2 rfl CF Z Z Z) ?_ | refine J (A4 rfl CF Z Z Z) ?_ | refine J (A5 rfl CF Z Z Z) ?_ | refine J (A3 rfl CF Z Z Z) ?_ | refine J (A1 rfl CF Z Z Z) ?_
    refine Ab Z Z Z ?_
    first | refine J (AZ Z Z AW rfl) ?_ | refine J (AX Z Z Z AW rfl) ?_ | refine J (AY Z Z (rfl) rfl AW rfl) ?_
    refine Ab Z Z Z (J (HM (f:=7) O k27.r 0 (idx w k27.r) Z Z h7 rfl Gz EX PW (hO _ hrR) rfl) (Ab Z Z Z ?_))
    first | refine J (Jh Z Z Z) ?_ | refine J (Jg Z Z Z) ?_ | refine J (JZ Z Z Z) ?_ | refine J (Ji Try.underlying3 Z Z Z) ?_ | refine J (Je Try.underlying3 Z Z Z) ?_ | refine J (st_neqN Try.underlying3 Z Z) ?_ | refine J (st_neqPr Try.underlying3 Z Z) ?_ | refine J (st_neqMz Try.underlying3 Z Z) ?_ | refine J (Jd Try.underlying3 Z Z Z) ?_ | refine J (st_neqFN Try.underlying3 Z Z) ?_
    refine J (Hz Z Z Z Z) (AF ?_)
    first | refine BA rfl (fun h43=>?_) (fun h43=>?_) | refine Aw rfl (fun h43=>?_) (fun h43=>?_)
    ·have hne:idx w k20≠idx w k27.r:=fun e=>h43 (congrArg Int.ofNat e);have hal:acc2.length≤1000000:=by have h1:=hP2.length_eq;rw [hperm.length_eq,List.length_append] at h1;omega
     have hln:=hA2.len (idx w k20);refine Fs [[],[],[],[1,2],[],[],[],[5,6],[4,5,6,7],[4,5,6,7,8],[],[],[11],[10,11,12],[10,11,12,13],[4,5,6,7,8,9,10,11,12,13,14],[0,1,2,3,4,5,6,7,8,9,10,11,12,13,14,15],[0,1,2,3,4,5,6,7,8,9,10,11,12,13,14,15,16]] mixed rfl (E6 ?_)
     first | refine AG [7] [] Z Z (fun _=>AB (Ah Z Z)) ?_ | refine AI [7] Z Z (fun _=>AB (Ah Z Z)) ?_
     first | refine AG [2] [] Z Z (fun _=>AB (Ah Z Z)) ?_ | refine AI [2] Z Z (fun _=>AB (Ah Z Z)) ?_
     first | refine AG [8] [] Z Z (fun _=>AB (Ah Z Z)) ?_ | refine AI [8] Z Z (fun _=>AB (Ah Z Z)) ?_
     refine AG [45,46] [7] Z Z (fun _=>AB (HM (f:=7) O k20 0 (idx w k20) Z Z h7 rfl Gz EX PW (hO _ hkR) rfl)) ?_
     first | refine AG [7] [] Z Z (fun _=>AB (Ah Z Z)) ?_ | refine AI [7] Z Z (fun _=>AB (Ah Z Z)) ?_
     first | refine AG [2] [] Z Z (fun _=>AB (Ah Z Z)) ?_ | refine AI [2] Z Z (fun _=>AB (Ah Z Z)) ?_
     first | refine AG [8] [] Z Z (fun _=>AB (Ah Z Z)) ?_ | refine AI [8] Z Z (fun _=>AB (Ah Z Z)) ?_
     refine AG [49,50] [7] Z Z (fun _=>AB (HM (f:=7) O k20 0 (idx w k20) Z Z h7 rfl Gz EX PW (hO _ hkR) rfl)) ?_
     first | refine AG [48,51] [20] Z Z (fun _=>AB (BC (idx w k20) Z Z (rfl) (hik) Try.underlying101 rfl Bk rfl)) ?_ | refine AG [48,51] [20] Z Z (fun _=>AB (BD (idx w k20) Z Z (rfl) (hik) rfl Try.underlying101 Bk rfl)) ?_
     first | refine AG [52] [20] Z Z (fun _=>AB (AZ Z Z Af rfl)) ?_ | refine AG [52] [20] Z Z (fun _=>AB (AX Z Z Z Af rfl)) ?_ | refine AG [52] [20] Z Z (fun _=>AB (AY Z Z (FO hik) rfl Af rfl)) ?_
     first | refine AG [2] [] Z Z (fun _=>AB (Ah Z Z)) ?_ | refine AI [2] Z Z (fun _=>AB (Ah Z Z)) ?_
     first | refine AG [10] [] Z Z (fun _=>AB (A2 rfl CF Z Z Z)) ?_ | refine AI [10] Z Z (fun _=>AB (A2 rfl CF Z Z Z)) ?_ | refine AG [10] [] Z Z (fun _=>AB (A4 rfl CF Z Z Z)) ?_ | refine AI [10] Z Z (fun _=>AB (A4 rfl CF Z Z Z)) ?_ | refine AG [10] [] Z Z (fun _=>AB (A5 rfl CF Z Z Z)) ?_ | refine AI [10] Z Z (fun _=>AB (A5 rfl CF Z Z Z)) ?_ | refine AG [10] [] Z Z (fun _=>AB (A3 rfl CF Z Z Z)) ?_ | refine AI [10] Z Z (fun _=>AB (A3 rfl CF Z Z Z)) ?_ | refine AG [10] [] Z Z (fun _=>AB (A1 rfl CF Z Z Z)) ?_ | refine AI [10] Z Z (fun _=>AB (A1 rfl CF Z Z Z)) ?_
     first | refine AG [55] [23] Z Z (fun _=>AB (AZ Z Z AW rfl)) ?_ | refine AG [55] [23] Z Z (fun _=>AB (AX Z Z Z AW rfl)) ?_ | refine AG [55] [23] Z Z (fun _=>AB (AY Z Z (rfl) rfl AW rfl)) ?_
     refine AG [54,56] [7] Z Z (fun _=>AB (HM (f:=7) O k27.r 0 (idx w k27.r) Z Z h7 rfl Gz EX PW (hO _ hrR) rfl)) (CE [57] [24] [(58,_)] Z Z (fun _=>IM (Ga 24 Du Z Z Z Z Z Z Z Z)) (.inr ⟨58,_,rfl,rfl,rfl,rfl,rfl⟩) Z Z Z Z Z (CE [53,58] [50,24,60] [(59,_)] Z Z (fun _=>IM (Gf 53 60 50 (hN2.at_ (idx w k20) hik) Z Z (by rw [List.length_map]) Z Z Z Z Z (I2 (emb:=natD) (L2 (idx w k20)) [idx w k27.r] Z Z Z Z Z Z Z Z Du (by show ((L2 (idx w k20)).length+1)*8≤_;omega) Z Z Z Z))) (.inr ⟨59,_,rfl,rfl,rfl,rfl,rfl⟩) Z Z Z Z Z (E7 16 Z Z Z (Bq 17 Z Z (EV 59 60 50 hF Z Z Z (by rw [List.length_map]) (by simp) Z Z Z Z Z Z Z (fun _ _=>rfl) fun b1 c1 hb1 hc1=>?_)))));have hN3:=hN2.app hik hb1 hc1
     first | refine J (BC (idx w k20) Z Z (rfl) (hik) Try.underlying101 rfl Bk rfl) ?_ | refine J (BD (idx w k20) Z Z (rfl) (hik) rfl Try.underlying101 Bk rfl) ?_
     refine AF ⟨rfl,?_⟩;refine Bq 18 Z Z (U (Zci Z Z Z Z Z (by rw [CZ];exact hik) (Gi (h:=some (b1,c1))) rfl Bk) (AF ⟨rfl,?_⟩));refine FH ?_;exact ⟨(seen2++ [b27],acc2++ [⟨k20,k27.t,k27.r⟩],Ak hs2 (idx w k20) (some (b1,c1)),_,_),⟨Gm hP2 hp27,hN3,hA2.hit (l:=⟨k20,k27.t,k27.r⟩) h34 hne⟩,by show (Bc (EA (lk hd)) B2 (seen2++ [b27])).length<(Bc (EA (lk hd)) B2 seen2).length;rw [hp27.length_eq];exact Nat.lt_succ_self _,Ax hF [20,21,22,40,7,50] rfl (rfl) ⟨rfl,rfl,rfl,rfl,rfl,rfl,trivial⟩⟩
    ·refine Aj ?_;exact ⟨(seen2++ [b27],acc2++ [⟨k20,k27.t,k27.r⟩],hs2,L2,M52),⟨Gm hP2 hp27,hN2,hA2.skip (l:=⟨k20,k27.t,k27.r⟩) (fun hh=>h43 (fun e=>hh.2 (Int.ofNat.inj e)))⟩,by show (Bc (EA (lk hd)) B2 (seen2++ [b27])).length<(Bc (EA (lk hd)) B2 seen2).length;rw [hp27.length_eq];exact Nat.lt_succ_self _,Ax hF [20,21,22,40,7,50] rfl (rfl) ⟨rfl,rfl,rfl,rfl,rfl,rfl,trivial⟩⟩
   ·refine BL Z Z Z Z (BL Z Z Z Z (BL Z Z Z Z ?_));refine BL Z Z Z Z (BL Z Z Z Z (BL Z Z Z Z (BL Z Z Z Z (BL Z Z Z Z (J (HO Z Z Z Z) (AF (EI Z Z (Aj ?_))))))));exact ⟨(seen2++ [b27],acc2++ [⟨k20,k27.t,k27.r⟩],hs2,L2,M52),⟨Gm hP2 hp27,hN2,hA2.skip (l:=⟨k20,k27.t,k27.r⟩) (fun hh=>h34 hh.1)⟩,by show (Bc (EA (lk hd)) B2 (seen2++ [b27])).length<(Bc (EA (lk hd)) B2 seen2).length;rw [hp27.length_eq];exact Nat.lt_succ_self _,Ax hF [20,21,22,40,7,50] rfl (rfl) ⟨rfl,rfl,rfl,rfl,rfl,rfl,trivial⟩⟩
abbrev IH (g:Grp):D:= .agg [stsD g.m,natsD g.a]
abbrev Em (l:List Grp):D:= .sl none (l.map IH)
def DL (ord:List Nat) (i:Nat):Int:=if i∈ord then (ord.idxOf i:Int) else -1
theorem Gu {ord:List Nat} {i:Nat}:DL ord i<0↔i∉ord:=by
 unfold DL
 split
 ·rename_i h;simp [h]
 ·rename_i h;simp [h]
theorem QU:DL []=fun _=> -1:=by funext i;simp [DL]
theorem Ov {ord:List Nat} {i:Nat} (h:i∉ord):Ak (DL ord) i (ord.length:Int)=DL (ord++ [i]):=by
 funext j
 unfold DL Ak;show (if j=i then (ord.length:Int) else (if j∈ord then (ord.idxOf j:Int) else -1))=if j∈ord++ [i] then ((ord++ [i]).idxOf j:Int) else -1
 by_cases e:j=i
 ·subst e;rw [if_pos rfl,if_pos (by simp),List.idxOf_append,if_neg h]
  simp
 ·rw [if_neg e]
  by_cases hj:j∈ord
  ·rw [if_pos hj,if_pos (by simp [hj]),List.idxOf_append,if_pos hj]
  ·rw [if_neg hj,if_neg (by simp [hj,e])]
theorem KQ (w:Ws) (ord:List Nat) (i:Nat):grpS w (ord++ [i])=grpS w ord++ [⟨(parts w).getD i [],D1 (depL w) ord i ord.length⟩]:=by
 unfold grpS;rw [List.length_append,List.length_singleton,List.range_succ,List.map_append]
 have hg:∀k,k<ord.length ->(ord++ [i]).getD k 0=ord.getD k 0:=fun k hk=>by
  rw [List.getD_eq_getElem?_getD,List.getD_eq_getElem?_getD,List.getElem?_append_left hk]
 have ha:∀j p,p≤ord.length ->D1 (depL w) (ord++ [i]) j p=D1 (depL w) ord j p:=fun j p hp=>by
  unfold D1;exact List.filter_congr fun k hk=>by rw [hg k (by have:=List.mem_range.1 hk;omega)]
 congr 1
 ·refine List.map_congr_left fun p hp=>?_;have hp:=List.mem_range.1 hp;rw [hg p hp,ha _ p (Nat.le_of_lt hp)]
 ·simp only [List.map_cons,List.map_nil];have:(ord++ [i]).getD ord.length 0=i:=by simp [List.getD_eq_getElem?_getD]
  rw [this,ha _ _ (Nat.le_refl _)]
theorem O7 {l m:List Nat} (h:l.Nodup) (hm:m.Pairwise (· < ·)) (he:∀x,x∈l↔x∈m):Cs l=m:=by
 have h1:=(Eb l).nodup_iff.2 h;refine Ie ?_ hm fun x=>((Eb l).mem_iff).trans (he x);exact (List.Pairwise.and (Gg l) h1).imp fun ⟨h2,h3⟩=>by omega
theorem Mm {w:Ws} {ord:List Nat} {i:Nat} (hnd:ord.Nodup) (hd:∀k∈depL w i,k∈ord):Cs ((depL w i).map ord.idxOf)=D1 (depL w) ord i ord.length:=by
 have hat:∀k∈ord,ord[ord.idxOf k]?=some k:=fun k hk=>by
  have hlt:=List.idxOf_lt_length_iff.2 hk;rw [List.getElem?_eq_getElem hlt,List.getElem_idxOf hlt]
 refine O7 ?_ (List.Pairwise.sublist List.filter_sublist List.pairwise_lt_range) fun p=>?_
 ·rw [List.nodup_iff_pairwise_ne,List.pairwise_map];refine List.Pairwise.imp_of_mem (fun {a b} ha hb hab e=>?_) (FX w i);have h1:=hat a (hd a ha);rw [e,hat b (hd b hb)] at h1;injection h1 with h1
  omega
 ·unfold D1;rw [List.mem_map,List.mem_filter,List.mem_range,List.contains_iff_mem]
  constructor
  ·rintro ⟨k,hk,rfl⟩;have h1:=hat k (hd k hk);refine ⟨(List.getElem?_eq_some_iff.1 h1).1,?_⟩;rw [List.getD_eq_getElem?_getD,h1];exact hk
  ·rintro ⟨hp,hk⟩;refine ⟨_,hk,?_⟩;have h2:ord[p]?=some (ord.getD p 0):=by rw [List.getD_eq_getElem?_getD,List.getElem?_eq_getElem hp];rfl
   have h3:=hat _ (hd _ hk);have hn:=List.nodup_iff_pairwise_ne.1 hnd;have hlt:=(List.getElem?_eq_some_iff.1 h3).1;refine Classical.byContradiction fun hne=>?_;have e1:=(List.getElem?_eq_some_iff.1 h3).2;have e2:=(List.getElem?_eq_some_iff.1 h2).2;rcases Nat.lt_or_gt_of_ne hne with h4 | h4
   ·exact (List.pairwise_iff_getElem.1 hn _ _ hlt hp h4) (e1.trans e2.symm)
   ·exact (List.pairwise_iff_getElem.1 hn _ _ hp hlt h4) (e2.trans e1.symm)
abbrev HN (n:Nat) (f:Nat ->Int):Hp:=[(930,[.blk 49 [.own 931 0 n]]),(931,[.rowD 3 1 (Ll n f)])]
theorem ord1_c (n:Nat) (f:Nat ->Int) (k:Nat) (hk:k<n):AT Try.prog 59 [.d (natD k),.ptr 930 0 0] (HN n f) fun r H'=>r= .d (Ar (decide (f k<0)))∧H'=HN n f:=by
 refine DI Try.func59 Z Z Try.ntmps59 Z Z Z fun F hF=>(AE (AH (AD Z Z (AF (AE (AH ?_))))))
 first | refine J (AZ Z Z Af rfl) ?_ | refine J (AX Z Z Z Af rfl) ?_ | refine J (AY Z Z (rfl) rfl Af rfl) ?_
 refine AC Z Z ?_
 first | refine J (BC (k) Z Z (rfl) (hk) Try.underlying49 rfl D5 rfl) ?_ | refine J (BD (k) Z Z (rfl) (hk) rfl Try.underlying49 D5 rfl) ?_
 first | refine J (AZ Z Z Ba rfl) ?_ | refine J (AX Z Z Z Ba rfl) ?_ | refine J (AY Z Z (Ii hk) rfl Ba rfl) ?_
 first | refine J (EG Z Z Z) ?_ | refine J (EK Z Z Z) ?_
 refine AD Z Z (AF (Av ?_));exact ⟨_,[930,931],_,As rfl,rfl,rfl,rfl,rfl⟩
def ixN (f:Nat ->Int) (l:List Nat):Int:=match l.findIdx? (fun k=>decide (f k<0)) with
 | some i=>(i:Int)
 | none=> -1
theorem ixN_at {f:Nat ->Int} {l:List Nat} {j:Nat} (hj:j<l.length) (h0:∀i,i<j ->¬f (By l i)<0) (h:f (By l j)<0):ixN f l=(j:Int):=by
 have:l.findIdx? (fun k=>decide (f k<0))=some j:=by
  rw [List.findIdx?_eq_some_iff_getElem];refine ⟨hj,by rw [←C2 hj];simpa using h,fun i hi=>?_⟩;have:=h0 i hi;rw [C2 (by omega)] at this
  simpa using this
 unfold ixN;rw [this]
theorem ixN_no {f:Nat ->Int} {l:List Nat} (h0:∀i,i<l.length ->¬f (By l i)<0):ixN f l= -1:=by
 have:l.findIdx? (fun k=>decide (f k<0))=none:=by
  rw [List.findIdx?_eq_none_iff];intro x hx;obtain ⟨i,hi,rfl⟩:=List.getElem_of_mem hx;have:=h0 i hi;rw [C2 hi] at this
  simpa using this
 unfold ixN;rw [this]
abbrev o1A:AV:= .fn 59 [.ptr 930 0 0]
theorem idxF_c (n:Nat) (f:Nat ->Int) (l:List Nat) (hl:∀k∈l,k<n) (hll:l.length≤1000000):AT Try.prog 74 [.d (natsD l),o1A] (HN n f) fun r H'=>r= .d (Bw (ixN f l))∧H'=HN n f:=by
 refine DI Try.func74 Z Z Try.ntmps74 Z Z Z fun F hF=>(AE (AH (AD Z Z (AF ?_))));refine AE (AE (AH (AC Z Z (J (CI rfl (List.length_map ..) Try.underlying49 rfl) (AC Z Z (AF (BU (Ni (α:=Nat) (fun j=>⟨19,[(0,.d (natsD l)),(1,o1A),(7,(.d (natD l.length))),(8,(.d (natD j)))],HN n f⟩) (fun j=>j≤l.length∧∀i,i<j ->¬f (By l i)<0) (fun j=>l.length - j) (0) (⟨Nat.zero_le _,fun i hi=>by omega⟩) (Fl ⟨rfl,rfl,rfl,rfl,trivial⟩) ?_))))))));rintro j ⟨hj,h0⟩;refine AE (AH ?_)
 first | refine J (EG Z Z Z) ?_ | refine J (EK Z Z Z) ?_
 refine AF (AE ?_)
 first | refine BA rfl (fun h9=>?_) (fun h9=>?_) | refine Aw rfl (fun h9=>?_) (fun h9=>?_)
 ·have hjl:j<l.length:=GR h9;refine Aj (AE (BU (AE ?_)));refine AH (AC Z Z (AD Z Z (AF (AE (AH (AC Z Z (AC Z Z (AC Z Z ?_))))))))
  first | refine J (BC (j) Z Z (rfl) (EC hjl) Try.underlying49 rfl D5 rfl) ?_ | refine J (BD (j) Z Z (rfl) (EC hjl) rfl Try.underlying49 D5 rfl) ?_
  first | refine J (AZ Z Z Ba rfl) ?_ | refine J (AX Z Z Z Ba rfl) ?_ | refine J (AY Z Z (rfl) rfl Ba rfl) ?_
  refine U (O5 (ord1_c n f (By l j) (hl _ (Do hjl))) rfl [930,931] ⟨rfl,rfl,trivial⟩ Z Z Z Z Z Z Z Z Z) (AF ?_)
  first | refine BA rfl (fun h16=>?_) (fun h16=>?_) | refine Aw rfl (fun h16=>?_) (fun h16=>?_)
  ·refine AE (AH (AC Z Z (AD Z Z (AF (Av ?_)))));exact ⟨_,[930,931],_,As rfl,rfl,rfl,by rw [ixN_at hjl h0 h16],rfl⟩
  ·refine Aj (AH (J (C8 Z Z (IntWalk.i64_in _ (by omega)) rfl) (AC Z Z (AF ?_))));exact ⟨j+1,⟨hjl,fun i hi=>by by_cases e:i=j;subst e;exact h16;exact h0 i (by omega)⟩,by show l.length - (j+1)<l.length - j;omega,⟨rfl,rfl,fun _ _=>Has.get (l:=[(0,_),(1,_),(7,_),(8,_)]) ⟨rfl,rfl,rfl,rfl,trivial⟩⟩⟩
 ·refine D7 (AE (AH (AD Z Z (AF (Av ?_)))));exact ⟨_,[930,931],_,As rfl,rfl,rfl,by rw [ixN_no fun i hi=>h0 i (by have:=h9;omega)],rfl⟩
theorem ixN_any (f:Nat ->Int) (l:List Nat):decide (0≤ixN f l)=decide (∃k∈l,f k<0):=by
 unfold ixN
 cases h:l.findIdx? (fun k=>decide (f k<0)) with
 | some i=>
  obtain ⟨h1,h2,_⟩:=List.findIdx?_eq_some_iff_getElem.1 h;rw [decide_eq_true (show (0:Int)≤(i:Int) by omega),decide_eq_true];exact ⟨_,List.getElem_mem h1,by simpa using h2⟩
 | none=>
  rw [List.findIdx?_eq_none_iff] at h;rw [decide_eq_false (by decide),decide_eq_false];rintro ⟨k,hk,h1⟩;have:=h k hk
  simp at this;omega
theorem contF_c (n:Nat) (f:Nat ->Int) (l:List Nat) (hl:∀k∈l,k<n) (hll:l.length≤1000000):AT Try.prog 58 [.d (natsD l),o1A] (HN n f) fun r H'=>r= .d (Ar (decide (∃k∈l,f k<0)))∧H'=HN n f:=by
 refine DI Try.func58 Z Z Try.ntmps58 Z Z Z fun F hF=>(AE (AH (AD Z Z (AF ?_))));refine AE (AH (AC Z Z (AC Z Z (U (GG (idxF_c n f l hl hll) rfl [930,931] ⟨rfl,rfl,trivial⟩ Z Z Z Z Z Z Z Z Z) (J (Ic Z Z Z) (AD Z Z (AF (Av ?_))))))));exact ⟨_,[930,931],_,As rfl,rfl,rfl,by rw [←ixN_any],rfl⟩
theorem FY (w:Ws):(depG w).length=(parts w).length:=by simp [depG]
theorem Me (w:Ws) (i:Nat):(depL w i).length≤(parts w).length:=by
 unfold depL;exact Nat.le_trans (List.length_filter_le _ _) (Nat.le_of_eq List.length_range)
theorem IZ {w:Ws} {i:Nat} (hi:i<(parts w).length):((depG w).map natsD)[i]?=some (natsD (depL w i)):=by
 rw [List.getElem?_map,depG,List.getElem?_map,List.getElem?_range hi];rfl
theorem Hy {w:Ws} {i:Nat} (hi:i<(parts w).length):((parts w).map stsD)[i]?=some (stsD ((parts w).getD i [])):=by
 rw [List.getElem?_map,List.getElem?_eq_getElem hi,List.getD_eq_getElem?_getD,List.getElem?_eq_getElem hi];rfl
theorem rdy_num {dp:Nat ->List Nat} {ord:List Nat} {i:Nat} (h1:DL ord i<0) (h2:¬∃k∈dp i,DL ord k<0):GF dp ord i=true:=
 C1.2 ⟨Gu.1 h1,fun k hk=>Classical.byContradiction fun h=>h2 ⟨k,hk,Gu.2 h⟩⟩
theorem Px {dp:Nat ->List Nat} {ord:List Nat} {i:Nat} (h1:¬DL ord i<0):GF dp ord i=false:=by
 rw [Bool.eq_false_iff];exact fun h=>h1 (Gu.2 (C1.1 h).1)
theorem Pw {dp:Nat ->List Nat} {ord:List Nat} {i:Nat} (h2:∃k∈dp i,DL ord k<0):GF dp ord i=false:=by
 rw [Bool.eq_false_iff];intro h;obtain ⟨k,hk,h3⟩:=h2;exact Gu.1 h3 ((C1.1 h).2 k hk)
structure Hj (w:Ws) (ord:List Nat):Prop where
 good:C7 (parts w).length (depL w) ord
 run:Gh (parts w).length (depL w) ((parts w).length - ord.length) ord=ordW w
theorem Hj.zero (w:Ws):Hj w []:=⟨C7.nil,rfl⟩
theorem Hj.next {w:Ws} {ord:List Nat} (h:Hj w ord) (hl:ord.length<(parts w).length) {i:Nat} (hi:H6 (parts w).length (depL w) ord=some i):Hj w (ord++ [i]):=by
 obtain ⟨h1,h2,h3⟩:=EW hi;refine ⟨h.good.snoc h1 h2 h3,?_⟩;have hr:=h.run;rw [show (parts w).length - ord.length=((parts w).length - (ord++ [i]).length)+1 by simp;omega] at hr;simp only [Gh,hi] at hr;exact hr
theorem Hj.stop {w:Ws} {ord:List Nat} (h:Hj w ord) (hl:ord.length<(parts w).length) (hi:H6 (parts w).length (depL w) ord=none):ordW w=none:=by
 have hr:=h.run;rw [show (parts w).length - ord.length=((parts w).length - ord.length - 1)+1 by omega] at hr;simp only [Gh,hi] at hr;exact hr.symm
theorem Hj.fin {w:Ws} {ord:List Nat} (h:Hj w ord) (hl:¬ord.length<(parts w).length):ordW w=some ord:=by
 have hr:=h.run;rw [show (parts w).length - ord.length=0 by omega] at hr;exact hr.symm
theorem LD {w:Ws} (h:ordW w=none):groupsW w=[]∧acyW w=false:=by unfold groupsW acyW;rw [h];exact ⟨rfl,rfl⟩
theorem Fm {w:Ws} {ord:List Nat} (h:ordW w=some ord):groupsW w=grpS w ord∧acyW w=true:=by unfold groupsW acyW;rw [h];exact ⟨rfl,rfl⟩
theorem D0 (w:Ws) (ord:List Nat):(grpS w ord).length=ord.length:=by simp [grpS]
theorem upd_neg {f:Nat ->Int} {k j:Nat} (hf:∀j,j<k ->f j= -1) (hj:j<k+1):Ak f k (-1) j= -1:=by
 by_cases e:j=k
 ·rw [e];exact Db ..
 ·rw [EM e];exact hf j (by omega)
set_option maxHeartbeats 2000000 in
theorem Gr {M:MF} {b:Nat} {w:Ws} (h:BX M b w) (hw:B4 w) (hK:w.K.length≤1000000):AT Try.prog 38 [.d (pD b 0)] [(40,[.multi M])] fun r H'=>r= .d (.tup [Em (groupsW w),Ar (acyW w)])∧H'=[(40,[.multi M])]:=by
 have hfew:=hw.few
 obtain ⟨n,hn⟩:∃n,(parts w).length=n:=⟨_,rfl⟩
 have hnR:n≤4096:=by rw [←hn];unfold parts;rw [List.length_map];exact Nat.le_trans (List.length_filter_le _ _) hfew
 refine DI Try.func38 Z Z Try.ntmps38 Z Z Z fun F hF=>?_;refine AE (AH (AD Z Z (MC 2 rfl (AD Z Z (AF (AE (AH (AC Z Z ?_))))))));refine IA (JS (IV h hw hK) rfl [40,6] ⟨rfl,rfl,trivial⟩ Z Z Z Z (fun r H' ⟨O,e1,e2,_⟩=>by subst e1 e2;exact ⟨rfl,rfl,rfl⟩) rfl) rfl ?_;rintro _ ⟨r,H',⟨O,e1,e2,hO⟩,rfl⟩;subst e1 e2;refine AC Z Z ?_
 first | refine J (Bi Z Z Z) ?_ | refine J (Bj Z Z Z) ?_
 first | refine J (Bi Z Z Z) ?_ | refine J (Bj Z Z Z) ?_
 refine AD Z Z (AD Z Z (AF (AE (Ds 7 Z Z Z (Hh 5 6 7 hF Z Z Z Z Z Z Z Z Z Z (fun _=>rfl) fun x7 _=>?_)))))
 obtain ⟨M7,hM7⟩:∃M7,BN (fun _=>none) x7 (.map (some (List.range O.length,O.length)) (A9 AU natD O))=M7:=⟨_,rfl⟩
 rw [hM7];have h7:M7 x7=some (.map (some (List.range O.length,O.length)) (A9 AU natD O)):=by rw [←hM7,D6]
 refine AH (AC Z Z (AC Z Z (AC Z Z (U (GG (N6 h hw hK hO h7) rfl [40,7] ⟨rfl,rfl,trivial⟩ Z Z Z Z Z Z Z Z Z) (AD Z Z (AF (AE ?_)))))));refine AH (AC Z Z (J (CI rfl ((List.length_map ..).trans hn) Try.underlying79 rfl) (U (Fc 931 Du Z Z Z (by omega) zd3 Z Z Z Z) (U (IP 930 zl49 Z Z Z Z) (U (Bu Z Z Z Z Z Z Z Bk) (AF (AE (AE ?_))))))));rw [repI];refine AH ?_
 first | refine J (AZ Z Z Af rfl) ?_ | refine J (AX Z Z Z Af rfl) ?_ | refine J (AY Z Z (rfl) rfl Af rfl) ?_
 first | refine J (IJ rfl Try.underlying49 rfl) ?_ | refine J (CI Z Z Try.underlying49 rfl) ?_ | refine J (iOq rfl Try.underlying49 rfl) ?_ | refine J (IQ rfl Try.underlying49 rfl) ?_ | refine J (IN rfl Try.underlying49 rfl) ?_ | refine J (IB rfl Try.underlying49 rfl) ?_
 refine AC Z Z (AF (BU (Ev (α:=Nat×(Nat ->Int)) (fun q=>⟨103,[(0,.d (pD b 0)),(4,(.d (CL (parts w)))),(6,(.d (grD (depG w)))),(7,(.ptr 930 0 0)),(29,(.d (natD n))),(30,(.d (natD q.1)))],(40,[.multi M])::HN n q.2⟩) (fun q=>q.1≤n∧∀j,j<q.1 ->q.2 j= -1) (fun q=>n - q.1) ((0,fun _=>0)) (⟨Nat.zero_le _,fun j hj=>by omega⟩) (Ax hF [40,930,931] Z Z ⟨rfl,rfl,rfl,rfl,rfl,rfl,trivial⟩) ?_)));rintro ⟨k,f⟩ ⟨hk,hf⟩;dsimp only at hk hf⊢;refine AE (AH ?_)
 first | refine J (EG Z Z Z) ?_ | refine J (EK Z Z Z) ?_
 refine AF (AE ?_)
 first | refine BA rfl (fun h31=>?_) (fun h31=>?_) | refine Aw rfl (fun h31=>?_) (fun h31=>?_)
 ·refine Aj (AE (BU (AE ?_)));have hkl:k<n:=GR h31;refine AH (AC Z Z (AD Z Z (AF (AH ?_))))
  first | refine J (AZ Z Z Af rfl) ?_ | refine J (AX Z Z Z Af rfl) ?_ | refine J (AY Z Z (rfl) rfl Af rfl) ?_
  refine AC Z Z ?_
  first | refine J (BC (k) Z Z (rfl) (hkl) Try.underlying49 rfl D5 rfl) ?_ | refine J (BD (k) Z Z (rfl) (hkl) rfl Try.underlying49 D5 rfl) ?_
  refine U (Zci Z Z Z Z Z (by rw [Lj];exact hkl) Li rfl D5) (AF (AH (J (C8 Z Z (IntWalk.i64_in _ (by omega)) rfl) (AC Z Z (AF ?_)))));exact ⟨(k+1,Ak f k (-1)),⟨hkl,fun j hj=>upd_neg hf hj⟩,by show n - (k+1)<n - k;omega,Ax hF [40,930,931] rfl (rfl) ⟨rfl,rfl,rfl,rfl,rfl,rfl,trivial⟩⟩
 ·refine D7 (AE ?_);have hkn:k=n:=by have:=h31;omega
  subst hkn;have hro:Ll k f=Ll k (DL []):=by rw [QU];exact List.map_congr_left fun j hj=>by rw [hf j (List.mem_range.1 hj)]
  unfold HN;rw [hro];refine AH (AD Z Z (AF (AE (BU (Eu 9 932 sl47 Z Z Z Z (Ev (α:=List Nat×List Grp) (fun q=>⟨103,[(0,.d (pD b 0)),(4,(.d (CL (parts w)))),(6,(.d (grD (depG w)))),(7,(.ptr 930 0 0)),(9,(.own 932 0 q.2.length))],(40,[.multi M])::(932,[.rowD 51 2 (q.2.map IH)])::HN k (DL q.1)⟩) (fun q=>Hj w q.1∧q.2=grpS w q.1) (fun q=>k - q.1.length) (([],[])) (⟨Hj.zero w,rfl⟩) (Ax hF [40,932,930,931] Z Z ⟨rfl,rfl,rfl,rfl,rfl,trivial⟩) ?_))))));rintro ⟨ord,gs⟩ ⟨hI,hgs⟩;dsimp only at hI hgs⊢;refine AE (AE (AH (AC Z Z ?_)))
  first | refine J (IJ rfl Try.underlying47 rfl) ?_ | refine J (CI Z Z Try.underlying47 rfl) ?_ | refine J (iOq rfl Try.underlying47 rfl) ?_ | refine J (IQ rfl Try.underlying47 rfl) ?_ | refine J (IN rfl Try.underlying47 rfl) ?_ | refine J (IB rfl Try.underlying47 rfl) ?_
  refine AC Z Z (J (CI rfl ((List.length_map ..).trans hn) Try.underlying79 rfl) ?_)
  first | refine J (EG Z Z Z) ?_ | refine J (EK Z Z Z) ?_
  refine AF ?_
  first | refine BA rfl (fun h41=>?_) (fun h41=>?_) | refine Aw rfl (fun h41=>?_) (fun h41=>?_)
  ·refine Aj (BU (AE ?_));have hgl:gs.length=ord.length:=by rw [hgs,D0]
   have hlt:gs.length<k:=GR h41;refine AH (AD Z Z (AF ?_));refine AE (AE (AH (AC Z Z (J (CI rfl ((List.length_map ..).trans hn) Try.underlying79 rfl) (AC Z Z (AF (BU (Ev (α:=Nat) (fun i=>⟨103,[(0,.d (pD b 0)),(4,(.d (CL (parts w)))),(6,(.d (grD (depG w)))),(7,(.ptr 930 0 0)),(9,(.own 932 0 gs.length)),(10,(.d (Bw (-1)))),(43,(.d (natD k))),(44,(.d (natD i)))],(40,[.multi M])::(932,[.rowD 51 2 (gs.map IH)])::HN k (DL ord)⟩) (fun i=>i≤k∧∀j,j<i ->GF (depL w) ord j=false) (fun i=>k - i) (0) (⟨Nat.zero_le _,fun j hj=>by omega⟩) (Ax hF [40,932,930,931] Z Z ⟨rfl,rfl,rfl,rfl,rfl,rfl,rfl,rfl,trivial⟩) ?_))))))));rintro i ⟨hi,hnr⟩;refine AE (AH ?_)
   first | refine J (EG Z Z Z) ?_ | refine J (EK Z Z Z) ?_
   refine AF (AE ?_)
   first | refine BA rfl (fun h45=>?_) (fun h45=>?_) | refine Aw rfl (fun h45=>?_) (fun h45=>?_)
   ·refine Aj (AE (BU (AE ?_)));have hil:i<k:=GR h45;have hil':i<(parts w).length:=by rw [hn];exact hil
    have hdl:(depL w i).length≤4096:=Nat.le_trans (Me w i) (by omega);refine AH (AC Z Z (AD Z Z (AF (AE (AH ?_)))))
    first | refine J (AZ Z Z Af rfl) ?_ | refine J (AX Z Z Z Af rfl) ?_ | refine J (AY Z Z (rfl) rfl Af rfl) ?_
    refine AC Z Z ?_
    first | refine J (BC (i) Z Z (rfl) (hil) Try.underlying49 rfl D5 rfl) ?_ | refine J (BD (i) Z Z (rfl) (hil) rfl Try.underlying49 D5 rfl) ?_
    first | refine J (AZ Z Z Ba rfl) ?_ | refine J (AX Z Z Z Ba rfl) ?_ | refine J (AY Z Z (Ii hil) rfl Ba rfl) ?_
    first | refine J (EG Z Z Z) ?_ | refine J (EK Z Z Z) ?_
    refine AC Z Z ?_
    first | refine K6 52 rfl (fun h52=>?_) (fun h52=>?_) | refine J0 52 rfl (fun h52=>?_) (fun h52=>?_)
    ·refine Ab Z Z Z (AC Z Z (Ab Z Z Z (AC Z Z (Ab Z Z Z ?_))))
     first | refine J (BC (i) Z Z (rfl) (IZ hil') Try.underlying101 rfl Bk rfl) ?_ | refine J (BD (i) Z Z (rfl) (IZ hil') rfl Try.underlying101 Bk rfl) ?_
     refine Ab Z Z Z ?_
     first | refine J (AZ Z Z Af rfl) ?_ | refine J (AX Z Z Z Af rfl) ?_ | refine J (AY Z Z (rfl) rfl Af rfl) ?_
     refine Ab Z Z Z (J (FL Z Z) (Ab Z Z Z (U (GG (contF_c k (DL ord) (depL w i) (fun x hx=>by rw [←hn];exact Fq hx) (by omega)) rfl [930,931] ⟨rfl,rfl,trivial⟩ Z Z Z Z Z Z Z Z Z) (Ab Z Z Z ?_))))
     first | refine J (FB Z Z) ?_ | refine J (FA Z Z) ?_
     refine J (Hz Z Z Z Z) (AD Z Z (AF (AE (AH (AC Z Z (AF ?_))))))
     first | refine BA rfl (fun h61=>?_) (fun h61=>?_) | refine Aw rfl (fun h61=>?_) (fun h61=>?_)
     ·refine AE ?_;refine AH (AC Z Z (AD Z Z (AF (D7 (AE (AE (AH (AC Z Z ?_))))))))
      first | refine J (EG Z Z Z) ?_ | refine J (EK Z Z Z) ?_
      refine AF (EI rfl ((decide_eq_false (by omega))) (Aj (AE ?_)));have hrd:=rdy_num h52 h61;have hnx:H6 (parts w).length (depL w) ord=some i:=Eh hil' hrd hnr;obtain ⟨_,hio,hds⟩:=EW hnx;refine AH (AC Z Z (AC Z Z ?_))
      first | refine J (BC (i) Z Z (rfl) (Hy hil') Try.underlying79 rfl Bl rfl) ?_ | refine J (BD (i) Z Z (rfl) (Hy hil') rfl Try.underlying79 Bl rfl) ?_
      first | refine J (AZ Z Z AK rfl) ?_ | refine J (AX Z Z Z AK rfl) ?_ | refine J (AY Z Z (rfl) rfl AK rfl) ?_
      refine J (Mr zl51 pl51 Z Z Z) (U (IP 940 zl51 Z Z Z Z) (U (Bu Z Z Z Z Z Z Z Cb) (AF (AE (AE (AH (AC Z Z (AC Z Z ?_))))))))
      first | refine J (BC (i) Z Z (rfl) (IZ hil') Try.underlying101 rfl Bk rfl) ?_ | refine J (BD (i) Z Z (rfl) (IZ hil') rfl Try.underlying101 Bk rfl) ?_
      first | refine J (AZ Z Z Af rfl) ?_ | refine J (AX Z Z Z Af rfl) ?_ | refine J (AY Z Z (rfl) rfl Af rfl) ?_
      refine J (CI rfl (List.length_map ..) Try.underlying49 rfl) (AC Z Z (AF (BU (D2 940 0 1 933 Du Z Z Z Z Z Z Z (Ev (α:=Nat×List Int) (fun q=>⟨103,[(0,.d (pD b 0)),(4,(.d (CL (parts w)))),(6,(.d (grD (depG w)))),(7,(.ptr 930 0 0)),(9,(.own 932 0 gs.length)),(10,(.d (natD i))),(13,(.ptr 940 0 0)),(74,(.d (natsD (depL w i)))),(75,(.d (natD (depL w i).length))),(76,(.d (natD q.1)))],(40,[.multi M])::(932,[.rowD 51 2 (gs.map IH)])::(940,[.blk 51 [.d (stsD ((parts w).getD i [])),.own 933 0 q.2.length]])::(933,[.rowD 3 1 (q.2.map Bw)])::HN k (DL ord)⟩) (fun q=>q.1≤(depL w i).length∧q.2=((depL w i).take q.1).map (DL ord)) (fun q=>(depL w i).length - q.1) ((0,[])) (⟨Nat.zero_le _,rfl⟩) (Ax hF [40,932,940,933,930,931] Z Z ⟨rfl,rfl,rfl,rfl,rfl,rfl,rfl,rfl,rfl,rfl,trivial⟩) ?_)))));rintro ⟨j,acc⟩ ⟨hj,hacc⟩;dsimp only at hj hacc⊢;refine AE (AH ?_)
      first | refine J (EG Z Z Z) ?_ | refine J (EK Z Z Z) ?_
      refine AF (AE ?_)
      first | refine BA rfl (fun h77=>?_) (fun h77=>?_) | refine Aw rfl (fun h77=>?_) (fun h77=>?_)
      ·refine Aj (AE (BU (AE ?_)));have hjl:j<(depL w i).length:=GR h77;have hal:acc.length≤4096:=by rw [hacc,List.length_map,List.length_take];omega
       have hkl2:By (depL w i) j<k:=by rw [←hn];exact Fq (Do hjl)
       refine AH ?_
       first | refine J (BC (j) Z Z (rfl) (EC hjl) Try.underlying49 rfl D5 rfl) ?_ | refine J (BD (j) Z Z (rfl) (EC hjl) rfl Try.underlying49 D5 rfl) ?_
       first | refine J (AZ Z Z Ba rfl) ?_ | refine J (AX Z Z Z Ba rfl) ?_ | refine J (AY Z Z (rfl) rfl Ba rfl) ?_
       refine AD Z Z (AF (Fs [[],[0],[],[],[2,3],[2,3,4],[2,3,4,5],[0,1,2,3,4,5,6],[0,1,2,3,4,5,6,7],[0,1,2,3,4,5,6,7,8]] mixed rfl (E6 ?_)))
       first | refine AG [13] [] Z Z (fun _=>AB (A2 rfl Da Z Z Z)) ?_ | refine AI [13] Z Z (fun _=>AB (A2 rfl Da Z Z Z)) ?_ | refine AG [13] [] Z Z (fun _=>AB (A4 rfl Da Z Z Z)) ?_ | refine AI [13] Z Z (fun _=>AB (A4 rfl Da Z Z Z)) ?_ | refine AG [13] [] Z Z (fun _=>AB (A5 rfl Da Z Z Z)) ?_ | refine AI [13] Z Z (fun _=>AB (A5 rfl Da Z Z Z)) ?_ | refine AG [13] [] Z Z (fun _=>AB (A3 rfl Da Z Z Z)) ?_ | refine AI [13] Z Z (fun _=>AB (A3 rfl Da Z Z Z)) ?_ | refine AG [13] [] Z Z (fun _=>AB (A1 rfl Da Z Z Z)) ?_ | refine AI [13] Z Z (fun _=>AB (A1 rfl Da Z Z Z)) ?_
       first | refine AG [80] [940] Z Z (fun _=>AB (AZ Z Z Af rfl)) ?_ | refine AG [80] [940] Z Z (fun _=>AB (AX Z Z Z Af rfl)) ?_ | refine AG [80] [940] Z Z (fun _=>AB (AY Z Z (rfl) rfl Af rfl)) ?_
       first | refine AG [7] [930] Z Z (fun _=>AB (AZ Z Z Af rfl)) ?_ | refine AG [7] [930] Z Z (fun _=>AB (AX Z Z Z Af rfl)) ?_ | refine AG [7] [930] Z Z (fun _=>AB (AY Z Z (rfl) rfl Af rfl)) ?_
       first | refine AG [15] [] Z Z (fun _=>AB (Ah Z Z)) ?_ | refine AI [15] Z Z (fun _=>AB (Ah Z Z)) ?_
       first | refine AG [82,83] [931] Z Z (fun _=>AB (BC (By (depL w i) j) Z Z (rfl) (hkl2) Try.underlying49 rfl D5 rfl)) ?_ | refine AG [82,83] [931] Z Z (fun _=>AB (BD (By (depL w i) j) Z Z (rfl) (hkl2) rfl Try.underlying49 D5 rfl)) ?_
       first | refine AG [84] [931] Z Z (fun _=>AB (AZ Z Z Ba rfl)) ?_ | refine AG [84] [931] Z Z (fun _=>AB (AX Z Z Z Ba rfl)) ?_ | refine AG [84] [931] Z Z (fun _=>AB (AY Z Z (Ii hkl2) rfl Ba rfl)) ?_
       refine CE [85] [941] [(86,_)] Z Z (fun _=>IM (Ga 941 Du Z Z Z Z Z Z Z Z)) (.inr ⟨86,_,rfl,rfl,rfl,rfl,rfl⟩) Z Z Z Z Z (E7 7 Z Z Z (Bq 8 Z Z ?_))
       first | refine U (I2 (acc) ([DL ord (By (depL w i) j)]) Z Z Z Z Z Z Z Z Du (by simp only [List.length_singleton];omega) Z Z Z Z) ?_ | refine U (Jf (acc) ([DL ord (By (depL w i) j)]) Z Z Z Z Z Z (fun _=>rfl) Du (by simp only [List.length_singleton];omega) Z Z Z Z) ?_
       refine AF ⟨rfl,?_⟩;refine Bq 9 Z Z ?_
       first | refine J (A2 rfl Da Z Z Z) ?_ | refine J (A4 rfl Da Z Z Z) ?_ | refine J (A5 rfl Da Z Z Z) ?_ | refine J (A3 rfl Da Z Z Z) ?_ | refine J (A1 rfl Da Z Z Z) ?_
       refine AF ⟨rfl,?_⟩;refine Bq 10 Z Z (U (Bu Z Z Z Z Z Z Z Bk) (AF ⟨rfl,?_⟩));refine FH (AH (J (C8 Z Z (IntWalk.i64_in _ (by omega)) rfl) (AC Z Z (AF ?_))));exact ⟨(j+1,acc++ [DL ord (By (depL w i) j)]),⟨hjl,by show _=((depL w i).take (j+1)).map (DL ord);rw [List.take_succ_eq_append_getElem hjl,List.map_append,hacc,C2 hjl];rfl⟩,by show (depL w i).length - (j+1)<(depL w i).length - j;omega,Ax hF [40,932,940,933,930,931] rfl (rfl) ⟨rfl,rfl,rfl,rfl,rfl,rfl,rfl,rfl,rfl,rfl,trivial⟩⟩
      ·refine D7 (AE ?_);have hje:j=(depL w i).length:=by have:=h77;omega
       have hac2:acc=(((depL w i).map ord.idxOf).map Int.ofNat):=by rw [hacc,hje,List.take_length,List.map_map];exact List.map_congr_left fun x hx=>by unfold DL;rw [if_pos (hds x hx)];rfl
       have hal2:acc.length≤4096:=by rw [hac2,List.length_map,List.length_map];exact hdl
       have hsort:(Dh acc).map zD=(D1 (depL w) ord i ord.length).map natD:=by rw [hac2,Jo,Mm hI.good.nd hds]
       have hsl:(D1 (depL w) ord i ord.length).length=acc.length:=by rw [←Mm hI.good.nd hds,ER,hac2,List.length_map,List.length_map,List.length_map]
       refine AH ?_
       first | refine J (A2 rfl Da Z Z Z) ?_ | refine J (A4 rfl Da Z Z Z) ?_ | refine J (A5 rfl Da Z Z Z) ?_ | refine J (A3 rfl Da Z Z Z) ?_ | refine J (A1 rfl Da Z Z Z) ?_
       first | refine J (AZ Z Z Af rfl) ?_ | refine J (AX Z Z Z Af rfl) ?_ | refine J (AY Z Z (rfl) rfl Af rfl) ?_
       refine U (P7 Q9 acc (by omega) Z Z Z Z Z Z Z) (AF (AE ?_));rw [hsort];refine CU (ys:=(D1 (depL w) ord i ord.length).map natD) 940 0 1 933 Z Z Z (Nat.le_of_eq (by rw [List.length_map,hsl])) (List.take_of_length_le (by rw [List.length_map,hsl];exact Nat.le_refl _)) Z Z Z Z Z Z (AH ?_)
       first | refine J (AZ Z Z Af rfl) ?_ | refine J (AX Z Z Z Af rfl) ?_ | refine J (AY Z Z (rfl) rfl Af rfl) ?_
       refine AC Z Z (AC Z Z ?_)
       first | refine J (IJ rfl Try.underlying47 rfl) ?_ | refine J (CI Z Z Try.underlying47 rfl) ?_ | refine J (iOq rfl Try.underlying47 rfl) ?_ | refine J (IQ rfl Try.underlying47 rfl) ?_ | refine J (IN rfl Try.underlying47 rfl) ?_ | refine J (IB rfl Try.underlying47 rfl) ?_
       first | refine J (BC (i) Z Z (rfl) (hil) Try.underlying49 rfl D5 rfl) ?_ | refine J (BD (i) Z Z (rfl) (hil) rfl Try.underlying49 D5 rfl) ?_
       refine U (Zci Z Z Z Z Z (by rw [Lj];exact hil) Li rfl D5) (AF ?_);rw [show Ak (DL ord) i (gs.length:Int)=DL (ord++ [i]) from by rw [hgl];exact Ov hio];refine AH (AC Z Z ?_)
       first | refine J (B3 Z Z rw51 rfl) ?_ | refine J (BZ Z Z rw51 Z Z Z) ?_ | refine J (B1 Z Z (rfl) rfl rw51 rfl) ?_
       refine U (Ga 942 sl47 Z Z Z Z Z Z Z Z) ?_
       first | refine U (I2 (gs) ([(⟨(parts w).getD i [],D1 (depL w) ord i ord.length⟩:Grp)]) Z Z Z Z Z Z Z Z sl47 (by simp only [List.length_singleton];omega) Z Z Z Z) ?_ | refine U (Jf (gs) ([(⟨(parts w).getD i [],D1 (depL w) ord i ord.length⟩:Grp)]) Z Z Z Z Z Z (fun _=>rfl) sl47 (by simp only [List.length_singleton];omega) Z Z Z Z) ?_
       refine AD Z Z (AF ?_);exact ⟨(ord++ [i],gs++ [⟨(parts w).getD i [],D1 (depL w) ord i ord.length⟩]),⟨hI.next (by omega) hnx,by show _=grpS w (ord++ [i]);rw [KQ,hgs]⟩,by show k - (ord++ [i]).length<k - ord.length;rw [List.length_append,List.length_singleton];omega,Ax hF [40,932,930,931] rfl (rfl) ⟨rfl,rfl,rfl,rfl,rfl,trivial⟩⟩
     ·refine Aj (AH (J (C8 Z Z (IntWalk.i64_in _ (by omega)) rfl) (AC Z Z (AF ?_))));exact ⟨i+1,⟨hil,fun j hj=>by by_cases e:j=i;subst e;exact Pw (Classical.not_not.1 h61);exact hnr j (by omega)⟩,by show k - (i+1)<k - i;omega,Ax hF [40,932,930,931] rfl (rfl) ⟨rfl,rfl,rfl,rfl,rfl,rfl,rfl,rfl,trivial⟩⟩
    ·refine BL Z Z Z Z (BL Z Z Z Z ?_);refine BL Z Z Z Z (BL Z Z Z Z (BL Z Z Z Z (BL Z Z Z Z (BL Z Z Z Z (J (HO Z Z Z Z) (AD Z Z (AF (AE ?_))))))));refine AH (AC Z Z (AF (EI Z Z (Aj (AH (J (C8 Z Z (IntWalk.i64_in _ (by omega)) rfl) (AC Z Z (AF ?_))))))));exact ⟨i+1,⟨hil,fun j hj=>by by_cases e:j=i;subst e;exact Px h52;exact hnr j (by omega)⟩,by show k - (i+1)<k - i;omega,Ax hF [40,932,930,931] rfl (rfl) ⟨rfl,rfl,rfl,rfl,rfl,rfl,rfl,rfl,trivial⟩⟩
   ·refine D7 (AE (AE (AH (AC Z Z ?_))))
    first | refine J (EG Z Z Z) ?_ | refine J (EK Z Z Z) ?_
    refine AF (K0 rfl ((by decide)) (AE (AH (AD Z Z (MC 2 rfl (AD Z Z (AF (Av ?_))))))));have hno:=hI.stop (by omega) (MD fun j hj=>hnr j (by omega));obtain ⟨g1,g2⟩:=LD hno;exact ⟨_,[40],_,As rfl,rfl,rfl,by rw [g1,g2];rfl,rfl⟩
  ·refine D7 (AE ?_);obtain ⟨g1,g2⟩:=Fm (hI.fin (by have h1:=h41;have h2:gs.length=ord.length:=(by rw [hgs,D0]);omega));refine PZ (emb:=IH) 9 932 gs Z Z Z Z Z Z Z (AH (AC Z Z (AD Z Z (AD Z Z (AF (Av ?_))))));exact ⟨_,[40],_,As rfl,rfl,rfl,by rw [g1,g2,hgs],rfl⟩
theorem E0 {w:Ws} {i:Nat} (hi:i<(parts w).length):(parts w)[i]?=some ((parts w).getD i []):=by
 rw [List.getD_eq_getElem?_getD,List.getElem?_eq_getElem hi];rfl
theorem Kq {w:Ws} (hw:B4 w) {i:Nat} (hi:i<(parts w).length) {x:St}:x∈(parts w).getD i []↔x∈w.R∧idx w x=i:=by
 have hg:=E0 hi
 constructor
 ·intro hx;exact ⟨(FQ (List.mem_of_getElem? hg) hx).1,LB hw hg hx⟩
 ·rintro ⟨hx,e⟩;have h1:=G2 hw hx;rw [e,hg] at h1;injection h1 with h1
  rw [h1];exact CP hx
theorem clsP {w:Ws} (hw:B4 w) {a:St} (ha:a∈w.R):(parts w).getD (idx w a) []=cls w a:=by
 rw [List.getD_eq_getElem?_getD,G2 hw ha];rfl
noncomputable def nxG (w:Ws) (back:Bool):List (List Nat):=(List.range (parts w).length).map (nxW w back)
theorem Ko {w:Ws} {back:Bool} {i:Nat} (hi:i<(parts w).length):((nxG w back).map natsD)[i]?=some (natsD (nxW w back i)):=by
 rw [List.getElem?_map,nxG,List.getElem?_map,List.getElem?_range hi];rfl
theorem Pm (w:Ws):Oe (depG w)=nxG w true:=by
 unfold Oe nxG grF;rw [FY];refine List.map_congr_left fun j hj=>?_;unfold revL;rw [FY]
 have key:∀l:List Nat,(∀a∈l,a<(parts w).length) ->(l.flatMap fun a=>List.replicate ((Bv (depG w) a).count j) a)=l.filter fun k=>(depL w k).contains j:=by
  intro l
  induction l with
  | nil=>intro _;rfl
  | cons a r ih=>
   intro hl;rw [List.flatMap_cons,ih fun x hx=>hl x (List.mem_cons_of_mem _ hx)];have hs:Bv (depG w) a=depL w a:=Ma (hl a (by simp));have hnd:(depL w a).Nodup:=(FX w a).imp fun h e=>by omega
   rw [hs]
   by_cases hc:j∈depL w a
   ·rw [List.filter_cons_of_pos (by simpa using hc),hnd.count,if_pos hc];rfl
   ·rw [List.filter_cons_of_neg (by simpa using hc),List.count_eq_zero.2 hc];rfl
 exact key _ fun a ha=>List.mem_range.1 ha
theorem depG_GB {w:Ws} (hw:B4 w):GB (depG w):=by
 have hn:(parts w).length≤4096:=by unfold parts;rw [List.length_map];exact Nat.le_trans (List.length_filter_le _ _) hw.few
 refine ⟨by rw [FY];omega,fun l hl=>?_,fun l hl x hx=>?_⟩
 ·obtain ⟨i,_,rfl⟩:=List.mem_map.1 hl;have:=Me w i;omega
 ·obtain ⟨i,_,rfl⟩:=List.mem_map.1 hl;rw [FY];exact Fq hx
structure FG (w:Ws) (back:Bool) (i0:Nat) (vis stk:List Nat):Prop where
 nd:vis.Nodup
 vl:∀v∈vis,v<(parts w).length
 sl:∀v∈stk,v<(parts w).length
 vr:∀v∈vis,BB (fun i k=>k∈nxW w back i) i0 v
 sr:∀v∈stk,BB (fun i k=>k∈nxW w back i) i0 v
 st:i0∈vis∨i0∈stk
 nx:∀v∈vis,∀k∈nxW w back v,k∈vis∨k∈stk
 len:stk.length≤1+vis.length*(parts w).length
theorem FG.zero {w:Ws} {back:Bool} {i0:Nat} (h:i0<(parts w).length):FG w back i0 [] [i0]:=
 ⟨List.nodup_nil,(fun _ h=>by cases h),fun v hv=>by rw [List.mem_singleton.1 hv];exact h,(fun _ h=>by cases h),fun v hv=>by rw [List.mem_singleton.1 hv];exact .refl,.inr (by simp),(fun _ h=>by cases h),by simp⟩
theorem FG.vlen {w:Ws} {back:Bool} {i0:Nat} {vis stk:List Nat} (h:FG w back i0 vis stk):vis.length≤(parts w).length:=by
 have:=h.nd.length_le_of_subset (l₂:=List.range (parts w).length) fun k hk=>by simpa using h.vl k hk
 simpa using this
theorem FG.skip {w:Ws} {back:Bool} {i0:Nat} {vis r:List Nat} {v:Nat} (h:FG w back i0 vis (r++ [v])) (hv:v∈vis):FG w back i0 vis r:=by
 have hin:∀{k},k∈vis∨k∈r++ [v] ->k∈vis∨k∈r:=fun hk=>hk.elim .inl fun hk=>(List.mem_append.1 hk).elim .inr fun e=> .inl (by rw [List.mem_singleton.1 e];exact hv);exact ⟨h.nd,h.vl,fun x hx=>h.sl x (List.mem_append_left _ hx),h.vr,fun x hx=>h.sr x (List.mem_append_left _ hx),hin h.st,fun x hx k hk=>hin (h.nx x hx k hk),by have:=h.len;rw [List.length_append] at this;omega⟩
theorem FG.go {w:Ws} {back:Bool} {i0:Nat} {vis r:List Nat} {v:Nat} (h:FG w back i0 vis (r++ [v])) (hv:v∉vis):FG w back i0 (vis++ [v]) (r++nxW w back v):=by
 have hvr:=h.sr v (List.mem_append_right _ (by simp));have hin:∀{k},k∈vis∨k∈r++ [v] ->k∈vis++ [v]∨k∈r++nxW w back v:=fun hk=>hk.elim (fun h=> .inl (List.mem_append_left _ h)) fun hk=>(List.mem_append.1 hk).elim (fun h=> .inr (List.mem_append_left _ h)) fun e=> .inl (List.mem_append_right _ e);refine ⟨List.nodup_append.2 ⟨h.nd,by simp,fun a ha b hb e=>hv (by rw [←List.mem_singleton.1 hb,←e];exact ha)⟩,fun x hx=>?_,fun x hx=>?_,fun x hx=>?_,fun x hx=>?_,hin h.st,fun x hx k hk=>?_,?_⟩
 ·exact (List.mem_append.1 hx).elim (h.vl x) fun e=>by rw [List.mem_singleton.1 e];exact h.sl v (by simp)
 ·exact (List.mem_append.1 hx).elim (fun hx=>h.sl x (List.mem_append_left _ hx)) QT
 ·exact (List.mem_append.1 hx).elim (h.vr x) fun e=>by rw [List.mem_singleton.1 e];exact hvr
 ·exact (List.mem_append.1 hx).elim (fun hx=>h.sr x (List.mem_append_left _ hx)) fun hx=>hvr.tail hx
 ·rcases List.mem_append.1 hx with hx | e
  ·exact hin (h.nx x hx k hk)
  ·rw [List.mem_singleton.1 e] at hk;exact .inr (List.mem_append_right _ hk)
 ·have h1:=h.len;have h2:=Gt w back v;rw [List.length_append,List.length_singleton] at h1;rw [List.length_append,List.length_append,List.length_singleton,Nat.succ_mul];omega
theorem FG.fin {w:Ws} {back:Bool} {i0:Nat} {vis:List Nat} (h:FG w back i0 vis []) (v:Nat):v∈vis↔BB (fun i k=>k∈nxW w back i) i0 v:=by
 refine ⟨h.vr v,fun hs=>?_⟩;exact BB.closed (p:=fun v=>v∈vis) (fun a b ha hb=>(h.nx a ha b hb).resolve_right (by simp)) (h.st.resolve_right (by simp)) hs
noncomputable def outS (w:Ws) (vis:List Nat):List St:=vis.flatMap fun i=>(parts w).getD i []
theorem DT (w:Ws) (vis:List Nat) (v:Nat):outS w (vis++ [v])=outS w vis++(parts w).getD v []:=by simp [outS]
theorem Iv {w:Ws} (hw:B4 w) {vis:List Nat} (hv:∀v∈vis,v<(parts w).length) {x:St}:x∈outS w vis↔x∈w.R∧idx w x∈vis:=by
 unfold outS;rw [List.mem_flatMap]
 constructor
 ·rintro ⟨i,hi,hx⟩;obtain ⟨h1,h2⟩:=(Kq hw (hv i hi)).1 hx;exact ⟨h1,by rw [h2];exact hi⟩
 ·rintro ⟨h1,h2⟩;exact ⟨_,h2,(Kq hw (hv _ h2)).2 ⟨h1,rfl⟩⟩
theorem Nv {w:Ws} (hw:B4 w):∀{vis:List Nat},vis.Nodup ->(∀v∈vis,v<(parts w).length) ->(outS w vis).Nodup:=by
 intro vis
 induction vis with
 | nil=>intro _ _;exact List.nodup_nil
 | cons v r ih=>
  intro hn hv;have hn':=List.nodup_cons.1 hn;have hv':∀x∈r,x<(parts w).length:=fun x hx=>hv x (List.mem_cons_of_mem _ hx);show ((parts w).getD v []++outS w r).Nodup;refine List.nodup_append.2 ⟨Cg (Gq hw (List.mem_of_getElem? (E0 (hv v (by simp))))),ih hn'.2 hv',fun a ha b hb e=>?_⟩;subst e;have h1:=((Kq hw (hv v (by simp))).1 ha).2;have h2:=((Iv hw hv').1 hb).2;exact hn'.1 (by rw [←h1];exact h2)
theorem EU {w:Ws} (hw:B4 w) {vis:List Nat} (hn:vis.Nodup) (hv:∀v∈vis,v<(parts w).length):(outS w vis).length≤w.R.length:=
 (Nv hw hn hv).length_le_of_subset fun x hx=>((Iv hw hv).1 hx).1
theorem FG.clo {w:Ws} (hw:B4 w) {back:Bool} {a:St} (ha:a∈w.R) {vis:List Nat} (h:FG w back (idx w a) vis []):Cr (outS w vis)=cloW w a back:=by
 refine HT (Nv hw h.nd h.vl) (List.Pairwise.sublist List.filter_sublist hw.srt) fun x=>?_;rw [Iv hw h.vl,HA]
 constructor
 ·rintro ⟨h1,h2⟩;exact ⟨h1,(OL hw ha h1).2 ((h.fin _).1 h2)⟩
 ·rintro ⟨h1,h2⟩;exact ⟨h1,(h.fin _).2 ((OL hw ha h1).1 h2)⟩
theorem Np {l:List Nat} (h:0<l.length):∃r v,l=r++ [v]:=by
 rcases List.eq_nil_or_concat l with e | ⟨r,v,e⟩
 ·subst e;simp at h
 ·exact ⟨r,v,by rw [e];simp⟩
abbrev Il (n:Nat) (out:List Nat):List D:=(List.range n).map fun v=>Ar (decide (v∈out))
theorem Gj {n i:Nat} {out:List Nat} (h:i<n):(Il n out)[i]?=some (Ar (decide (i∈out))):=by simp [h]
theorem Ik (n:Nat) (out:List Nat):(Il n out).length=n:=by simp
theorem Ij {n i:Nat} {out:List Nat}:(Il n out).set i (Ar true)=Il n (out++ [i]):=
 IT (fun j _ hne=>congrArg Ar (decide_eq_decide.2 ⟨fun h=>List.mem_append_left _ h,fun h=>(List.mem_append.1 h).elim id fun e=>(hne (List.mem_singleton.1 e)).elim⟩)) (by rw [decide_eq_true (List.mem_append_right _ (List.mem_singleton.2 rfl))])
theorem repB (n:Nat):List.replicate n (D.raw (.bool false))=Il n []:=by
 refine List.ext_getElem (by simp) fun j h1 h2=>?_
 simp
theorem ME (r:List Nat) (v:Nat):By (r++ [v]) r.length=v:=by simp [By]
theorem group_c {M:MF} {b:Nat} {w:Ws} (h:BX M b w) (hw:B4 w) (hK:w.K.length≤1000000) (a:St):AT Try.prog 21 [.d (pD b 0),.d (AU a)] [(40,[.multi M])] fun r H'=>r= .d (if a∈w.R then stsD (cls w a) else .sl (some true) [])∧H'=[(40,[.multi M])]:=by
 refine DI Try.func21 Z Z Try.ntmps21 Z Z Z fun F hF=>(AE ?_);refine AH (AD Z Z (AF (AE (AE (AH (AC Z Z (AC Z Z (U (GG (HH h a) rfl [40] ⟨rfl,trivial⟩ Z Z Z Z Z Z Z Z Z) ?_))))))))
 first | refine J (FB Z Z) ?_ | refine J (FA Z Z) ?_
 refine AF ?_
 first | refine BA rfl (fun h10=>?_) (fun h10=>?_) | refine Aw rfl (fun h10=>?_) (fun h10=>?_)
 ·refine AE (AH (AD Z Z (AF (Av ?_))));exact ⟨_,[40],_,As rfl,rfl,rfl,by rw [if_neg h10],rfl⟩
 ·refine Aj (AE (AH (AC Z Z ?_)));refine IA (JS (IV h hw hK) rfl [40,6] ⟨rfl,rfl,trivial⟩ Z Z Z Z (fun r H' ⟨O,e1,e2,_⟩=>by subst e1 e2;exact ⟨rfl,rfl,rfl⟩) rfl) rfl ?_;rintro _ ⟨r,H',⟨O,e1,e2,hO⟩,rfl⟩;subst e1 e2;refine AC Z Z ?_
  first | refine J (Bi Z Z Z) ?_ | refine J (Bj Z Z Z) ?_
  first | refine J (Bi Z Z Z) ?_ | refine J (Bj Z Z Z) ?_
  refine AD Z Z (AD Z Z (AF (AE ?_)));have haR:a∈w.R:=Classical.not_not.1 h10;refine AH (AC Z Z (AC Z Z (AC Z Z (J (st_look O a 0 (idx w a) Z Z Z Gz EX PW (hO _ haR) rfl) ?_))))
  first | refine J (BC (idx w a) Z Z (rfl) (Hy (DZ hw haR)) Try.underlying79 rfl Bl rfl) ?_ | refine J (BD (idx w a) Z Z (rfl) (Hy (DZ hw haR)) rfl Try.underlying79 Bl rfl) ?_
  first | refine J (AZ Z Z AK rfl) ?_ | refine J (AX Z Z Z AK rfl) ?_ | refine J (AY Z Z (rfl) rfl AK rfl) ?_
  refine AD Z Z (AF (Av ?_));exact ⟨_,[40],_,As rfl,rfl,rfl,by rw [if_pos haR,clsP hw haR],rfl⟩
set_option maxHeartbeats 2000000 in
theorem cloF_c {M:MF} {b:Nat} {w:Ws} (h:BX M b w) (hw:B4 w) (hK:w.K.length≤1000000) (a:St):AT Try.prog 41 [.d (pD b 0),.d (AU a),.d (Ar false)] [(40,[.multi M])] fun r H'=>r= .d (if a∈w.R then stsD (cloW w a false) else .sl (some true) [])∧H'=[(40,[.multi M])]:=by
 refine DI Try.func41 Z Z Try.ntmps41 Z Z Z fun F hF=>(AE ?_);refine AH (AD Z Z (AF (AE (AE (AH (AC Z Z (AC Z Z (U (GG (HH h a) rfl [40] ⟨rfl,trivial⟩ Z Z Z Z Z Z Z Z Z) ?_))))))))
 first | refine J (FB Z Z) ?_ | refine J (FA Z Z) ?_
 refine AF ?_
 first | refine BA rfl (fun h22=>?_) (fun h22=>?_) | refine Aw rfl (fun h22=>?_) (fun h22=>?_)
 ·refine AE (AH (AD Z Z (AF (Av ?_))));exact ⟨_,[40],_,As rfl,rfl,rfl,by rw [if_neg h22],rfl⟩
 ·refine Aj (AE ?_);have haR:a∈w.R:=Classical.not_not.1 h22;have hpn:(parts w).length≤4096:=by unfold parts;rw [List.length_map];exact Nat.le_trans (List.length_filter_le _ _) hw.few
  refine AH (AC Z Z ?_);refine IA (JS (IV h hw hK) rfl [40,6] ⟨rfl,rfl,trivial⟩ Z Z Z Z (fun r H' ⟨O,e1,e2,_⟩=>by subst e1 e2;exact ⟨rfl,rfl,rfl⟩) rfl) rfl ?_;rintro _ ⟨r,H',⟨O,e1,e2,hO⟩,rfl⟩;subst e1 e2;refine AC Z Z ?_
  first | refine J (Bi Z Z Z) ?_ | refine J (Bj Z Z Z) ?_
  first | refine J (Bi Z Z Z) ?_ | refine J (Bj Z Z Z) ?_
  refine AD Z Z (AD Z Z (AF (AE (Ds 7 Z Z Z (Hh 8 6 7 hF Z Z Z Z Z Z Z Z Z Z (fun _=>rfl) fun x7 _=>?_)))))
  obtain ⟨M7,hM7⟩:∃M7,BN (fun _=>none) x7 (.map (some (List.range O.length,O.length)) (A9 AU natD O))=M7:=⟨_,rfl⟩
  rw [hM7];have h7:M7 x7=some (.map (some (List.range O.length,O.length)) (A9 AU natD O)):=by rw [←hM7,D6]
  refine AH (AC Z Z (AC Z Z (AC Z Z (U (GG (N6 h hw hK hO h7) rfl [40,7] ⟨rfl,rfl,trivial⟩ Z Z Z Z Z Z Z Z Z) ?_))));refine AD Z Z (AF (AE (AE (AH (AC Z Z (AF (EI rfl (rfl) (Aj ?_))))))));refine AE (Nj 9 (.d (grD (nxG w false))) Z Z (AH (AC Z Z (J (CI rfl (List.length_map ..) Try.underlying79 rfl) (U (Fc 20 sl99 Z Z Z (by omega) zd4 Z Z Z Z) (AD Z Z (AF (AE ?_))))))));rw [repB];refine AH (AD Z Z (AF (AE (AH (AC Z Z ?_)))));refine AC Z Z (J (HM (f:=7) O a 0 (idx w a) Z Z h7 rfl Gz EX PW (hO _ haR) rfl) (U (Ga 22 Du Z Z Z Z Z Z Z Z) (AD Z Z (AF (AE (BU (Eu 16 23 B7 Z Z Z Z (Ev (α:=List Nat×List Nat×List Nat) (fun q=>⟨105,[(7,(.d (CL (parts w)))),(9,(.d (grD (nxG w false)))),(15,(.own 20 0 (parts w).length)),(16,(.own 23 0 (outS w q.1).length)),(17,(.own 22 0 q.2.1.length))],[(20,[.rowD 4 1 (Il (parts w).length q.1)]),(22,[.rowD 3 1 ((q.2.1++q.2.2).map natD)]),(23,[.rowD 9 1 ((outS w q.1).map AU)]),(40,[.multi M])]⟩) (fun q=>FG w false (idx w a) q.1 q.2.1) (fun q=>((parts w).length - q.1.length)*5000+q.2.1.length) (([],[idx w a],[])) (FG.zero (DZ hw haR)) (Ax hF [20,22,23,40] Z Z ⟨rfl,rfl,rfl,rfl,rfl,trivial⟩) ?_))))))));rintro ⟨vis,stk,jk⟩ hI;dsimp only at hI⊢;refine AE (AE (AH (AC Z Z ?_)))
  first | refine J (IJ rfl Try.underlying49 rfl) ?_ | refine J (CI Z Z Try.underlying49 rfl) ?_ | refine J (iOq rfl Try.underlying49 rfl) ?_ | refine J (IQ rfl Try.underlying49 rfl) ?_ | refine J (IN rfl Try.underlying49 rfl) ?_ | refine J (IB rfl Try.underlying49 rfl) ?_
  first | refine J (Ke Z Z Z) ?_ | refine J (IS Z Z Z) ?_
  refine AF ?_
  first | refine BA rfl (fun h71=>?_) (fun h71=>?_) | refine Aw rfl (fun h71=>?_) (fun h71=>?_)
  ·refine Aj (BU (AE ?_));obtain ⟨r,v,hrv⟩:=Np (l:=stk) (GR h71);subst hrv;have hvl:=hI.sl v (by simp);have hI2':=hI.len;have hvle:=hI.vlen;have hmul:vis.length*(parts w).length≤4096*4096:=Nat.mul_le_mul (by omega) hpn;have hsl:(r++ [v]).length≤20000000:=by omega
   have hrl:(r++ [v]).length=r.length+1:=by simp
   have hpe:(((r++ [v]).length:Nat):Int) - 1=((r.length:Nat):Int):=by rw [hrl];omega
   refine AH (AC Z Z (AC Z Z ?_))
   first | refine J (IJ rfl Try.underlying49 rfl) ?_ | refine J (CI Z Z Try.underlying49 rfl) ?_ | refine J (iOq rfl Try.underlying49 rfl) ?_ | refine J (IQ rfl Try.underlying49 rfl) ?_ | refine J (IN rfl Try.underlying49 rfl) ?_ | refine J (IB rfl Try.underlying49 rfl) ?_
   refine J (Cc Z Z (IntWalk.i64_in _ (by omega)) rfl) ?_
   first | refine J (BC (r.length) Z Z (hpe) (by rw [hrl];omega) Try.underlying49 rfl D5 rfl) ?_ | refine J (BD (r.length) Z Z (hpe) (by rw [hrl];omega) rfl Try.underlying49 D5 rfl) ?_
   first | refine J (AZ Z Z Ba rfl) ?_ | refine J (AX Z Z Z Ba rfl) ?_ | refine J (AY Z Z ((by rw [EC (by rw [List.length_append,hrl];omega),Ny (by omega),ME])) rfl Ba rfl) ?_
   refine AD Z Z (AF (AE (AH (AC Z Z (AC Z Z ?_)))))
   first | refine J (IJ rfl Try.underlying49 rfl) ?_ | refine J (CI Z Z Try.underlying49 rfl) ?_ | refine J (iOq rfl Try.underlying49 rfl) ?_ | refine J (IQ rfl Try.underlying49 rfl) ?_ | refine J (IN rfl Try.underlying49 rfl) ?_ | refine J (IB rfl Try.underlying49 rfl) ?_
   refine J (Cc Z Z (IntWalk.i64_in _ (by omega)) rfl) (J (HS r.length Z Z hpe (by rw [List.length_map,List.length_append];omega) rfl Try.underlying49 D5 rfl) (AD Z Z (AF (AE (AE (AH (AC Z Z (AC Z Z ?_))))))))
   first | refine J (BC (v) Z Z (rfl) (hvl) Try.underlying99 rfl L5 rfl) ?_ | refine J (BD (v) Z Z (rfl) (hvl) rfl Try.underlying99 L5 rfl) ?_
   first | refine J (AZ Z Z PX rfl) ?_ | refine J (AX Z Z Z PX rfl) ?_ | refine J (AY Z Z (Gj hvl) rfl PX rfl) ?_
   refine AF ?_
   first | refine BA rfl (fun h86=>?_) (fun h86=>?_) | refine Aw rfl (fun h86=>?_) (fun h86=>?_)
   ·refine D7 ?_;exact ⟨(vis,r,[v]++jk),hI.skip h86,by show _<_;rw [List.length_append,List.length_singleton];exact Nat.lt_succ_self _,Ax hF [20,22,23,40] rfl (by rw [List.append_assoc];rfl) ⟨rfl,rfl,rfl,rfl,rfl,trivial⟩⟩
   ·refine Aj (AE ?_);have hI2:=hI.go h86;have hol:=EU hw hI.nd hI.vl;have hfw:=hw.few;have hol2:=EU hw hI2.nd hI2.vl;rw [DT,List.length_append] at hol2;refine AH (AC Z Z (AC Z Z ?_))
    first | refine J (BC (v) Z Z (rfl) (hvl) Try.underlying99 rfl L5 rfl) ?_ | refine J (BD (v) Z Z (rfl) (hvl) rfl Try.underlying99 L5 rfl) ?_
    refine U (Zci Z Z Z Z Z (by rw [Ik];exact hvl) Ij rfl L5) (AF (AE (AH (AC Z Z (AC Z Z (AC Z Z ?_))))))
    first | refine J (BC (v) Z Z (rfl) (Hy hvl) Try.underlying79 rfl Bl rfl) ?_ | refine J (BD (v) Z Z (rfl) (Hy hvl) rfl Try.underlying79 Bl rfl) ?_
    first | refine J (AZ Z Z AK rfl) ?_ | refine J (AX Z Z Z AK rfl) ?_ | refine J (AY Z Z (rfl) rfl AK rfl) ?_
    first | refine U (I2 (outS w vis) ((parts w).getD v []) Z Z Z Z Z Z Z Z B7 (by omega) Z Z Z Z) ?_ | refine U (Jf (outS w vis) ((parts w).getD v []) Z Z Z Z Z Z (fun _=>rfl) B7 (by omega) Z Z Z Z) ?_
    refine Kn 95 (.own 23 0 (outS w (vis++ [v])).length) rfl (by rw [DT]) (AD Z Z (AF ?_));have hnl:=Gt w false v;refine AH (AC Z Z (AC Z Z (AC Z Z ?_)))
    first | refine J (BC (v) Z Z (rfl) (Ko hvl) Try.underlying101 rfl Bk rfl) ?_ | refine J (BD (v) Z Z (rfl) (Ko hvl) rfl Try.underlying101 Bk rfl) ?_
    first | refine J (AZ Z Z Af rfl) ?_ | refine J (AX Z Z Z Af rfl) ?_ | refine J (AY Z Z (rfl) rfl Af rfl) ?_
    refine U (GV (zs:=(r++nxW w false v).map natD) Z Z Z (by rw [List.length_map,List.length_append,List.length_append];omega) Du (fun z hz=>by obtain ⟨a,_,rfl⟩:=List.mem_map.1 hz;rfl) (List.length_map ..) (by omega) Z Z (by rw [List.append_assoc,List.map_append,List.take_left' (by simp),←List.map_append]) Z Z) (Kn 101 (.own 22 0 (r++nxW w false v).length) rfl (by rw [List.length_append]) (AD Z Z (AF ?_)));exact ⟨(vis++ [v],r++nxW w false v,[]),hI.go h86,by have h1:=hI2.vlen;rw [List.length_append,List.length_singleton] at h1;have h2:=Gt w false v;show ((parts w).length - (vis++ [v]).length)*5000+(r++nxW w false v).length<((parts w).length - vis.length)*5000+(r++ [v]).length;simp only [List.length_append,List.length_singleton];omega,Ax hF [20,22,23,40] rfl (by simp only [DT,List.append_nil];rfl) ⟨rfl,rfl,rfl,rfl,rfl,trivial⟩⟩
  ·refine D7 (AE ?_)
   have hs0:stk=[]:=by
    have h1:=h71;exact List.length_eq_zero_iff.1 (by omega)
   subst hs0;have hcl:=hI.clo hw haR;have hol:=EU hw hI.nd hI.vl;have hfw:=hw.few;refine AH (AC Z Z (U (I9 OC (outS w vis) (by omega) Z Z Z Z Z Z Z) (AF (AE ?_))));rw [hcl];have hcn:(outS w vis).length=(cloW w a false).length:=by rw [←hcl,Ch]
   refine PZ (emb:=AU) 16 23 (cloW w a false) Z Z Z hcn Z Z Z (AH (AC Z Z (AD Z Z (AF (Av ?_)))));exact ⟨_,[40],_,As rfl,rfl,rfl,by rw [if_pos haR],rfl⟩
set_option maxHeartbeats 2000000 in
theorem cloT_c {M:MF} {b:Nat} {w:Ws} (h:BX M b w) (hw:B4 w) (hK:w.K.length≤1000000) (a:St):AT Try.prog 41 [.d (pD b 0),.d (AU a),.d (Ar true)] [(40,[.multi M])] fun r H'=>r= .d (if a∈w.R then stsD (cloW w a true) else .sl (some true) [])∧H'=[(40,[.multi M])]:=by
 refine DI Try.func41 Z Z Try.ntmps41 Z Z Z fun F hF=>(AE ?_);refine AH (AD Z Z (AF (AE (AE (AH (AC Z Z (AC Z Z (U (GG (HH h a) rfl [40] ⟨rfl,trivial⟩ Z Z Z Z Z Z Z Z Z) ?_))))))))
 first | refine J (FB Z Z) ?_ | refine J (FA Z Z) ?_
 refine AF ?_
 first | refine BA rfl (fun h22=>?_) (fun h22=>?_) | refine Aw rfl (fun h22=>?_) (fun h22=>?_)
 ·refine AE (AH (AD Z Z (AF (Av ?_))));exact ⟨_,[40],_,As rfl,rfl,rfl,by rw [if_neg h22],rfl⟩
 ·refine Aj (AE ?_);have haR:a∈w.R:=Classical.not_not.1 h22;have hpn:(parts w).length≤4096:=by unfold parts;rw [List.length_map];exact Nat.le_trans (List.length_filter_le _ _) hw.few
  refine AH (AC Z Z ?_);refine IA (JS (IV h hw hK) rfl [40,6] ⟨rfl,rfl,trivial⟩ Z Z Z Z (fun r H' ⟨O,e1,e2,_⟩=>by subst e1 e2;exact ⟨rfl,rfl,rfl⟩) rfl) rfl ?_;rintro _ ⟨r,H',⟨O,e1,e2,hO⟩,rfl⟩;subst e1 e2;refine AC Z Z ?_
  first | refine J (Bi Z Z Z) ?_ | refine J (Bj Z Z Z) ?_
  first | refine J (Bi Z Z Z) ?_ | refine J (Bj Z Z Z) ?_
  refine AD Z Z (AD Z Z (AF (AE (Ds 7 Z Z Z (Hh 8 6 7 hF Z Z Z Z Z Z Z Z Z Z (fun _=>rfl) fun x7 _=>?_)))))
  obtain ⟨M7,hM7⟩:∃M7,BN (fun _=>none) x7 (.map (some (List.range O.length,O.length)) (A9 AU natD O))=M7:=⟨_,rfl⟩
  rw [hM7];have h7:M7 x7=some (.map (some (List.range O.length,O.length)) (A9 AU natD O)):=by rw [←hM7,D6]
  refine AH (AC Z Z (AC Z Z (AC Z Z ?_)));refine U (GG (N6 h hw hK hO h7) rfl [40,7] ⟨rfl,rfl,trivial⟩ Z Z Z Z Z Z Z Z Z) (AD Z Z (AF (AE (AE (AH (AC Z Z (AF (K0 rfl (rfl) ?_))))))));refine AE (AH (AC Z Z (J (CI rfl (List.length_map ..) Try.underlying79 rfl) (U (Fc 20 sl101 Z Z Z (by omega) zd49 Z Z Z Z) (AD Z Z (AF (AE (AE ?_))))))));have hg:=depG_GB hw;have hgn:(depG w).length=(parts w).length:=FY w;refine Hg 20 0 (rowH (parts w).length (fun _=>none) (fun _=> [])) rfl (by rw [CZ,List.length_replicate]) (MI _) ⟨Nx _,Gs _ _ _⟩ rfl (Ds 50 Z Z Z (AH (AC Z Z (J (CI rfl ((List.length_map ..).trans hgn) Try.underlying101 rfl) (AC Z Z (AF (BU (Ev (α:=Nat×MF×(Nat ->Hd)) (fun q=>⟨105,[(1,.d (AU a)),(7,(.d (CL (parts w)))),(8,(.d (mD x7))),(10,(.own 20 0 (parts w).length)),(36,(.d (grD (depG w)))),(37,(.d (natD (parts w).length))),(38,(.d (natD q.1)))],[(20,[.rowD 49 1 (rowH (parts w).length q.2.2 (Dx (depG w) q.1 0))]),(40,[.multi M]),(7,[.multi M7]),(50,[.multi q.2.1])]⟩) (fun q=>q.1≤(parts w).length∧F9 q.2.1 (parts w).length q.2.2 (Dx (depG w) q.1 0)) (fun q=>(parts w).length - q.1) ((0,fun _=>none,fun _=>none)) (⟨Nat.zero_le _,by rw [Oc];exact F9.zero _⟩) (Ax hF [20,40,7,50] Z Z ⟨rfl,rfl,rfl,rfl,rfl,rfl,rfl,trivial⟩) ?_))))))));rintro ⟨i,M5,hs⟩ ⟨hi,hr⟩;dsimp only at hi hr⊢;refine AE (AH ?_)
  first | refine J (EG Z Z Z) ?_ | refine J (EK Z Z Z) ?_
  refine AF (AE ?_)
  first | refine BA rfl (fun h39=>?_) (fun h39=>?_) | refine Aw rfl (fun h39=>?_) (fun h39=>?_)
  ·refine Aj (AE (BU (AE ?_)));have hil:i<(parts w).length:=GR h39;have hil':i<(depG w).length:=by rw [hgn];exact hil
   refine AH (AC Z Z ?_)
   first | refine J (BC (i) Z Z (rfl) (getg hil') Try.underlying101 rfl Bk rfl) ?_ | refine J (BD (i) Z Z (rfl) (getg hil') rfl Try.underlying101 Bk rfl) ?_
   first | refine J (AZ Z Z Af rfl) ?_ | refine J (AX Z Z Z Af rfl) ?_ | refine J (AY Z Z (rfl) rfl Af rfl) ?_
   refine AD Z Z (AD Z Z ?_);refine AF (AE (AH (AC Z Z (J (CI rfl (List.length_map ..) Try.underlying49 rfl) (AC Z Z (AF (BU (Ev (α:=Nat×MF×(Nat ->Hd)) (fun q=>⟨105,[(1,.d (AU a)),(7,(.d (CL (parts w)))),(8,(.d (mD x7))),(10,(.own 20 0 (parts w).length)),(11,(.d (natD i))),(36,(.d (grD (depG w)))),(37,(.d (natD (parts w).length))),(38,(.d (natD i))),(43,(.d (natsD (Bv (depG w) i)))),(44,(.d (natD (Bv (depG w) i).length))),(45,(.d (natD q.1)))],[(20,[.rowD 49 1 (rowH (parts w).length q.2.2 (Dx (depG w) i q.1))]),(40,[.multi M]),(7,[.multi M7]),(50,[.multi q.2.1])]⟩) (fun q=>q.1≤(Bv (depG w) i).length∧F9 q.2.1 (parts w).length q.2.2 (Dx (depG w) i q.1)) (fun q=>(Bv (depG w) i).length - q.1) ((0,M5,hs)) (⟨Nat.zero_le _,hr⟩) (Ax hF [20,40,7,50] Z Z ⟨rfl,rfl,rfl,rfl,rfl,rfl,rfl,rfl,rfl,rfl,rfl,trivial⟩) ?_))))))));rintro ⟨k,M5,hs⟩ ⟨hk,hr⟩;dsimp only at hk hr⊢;refine AE (AH ?_)
   first | refine J (EG Z Z Z) ?_ | refine J (EK Z Z Z) ?_
   refine AF (AE ?_)
   first | refine BA rfl (fun h46=>?_) (fun h46=>?_) | refine Aw rfl (fun h46=>?_) (fun h46=>?_)
   ·refine Aj (AE (BU (AE ?_)));have hkl:k<(Bv (depG w) i).length:=GR h46;have hgn1:=EC hkl;have hsl:=hg.len hil';have hjl:By (Bv (depG w) i) k<(parts w).length:=by rw [←hgn];exact hg.suc hil' (Do hkl)
    have hst:=Od hkl
    obtain ⟨j,hje⟩:∃j,By (Bv (depG w) i) k=j:=⟨_,rfl⟩
    rw [hje] at hgn1 hjl hst;have hln:=Pj hg hil' k j;refine AH ?_
    first | refine J (BC (k) Z Z (rfl) (hgn1) Try.underlying49 rfl D5 rfl) ?_ | refine J (BD (k) Z Z (rfl) (hgn1) rfl Try.underlying49 D5 rfl) ?_
    first | refine J (AZ Z Z Ba rfl) ?_ | refine J (AX Z Z Z Ba rfl) ?_ | refine J (AY Z Z (rfl) rfl Ba rfl) ?_
    refine AD Z Z (AF (AH (AC Z Z (AC Z Z (AC Z Z (AC Z Z ?_))))))
    first | refine J (BC (j) Z Z (rfl) (hjl) Try.underlying101 rfl Bk rfl) ?_ | refine J (BD (j) Z Z (rfl) (hjl) rfl Try.underlying101 Bk rfl) ?_
    first | refine J (AZ Z Z Af rfl) ?_ | refine J (AX Z Z Z Af rfl) ?_ | refine J (AY Z Z (FO hjl) rfl Af rfl) ?_
    refine AC Z Z (U (Ga 25 Du Z Z Z Z Z Z Z Z) (U (Gf 54 60 50 (hr.at_ j hjl) Z Z (by rw [List.length_map]) Z Z Z Z Z (I2 (emb:=natD) (Dx (depG w) i k j) [i] Z Z Z Z Z Z Z Z Du (by show ((Dx (depG w) i k j).length+1)*8≤_;omega) Z Z Z Z)) (EV 57 60 50 hF Z Z Z (by rw [List.length_map]) (by simp) Z Z Z Z Z Z Z (fun _ _=>rfl) fun b1 c1 hb1 hc1=>?_)))
    first | refine J (BC (j) Z Z (rfl) (hjl) Try.underlying101 rfl Bk rfl) ?_ | refine J (BD (j) Z Z (rfl) (hjl) rfl Try.underlying101 Bk rfl) ?_
    refine U (Zci Z Z Z Z Z (by rw [CZ];exact hjl) (Gi (h:=some (b1,c1))) rfl Bk) (AF (AH (J (C8 Z Z (IntWalk.i64_in _ (by omega)) rfl) (AC Z Z (AF ?_)))));exact ⟨(k+1,BN (DB M5 (hs j)) b1 (.row 3 1 c1 ((Dx (depG w) i k j++ [i]).map natD)),Ak hs j (some (b1,c1))),⟨hkl,by have:=hr.app hjl hb1 hc1;rw [hst] at this;exact this⟩,by show (Bv (depG w) i).length - (k+1)<(Bv (depG w) i).length - k;omega,Ax hF [20,40,7,50] rfl (by rw [hst];rfl) ⟨rfl,rfl,rfl,rfl,rfl,rfl,rfl,rfl,rfl,rfl,rfl,trivial⟩⟩
   ·refine D7 ?_;have hke:k=(Bv (depG w) i).length:=by have:=h46;omega
    subst hke;refine AH (J (C8 Z Z (IntWalk.i64_in _ (by omega)) rfl) (AC Z Z (AF ?_)));exact ⟨(i+1,M5,hs),⟨hil,by rw [←Lo];exact hr⟩,by show (parts w).length - (i+1)<(parts w).length - i;omega,Ax hF [20,40,7,50] rfl (by rw [Lo];rfl) ⟨rfl,rfl,rfl,rfl,rfl,rfl,rfl,trivial⟩⟩
  ·refine D7 ?_;have hin:i=(depG w).length:=by have:=h39;omega
   subst hin;rw [Pk] at hr⊢;refine Nh 20 0 50 ((Oe (depG w)).map natsD) Z Z Z Z Z (by rw [List.length_map,Oe,Fn,CZ];exact hgn) (by have:=hr;rw [←hgn] at this⊢;exact this.melt) ⟨Gs _ _ _,QL _⟩ rfl (PZ (emb:=natsD) 10 20 (Oe (depG w)) Z Z Z (by rw [Oe,Fn,hgn]) Z Z Z ?_);rw [Pm];refine AH (AC Z Z (AD Z Z ?_));refine AF (AE (AH (AC Z Z (J (CI rfl (List.length_map ..) Try.underlying79 rfl) (U (Fc 22 sl99 Z Z Z (by omega) zd4 Z Z Z Z) (AD Z Z (AF (AE ?_))))))));rw [repB];refine AH (AD Z Z (AF (AE (AH (AC Z Z ?_)))));refine AC Z Z (J (HM (f:=7) O a 0 (idx w a) Z Z h7 rfl Gz EX PW (hO _ haR) rfl) (U (Ga 26 Du Z Z Z Z Z Z Z Z) (AD Z Z (AF (AE (BU (Eu 16 23 B7 Z Z Z Z (Ev (α:=List Nat×List Nat×List Nat) (fun q=>⟨105,[(7,(.d (CL (parts w)))),(9,(.d (grD (nxG w true)))),(15,(.own 22 0 (parts w).length)),(16,(.own 23 0 (outS w q.1).length)),(17,(.own 26 0 q.2.1.length))],[(22,[.rowD 4 1 (Il (parts w).length q.1)]),(26,[.rowD 3 1 ((q.2.1++q.2.2).map natD)]),(23,[.rowD 9 1 ((outS w q.1).map AU)]),(40,[.multi M])]⟩) (fun q=>FG w true (idx w a) q.1 q.2.1) (fun q=>((parts w).length - q.1.length)*5000+q.2.1.length) (([],[idx w a],[])) (FG.zero (DZ hw haR)) (Ax hF [22,26,23,40] Z Z ⟨rfl,rfl,rfl,rfl,rfl,trivial⟩) ?_))))))));rintro ⟨vis,stk,jk⟩ hI;dsimp only at hI⊢;refine AE (AE (AH (AC Z Z ?_)))
   first | refine J (IJ rfl Try.underlying49 rfl) ?_ | refine J (CI Z Z Try.underlying49 rfl) ?_ | refine J (iOq rfl Try.underlying49 rfl) ?_ | refine J (IQ rfl Try.underlying49 rfl) ?_ | refine J (IN rfl Try.underlying49 rfl) ?_ | refine J (IB rfl Try.underlying49 rfl) ?_
   first | refine J (Ke Z Z Z) ?_ | refine J (IS Z Z Z) ?_
   refine AF ?_
   first | refine BA rfl (fun h71=>?_) (fun h71=>?_) | refine Aw rfl (fun h71=>?_) (fun h71=>?_)
   ·refine Aj (BU (AE ?_));obtain ⟨r,v,hrv⟩:=Np (l:=stk) (GR h71);subst hrv;have hvl:=hI.sl v (by simp);have hI2':=hI.len;have hvle:=hI.vlen;have hmul:vis.length*(parts w).length≤4096*4096:=Nat.mul_le_mul (by omega) hpn;have hsl:(r++ [v]).length≤20000000:=by omega
    have hrl:(r++ [v]).length=r.length+1:=by simp
    have hpe:(((r++ [v]).length:Nat):Int) - 1=((r.length:Nat):Int):=by rw [hrl];omega
    refine AH (AC Z Z (AC Z Z ?_))
    first | refine J (IJ rfl Try.underlying49 rfl) ?_ | refine J (CI Z Z Try.underlying49 rfl) ?_ | refine J (iOq rfl Try.underlying49 rfl) ?_ | refine J (IQ rfl Try.underlying49 rfl) ?_ | refine J (IN rfl Try.underlying49 rfl) ?_ | refine J (IB rfl Try.underlying49 rfl) ?_
    refine J (Cc Z Z (IntWalk.i64_in _ (by omega)) rfl) ?_
    first | refine J (BC (r.length) Z Z (hpe) (by rw [hrl];omega) Try.underlying49 rfl D5 rfl) ?_ | refine J (BD (r.length) Z Z (hpe) (by rw [hrl];omega) rfl Try.underlying49 D5 rfl) ?_
    first | refine J (AZ Z Z Ba rfl) ?_ | refine J (AX Z Z Z Ba rfl) ?_ | refine J (AY Z Z ((by rw [EC (by rw [List.length_append,hrl];omega),Ny (by omega),ME])) rfl Ba rfl) ?_
    refine AD Z Z (AF (AE (AH (AC Z Z (AC Z Z ?_)))))
    first | refine J (IJ rfl Try.underlying49 rfl) ?_ | refine J (CI Z Z Try.underlying49 rfl) ?_ | refine J (iOq rfl Try.underlying49 rfl) ?_ | refine J (IQ rfl Try.underlying49 rfl) ?_ | refine J (IN rfl Try.underlying49 rfl) ?_ | refine J (IB rfl Try.underlying49 rfl) ?_
    refine J (Cc Z Z (IntWalk.i64_in _ (by omega)) rfl) (J (HS r.length Z Z hpe (by rw [List.length_map,List.length_append];omega) rfl Try.underlying49 D5 rfl) (AD Z Z (AF (AE (AE (AH (AC Z Z (AC Z Z ?_))))))))
    first | refine J (BC (v) Z Z (rfl) (hvl) Try.underlying99 rfl L5 rfl) ?_ | refine J (BD (v) Z Z (rfl) (hvl) rfl Try.underlying99 L5 rfl) ?_
    first | refine J (AZ Z Z PX rfl) ?_ | refine J (AX Z Z Z PX rfl) ?_ | refine J (AY Z Z (Gj hvl) rfl PX rfl) ?_
    refine AF ?_
    first | refine BA rfl (fun h86=>?_) (fun h86=>?_) | refine Aw rfl (fun h86=>?_) (fun h86=>?_)
    ·refine D7 ?_;exact ⟨(vis,r,[v]++jk),hI.skip h86,by show _<_;rw [List.length_append,List.length_singleton];exact Nat.lt_succ_self _,Ax hF [22,26,23,40] rfl (by rw [List.append_assoc];rfl) ⟨rfl,rfl,rfl,rfl,rfl,trivial⟩⟩
    ·refine Aj (AE ?_);have hI2:=hI.go h86;have hol:=EU hw hI.nd hI.vl;have hfw:=hw.few;have hol2:=EU hw hI2.nd hI2.vl;rw [DT,List.length_append] at hol2;refine AH (AC Z Z (AC Z Z ?_))
     first | refine J (BC (v) Z Z (rfl) (hvl) Try.underlying99 rfl L5 rfl) ?_ | refine J (BD (v) Z Z (rfl) (hvl) rfl Try.underlying99 L5 rfl) ?_
     refine U (Zci Z Z Z Z Z (by rw [Ik];exact hvl) Ij rfl L5) (AF (AE (AH (AC Z Z (AC Z Z (AC Z Z ?_))))))
     first | refine J (BC (v) Z Z (rfl) (Hy hvl) Try.underlying79 rfl Bl rfl) ?_ | refine J (BD (v) Z Z (rfl) (Hy hvl) rfl Try.underlying79 Bl rfl) ?_
     first | refine J (AZ Z Z AK rfl) ?_ | refine J (AX Z Z Z AK rfl) ?_ | refine J (AY Z Z (rfl) rfl AK rfl) ?_
     first | refine U (I2 (outS w vis) ((parts w).getD v []) Z Z Z Z Z Z Z Z B7 (by omega) Z Z Z Z) ?_ | refine U (Jf (outS w vis) ((parts w).getD v []) Z Z Z Z Z Z (fun _=>rfl) B7 (by omega) Z Z Z Z) ?_
     refine Kn 95 (.own 23 0 (outS w (vis++ [v])).length) rfl (by rw [DT]) (AD Z Z (AF ?_));have hnl:=Gt w true v;refine AH (AC Z Z (AC Z Z (AC Z Z ?_)))
     first | refine J (BC (v) Z Z (rfl) (Ko hvl) Try.underlying101 rfl Bk rfl) ?_ | refine J (BD (v) Z Z (rfl) (Ko hvl) rfl Try.underlying101 Bk rfl) ?_
     first | refine J (AZ Z Z Af rfl) ?_ | refine J (AX Z Z Z Af rfl) ?_ | refine J (AY Z Z (rfl) rfl Af rfl) ?_
     refine U (GV (zs:=(r++nxW w true v).map natD) Z Z Z (by rw [List.length_map,List.length_append,List.length_append];omega) Du (fun z hz=>by obtain ⟨a,_,rfl⟩:=List.mem_map.1 hz;rfl) (List.length_map ..) (by omega) Z Z (by rw [List.append_assoc,List.map_append,List.take_left' (by simp),←List.map_append]) Z Z) (Kn 101 (.own 26 0 (r++nxW w true v).length) rfl (by rw [List.length_append]) (AD Z Z (AF ?_)));exact ⟨(vis++ [v],r++nxW w true v,[]),hI.go h86,by have h1:=hI2.vlen;rw [List.length_append,List.length_singleton] at h1;have h2:=Gt w true v;show ((parts w).length - (vis++ [v]).length)*5000+(r++nxW w true v).length<((parts w).length - vis.length)*5000+(r++ [v]).length;simp only [List.length_append,List.length_singleton];omega,Ax hF [22,26,23,40] rfl (by simp only [DT,List.append_nil];rfl) ⟨rfl,rfl,rfl,rfl,rfl,trivial⟩⟩
   ·refine D7 (AE ?_)
    have hs0:stk=[]:=by
     have h1:=h71;exact List.length_eq_zero_iff.1 (by omega)
    subst hs0;have hcl:=hI.clo hw haR;have hol:=EU hw hI.nd hI.vl;have hfw:=hw.few;refine AH (AC Z Z (U (I9 OC (outS w vis) (by omega) Z Z Z Z Z Z Z) (AF (AE ?_))));rw [hcl];have hcn:(outS w vis).length=(cloW w a true).length:=by rw [←hcl,Ch]
    refine PZ (emb:=AU) 16 23 (cloW w a true) Z Z Z hcn Z Z Z (AH (AC Z Z (AD Z Z (AF (Av ?_)))));exact ⟨_,[40],_,As rfl,rfl,rfl,by rw [if_pos haR],rfl⟩
theorem inj_snd {E:List (St×Nat)} (hn:(E.map Prod.snd).Nodup) {p q:St×Nat} (hp:p∈E) (hq:q∈E) (e:p.2=q.2):p=q:=by
 induction E with
 | nil=>exact by cases hp
 | cons a r ih=>
  obtain ⟨h1,h2⟩:a.2∉r.map Prod.snd∧(r.map Prod.snd).Nodup:=List.nodup_cons.1 hn;rcases List.mem_cons.1 hp with rfl | hp'<;>rcases List.mem_cons.1 hq with rfl | hq'
  ·rfl
  ·exact (h1 (List.mem_map.2 ⟨q,hq',e.symm⟩)).elim
  ·exact (h1 (List.mem_map.2 ⟨p,hp',e⟩)).elim
  ·exact ih h2 hp' hq'
theorem LR.set {M:MF} {b m:Nat} {E:List (St×Nat)} {lk:Nat ->List Lk} (h:LR M b m E lk) {x:St} {hd:Nat} (hm:(x,hd)∈E) (L:List Lk):LR (BN M hd (.map none (Dt L))) b m E (Ak lk hd L):=by
 have h1:b≠hd:=fun e=>by have:=h.sub _ hm;rw [←e,h.cell] at this;cases this
 have h2:m≠hd:=fun e=>h.ne (by rw [e];exact List.mem_map.2 ⟨_,hm,rfl⟩);refine ⟨by rw [EJ h1];exact h.cell,by rw [EJ h2];exact h.top,fun p hp=>?_,h.nd,h.ne⟩
 by_cases e:p.2=hd
 ·rw [e,D6,Db]
 ·rw [EJ e,EM e];exact h.sub p hp
theorem LW.set {E:List (St×Nat)} {lk:Nat ->List Lk} {w w':Ws} (h:LW E lk w) (hnd:(E.map Prod.snd).Nodup) {x:St} {hd:Nat} (hm:(x,hd)∈E) {L:List Lk} (hR:w'.R=w.R) (hL:L.Nodup) (hs:∀l:Lk,l∈L↔(⟨x,l.t,l.r⟩:Lw)∈w'.K) (ho:∀l:Lw,l.f≠x ->(l∈w'.K↔l∈w.K)):LW E (Ak lk hd L) w':=by
 refine ⟨h.kd,fun y=>by rw [hR];exact h.ks y,fun p hp=>?_,fun p hp l=>?_⟩
 ·by_cases e:p.2=hd
  ·rw [e,Db];exact hL
  ·rw [EM e];exact h.ld p hp
 ·by_cases e:p.2=hd
  ·have hpe:=inj_snd hnd hp hm e;subst hpe;rw [Db];exact hs l
  ·rw [EM e,h.ls p hp l,ho];intro e2
   have e3:p=(x,hd):=by
    have:=Bn h.kd hp;rw [show p.1=x from e2,Bn h.kd hm] at this;injection this with this
    exact absurd this.symm e
   exact e (by rw [e3])
theorem LZ {M:MF} {b m:Nat} {E:List (St×Nat)} {lk:Nat ->List Lk} {w:Ws} (hr:LR M b m E lk) (hl:LW E lk w) {x:St} {hd:Nat} (hm:(x,hd)∈E) {l:Lk} (hn:(⟨x,l.t,l.r⟩:Lw)∉w.K):BX (BN M hd (.map none (Dt (lk hd++ [l])))) b (BQ w ⟨x,l.t,l.r⟩):=by
 have hln:l∉lk hd:=fun h=>hn ((hl.ls _ hm l).1 h);refine ⟨m,E,_,hr.set hm _,hl.set hr.nd hm rfl ?_ (fun l'=>?_) (fun l' hf=>?_)⟩
 ·exact List.nodup_append.2 ⟨hl.ld _ hm,by simp,fun a ha c hc e=>hln (by rw [←List.mem_singleton.1 hc,←e];exact ha)⟩
 ·show l'∈lk hd++ [l]↔_∈w.K++ [_];rw [List.mem_append,List.mem_append,hl.ls _ hm l',List.mem_singleton,List.mem_singleton];refine or_congr Iff.rfl ⟨fun e=>by rw [e],fun e=>?_⟩;injection e with _ e1 e2
  exact Lk.eq_iff.2 ⟨e1,e2⟩
 ·show l'∈w.K++ [_]↔_;rw [List.mem_append,List.mem_singleton];exact ⟨fun h=>h.elim id fun e=>absurd (by rw [e]) hf,.inl⟩
theorem Lg {M:MF} {b m:Nat} {E:List (St×Nat)} {lk:Nat ->List Lk} {w:Ws} (hr:LR M b m E lk) (hl:LW E lk w) {x:St} {hd:Nat} (hm:(x,hd)∈E) (l:Lk):BX (BN M hd (.map none (Dt ((lk hd).filter fun y=>!decide (y=l))))) b (CY w ⟨x,l.t,l.r⟩):=by
 refine ⟨m,E,_,hr.set hm _,hl.set hr.nd hm rfl (List.Nodup.sublist List.filter_sublist (hl.ld _ hm)) (fun l'=>?_) (fun l' hf=>?_)⟩
 ·show l'∈(lk hd).filter _↔_∈w.K.filter _;rw [List.mem_filter,List.mem_filter,hl.ls _ hm l'];refine and_congr Iff.rfl ?_;simp only [Bool.not_eq_true',decide_eq_false_iff_not];refine not_congr ⟨fun e=>by rw [e],fun e=>?_⟩;injection e with _ e1 e2
  exact Lk.eq_iff.2 ⟨e1,e2⟩
 ·show l'∈w.K.filter _↔_;rw [List.mem_filter];exact ⟨fun h=>h.1,fun h=>⟨h,by simp only [Bool.not_eq_true',decide_eq_false_iff_not];exact fun e=>hf (by rw [e])⟩⟩
abbrev HLk (b:Nat) (l:Lw) (e:Int):Hp:=[(910,[.blk 23 [.d (pD b 0)]]),(911,[.blk 9 [.d (AU l.f)]]),(912,[.blk 39 [.d (Bw l.t),.d (AU l.r)]]),(913,[.blk 25 [.d (Bw e)]])]
theorem K9 {M:MF} {b:Nat} {w:Ws} (h:BX M b w) (l:Lw) (hf:l.f∈w.R) (e:Int):JY Try.prog 46 [.ptr 913 0 0,.ptr 910 0 0,.ptr 911 0 0,.ptr 912 0 0] (HLk b l e++ [(40,[.multi M])]) fun r H'=>r= .tup []∧∃M',H'=HLk b l e++ [(40,[.multi M'])]∧BX M' b (if e=0 then w else CY w l):=by
 have hrep:=h;obtain ⟨m,E,lk,hr,hl⟩:=h;obtain ⟨hd,hm⟩:=hl.at hf;refine d_enter Try.func46 Z Z Try.ntmps46 Z Z Z fun F hF=>(AE (AH ?_))
 first | refine J (AZ Z Z on25 rfl) ?_ | refine J (AX Z Z Z on25 rfl) ?_ | refine J (AY Z Z (rfl) rfl on25 rfl) ?_
 first | refine J (Jh Z Z Z) ?_ | refine J (Jg Z Z Z) ?_ | refine J (JZ Z Z Z) ?_ | refine J (Ji Try.underlying25 Z Z Z) ?_ | refine J (Je Try.underlying25 Z Z Z) ?_ | refine J (st_neqN Try.underlying25 Z Z) ?_ | refine J (st_neqPr Try.underlying25 Z Z) ?_ | refine J (st_neqMz Try.underlying25 Z Z) ?_ | refine J (Jd Try.underlying25 Z Z Z) ?_ | refine J (st_neqFN Try.underlying25 Z Z) ?_
 refine AF ?_
 first | refine BA rfl (fun h5=>?_) (fun h5=>?_) | refine Aw rfl (fun h5=>?_) (fun h5=>?_)
 ·refine Fs [[],[0],[0,1],[0,1,2],[],[0,1,2,3,4],[],[0,1,2,3,4,5,6]] mixed rfl (E6 ?_)
  first | refine AG [1] [] Z Z (fun _=>AB (AZ Z Z BE rfl)) ?_ | refine AI [1] Z Z (fun _=>AB (AZ Z Z BE rfl)) ?_ | refine AG [1] [] Z Z (fun _=>AB (AX Z Z Z BE rfl)) ?_ | refine AI [1] Z Z (fun _=>AB (AX Z Z Z BE rfl)) ?_ | refine AG [1] [] Z Z (fun _=>AB (AY Z Z (rfl) rfl BE rfl)) ?_ | refine AI [1] Z Z (fun _=>AB (AY Z Z (rfl) rfl BE rfl)) ?_
  first | refine AG [6] [] Z Z (fun _=>AB (GJ Z Z)) ?_ | refine AI [6] Z Z (fun _=>AB (GJ Z Z)) ?_ | refine AG [6] [] Z Z (fun _=>AB (GH Z Z)) ?_ | refine AI [6] Z Z (fun _=>AB (GH Z Z)) ?_ | refine AG [6] [] Z Z (fun _=>AB (GK Z Z)) ?_ | refine AI [6] Z Z (fun _=>AB (GK Z Z)) ?_ | refine AG [6] [] Z Z (fun _=>AB (GI Z Z)) ?_ | refine AI [6] Z Z (fun _=>AB (GI Z Z)) ?_
  first | refine AG [7] [] Z Z (fun _=>AB (A2 rfl A8 Z Z Z)) ?_ | refine AI [7] Z Z (fun _=>AB (A2 rfl A8 Z Z Z)) ?_ | refine AG [7] [] Z Z (fun _=>AB (A4 rfl A8 Z Z Z)) ?_ | refine AI [7] Z Z (fun _=>AB (A4 rfl A8 Z Z Z)) ?_ | refine AG [7] [] Z Z (fun _=>AB (A5 rfl A8 Z Z Z)) ?_ | refine AI [7] Z Z (fun _=>AB (A5 rfl A8 Z Z Z)) ?_ | refine AG [7] [] Z Z (fun _=>AB (A3 rfl A8 Z Z Z)) ?_ | refine AI [7] Z Z (fun _=>AB (A3 rfl A8 Z Z Z)) ?_ | refine AG [7] [] Z Z (fun _=>AB (A1 rfl A8 Z Z Z)) ?_ | refine AI [7] Z Z (fun _=>AB (A1 rfl A8 Z Z Z)) ?_
  first | refine AG [8] [] Z Z (fun _=>AB (G9 (f:=40) Z Z (hr.cell) rfl Br rfl)) ?_ | refine AI [8] Z Z (fun _=>AB (G9 (f:=40) Z Z (hr.cell) rfl Br rfl)) ?_
  first | refine AG [2] [] Z Z (fun _=>AB (AZ Z Z AW rfl)) ?_ | refine AI [2] Z Z (fun _=>AB (AZ Z Z AW rfl)) ?_ | refine AG [2] [] Z Z (fun _=>AB (AX Z Z Z AW rfl)) ?_ | refine AI [2] Z Z (fun _=>AB (AX Z Z Z AW rfl)) ?_ | refine AG [2] [] Z Z (fun _=>AB (AY Z Z (rfl) rfl AW rfl)) ?_ | refine AI [2] Z Z (fun _=>AB (AY Z Z (rfl) rfl AW rfl)) ?_
  first | refine AG [9,10] [] Z Z (fun _=>AB (HM (f:=40) (eE E) l.f none (some hd) Z Z hr.top rfl C3 EX E9 (Bn hl.kd hm) rfl)) ?_ | refine AI [9,10] Z Z (fun _=>AB (HM (f:=40) (eE E) l.f none (some hd) Z Z hr.top rfl C3 EX E9 (Bn hl.kd hm) rfl)) ?_
  first | refine AG [3] [] Z Z (fun _=>AB (B3 Z Z Aq rfl)) ?_ | refine AI [3] Z Z (fun _=>AB (B3 Z Z Aq rfl)) ?_ | refine AG [3] [] Z Z (fun _=>AB (BZ Z Z Aq Z Z Z)) ?_ | refine AI [3] Z Z (fun _=>AB (BZ Z Z Aq Z Z Z)) ?_ | refine AG [3] [] Z Z (fun _=>AB (B1 Z Z (rfl) rfl Aq rfl)) ?_ | refine AI [3] Z Z (fun _=>AB (B1 Z Z (rfl) rfl Aq rfl)) ?_
  refine E7 7 Z Z Z (Bq 8 Z Z (U (Ge (f:=40) (EA (lk hd)) (⟨l.t,l.r⟩) (true) Z Z (hr.sub _ hm) rfl H7 Ix rfl) (AF ⟨rfl,?_⟩)));refine FH ?_;exact ⟨_,[910,911,912,913,40],_,As rfl,rfl,rfl,rfl,_,rfl,by rw [if_neg h5,IY (hl.ld _ hm)];exact Lg hr hl hm _⟩
 ·refine Aj ?_;exact ⟨_,[910,911,912,913,40],_,As rfl,rfl,rfl,rfl,_,rfl,by rw [if_pos (Classical.not_not.1 h5)];exact hrep⟩
end Go.Proofs.Ytlmedakidpaeeaa
